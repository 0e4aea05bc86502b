/- A part of the proof of FnTomlReadCardSaid: for every string the law FnTomlRead returns true. Conditions: those of the given row and card, no others. -/
import Derived.Test.YteonbmabmhoffaaGreatDoorA09
open Option renaming some->J,none->ab
open Bool renaming true->ai,false->av
open Go renaming Value->ao
open Go.Obj renaming cells->aO
open Go.Value renaming bool->aQ,slice->a5,int->ba,tuple->bA,pointer->bU,agg->cA,nilIface->cR,iface->cW
open Or renaming inl->bF,inr->bt
open List renaming length->U,toArray->aZ,drop->ax,take->bf
open Array renaming size->ag,toList->bC,push->a6,setIfInBounds->dy
namespace Go.Proofs.YteonbmabmhoffaaGreatDoor.F
set_option linter.all false
set_option autoImplicit true
set_option relaxedAutoImplicit true
set_option maxRecDepth 100000
set_option maxHeartbeats 4000000
noncomputable section
section
variable{β:Type}{aK Ns1:List eo}{br az r e:Nat}{l:List β}{a:β}{y:eo}
def Kids.last{P:Nat->Nat->β->Prop}:∀{l:List β} {br az r:Nat},Kids aK P br az r l->l≠[]->∃z,aK[r-1]?=J z
 |[],_,_,_,_,h=>absurd rfl h
 |[a],br,az,r,h,_=>by
  obtain⟨_,ad,x,an,_⟩:=h;grind
 |a::c::l,br,az,r,h,_=>by
  obtain⟨e,x,_,_,_,aT⟩:=h;exact Kids.last aT a1
def BB(h:j≠k):(aK.set k x)[j]?=aK[j]?:=Wq (λe=>h e.symm)
def Kids.add{P:List eo->Nat->Nat->β->Prop}(L:∀A B,Loc A B (P A) (P B))(h:Kids aK (P aK) br az r l)(FG:∀j,br<=j->j<az->Ns1[j]?=aK[j]?)(aJ:P Ns1 az e a)(a2:Ns1[az]?=J y)(aW:y.fZ=0):
  (l=[]->Kids Ns1 (P Ns1) br e (az+1) (l++[a]))/\(l≠[]->∃z k,r=k+1/\Ns1[k]?=J z/\br<=k/\k<az/\Kids (Ns1.set k ⟨z.kind,z.off,z.len,z.data,az+1,z.gO,z.lf⟩) (P (Ns1.set k ⟨z.kind,z.off,z.len,z.data,az+1,z.gO,z.lf⟩)) br e (az+1) (l++[a])):=by
 have X6:=L aK Ns1;have xX:=Kids.br X6.lt h;refine⟨λau=>?_,λau=>?_⟩
 .subst au;exact Kids.snoc X6 (L Ns1 Ns1).lt h (λj a b _=>FG j a b) (λh=>absurd rfl h) aJ a2 aW
 .have aa:=xX.2.2 au;obtain⟨z,aV⟩:=Kids.last h au;refine⟨z,r-1,I,(FG _ I I).trans aV,I,I,?_⟩;have oY:=(FG (r-1) I I).trans aV;have a':=(fk.1 oY).1;have aL:(Ns1.set (r-1) ⟨z.kind,z.off,z.len,z.data,az+1,z.gO,z.lf⟩)[r-1]?=J ⟨z.kind,z.off,z.len,z.data,az+1,z.gO,z.lf⟩:=D5 a';have bk:∀j,j≠r-1->(Ns1.set (r-1) ⟨z.kind,z.off,z.len,z.data,az+1,z.gO,z.lf⟩)[j]?=Ns1[j]?:=λj h=>BB h;generalize Ns1.set (r-1) ⟨z.kind,z.off,z.len,z.data,az+1,z.gO,z.lf⟩=gM at*;refine Kids.snoc (L aK gM) (L gM gM).lt h (λj a b c=>al) (λ_=>⟨λx ae=>?_,_,aL,rfl⟩) ((L Ns1 gM).go _ _ _ aJ (λj a b=>bk j I) (.of (bk _ I))) al aW;grind
end
def F6{x:eo}{j:Nat}(h:j<U L):(L++[x])[j]?=L[j]?:=pV h
def n9{x:eo}:(L++[x])[U L]?=J x:=al
section
variable{o:pt}{Pr:Nat->Prop}{m b9 i j k kd n:Nat}{h aa h':H}{aK:List eo}{R:K}{p b C bz:Nat}{c:Array ao}{ro:Option Nat}{x:eo}{u nK b' rest:ao}{lf:Ad}
structure pr(o:pt)(Pr:Nat->Prop)(h h':H)(b9:Nat)(aK cG:List eo):Prop where
 c9:dO o Pr h' b9 cG
 b3:lj Pr h h'
 len:U aK<=U cG
 pre:∀k,k<U aK->cG[k]?=aK[k]?
def pr.trans(a:pr o Pr h h' b9 aK cG)(b:pr o Pr h' cN b9 cG anD):pr o Pr h cN b9 aK anD:=⟨b.c9,a.b3.trans b.b3,dH a.len b.len,λk aq=>(b.pre k (cP aq a.len)).trans (a.pre k aq)⟩
def pr.refl(a:dO o Pr h b9 aK):pr o Pr h h b9 aK aK:=⟨a,λ_ _=>rfl,bQ _,λ_ _=>rfl⟩
def pr.push(a:pr o Pr h aa b9 aK cG)(aY:dO o Pr h' b9 (cG++[x]))(f:lj Pr aa h'):pr o Pr h h' b9 aK (cG++[x]):=⟨aY,a.b3.trans f,by have:=a.len;simp;omega,λk aq=>(F6 (cP aq a.len)).trans (a.pre k aq)⟩
def pr.set(a:pr o Pr h aa b9 aK cG)(aY:dO o Pr h' b9 (cG.set k x))(f:lj Pr aa h')(aq:U aK<=k):pr o Pr h h' b9 aK (cG.set k x):=⟨aY,a.b3.trans f,by have:=a.len;grind,λj aC=>(BB I).trans (a.pre j aC)⟩
def z7.of(f:lj Pr h aa)(q:z7 o Pr h R):z7 o Pr aa R:=λx y e ad f2 d er=>q x y e ad (f.trans f2) d er
def ano(res:Option (List B×Nat))(o:pt)(Pr:Nat->Prop)(h:H)(b9:Nat)(aK:List eo)(i:Nat)(R:ao->H->Prop):Prop:=match res with
 |J (ks,j)=>∀h' cG r v,pr o Pr h h' b9 aK cG->Kids cG (np cG) (U aK) (U cG) r ks->ks≠[]->U cG<=U aK+(j-i)->i<j->j<=U o.D->bp o.b j (U o.D) o.C v->R (bA #[dc (U aK+1:Nat),v,cR]) h'
 |none=>z7 o Pr h R
def aiZ(aY:dO o Pr h b9 aK)(a7:o.D.length<=400)(az:i<=o.D.length)(au:aK.length<=3000)(aD:bp o.b i o.D.length o.C u)(q:ano (gkey o.D i []) o Pr h b9 aK i R):bo 194 [aN o.p,u] h R:=by
 apply alJ;refine G1 (λm w f l h'=>∃(j:Nat) (acc:List B) (cG:List eo) (r:Nat),i<=j/\j<=o.D.length/\bp o.b j o.D.length o.C w/\pr o Pr h h' b9 aK cG/\Kids cG (np cG) aK.length cG.length r acc/\f=.j (hdN aK.length acc:Nat)/\l=.j (r:Nat)/\cG.length<=aK.length+(j-i)/\gkey o.D j acc=gkey o.D i []/\m=o.D.length-j) _
  ⟨i,[],aK,0,bQ _,az,aD,pr.refl aY,⟨rfl,rfl⟩,rfl,rfl,I,rfl,rfl⟩ ?_
 rintro m d w f l h' N ⟨j,acc,cG,r,eK,aC,hw,aX,aq,rfl,rfl,hlen,Fu,rfl⟩ CS;refine ai5 aX.c9 I a7 hw ?_;rw[<-Fu] at q;cases aL:gsk o.D j with
 |none=>
  intro x y e ad f2 d2 er;rw[E' aL] at q;have af:=gW er;refine bG af ?_;exact q _ _ _ _ (aX.b3.trans f2) d2 er
 |some ym=>
  obtain⟨s,bS⟩:=ym;intro n3 ij ad x rest iB b_ cp fB hx f2 wD;rw[Mf aL] at q Fu;have vk:=aX.push iB f2;have ady:=Kids.add (aK:=cG) (Ns1:=cG++[x]) (P:=np) (a:=s) (e:=cG.length+1) (λ_ _=>np.loc) aq (λj _ b=>F6 b) ⟨rfl,x,n9,b_,cp⟩ n9 fB;have cont:∀an jL,pr o Pr h an b9 aK jL->jL.length=cG.length+1->Kids jL (np jL) aK.length (cG.length+1) (cG.length+1) (acc++[s])->bD 126 [rest] an λlG h=>Pu (fb lG) h λjh h=>Pu (bn .gtr jh (.i 0)) h λiq h=>a0 iq ai (λh k=>k lG h) h λiY h=>a0 iq ai (Pu (ia 1 iY (.i 0))) h λri h=>a0 iq ai (cd ri) h λh4 h=>a0 iq ai (Pu (bn .eql h4 (.b 46))) h λv20 h=>Pu (pk iq v20 (.bool av)) h λgC h=>
    b1 gC (Pu (sl 1 lG (J (.i 1)) ab ab) h λf' h=>bD 126 [f'] h λg2 h=>N g2 (.j (hdN aK.length (acc++[s]):Nat)) (.j ((cG.length+1:Nat):Int)) h) (R (.tuple #[.j (hdN aK.length (acc++[s]):Nat),lG,.nilIface]) h):=by
   intro an jL SF mB oT;have s9:=SF.c9.doc;refine B3 s9 wD λch k2=>?_;have x4:=o6 (D:=o.D) (i:=bS) ij;have cI:=k2;obtain⟨s4,rfl,cZ,cj,eI,jB⟩:=k2;have e0:=s9.mH;have atD:=s9.len;have Im:hdN aK.length (acc++[s])=aK.length+1:=by cases acc<;>rfl
   have fin:g o.D (a9 o.D bS)≠46->R (.tuple #[.j (hdN aK.length (acc++[s]):Nat),.slice (J ⟨o.b,s4,ab⟩) (o.D.length-a9 o.D bS) (o.C-a9 o.D bS),.nilIface]) an:=λmV=>by
    rw[ak mV] at q;rw[Im];exact q _ _ _ _ SF (by rw[mB];exact oT) a1 I I x4.2 cI
   refine dG (dI s9 cZ) (hA s9 cZ) ?_;refine⟨λau=>⟨λmV=>?_,λmV=>fin mV⟩,λau=>fin (by rw[g6 I];decide)⟩;rw[aA mV] at Fu;have auR:=o6 (D:=o.D) (i:=a9 o.D bS+1) I;refine B3 (i:=a9 o.D bS+1) s9 (bp.of I I ⟨by (try unfold cX);grind,I,I,by (try unfold cX);grind⟩) λaAb Tr=>?_;exact CS (o.D.length-a9 o.D (a9 o.D bS+1)) _ _ _ _ I ⟨a9 o.D (a9 o.D bS+1),acc++[s],jL,cG.length+1,I,I,Tr,SF,al,rfl,rfl,I,Fu,rfl⟩
  refine aR ?_;refine lO ?_;by_cases bE:acc=[]
  .subst bE;have aW:bn .eql (.j (hdN aK.length ([]:List B):Nat)) (.j 0)=J (.bool ai):=rfl;have atE:cG.length=aK.length:=aq.1.symm;refine bG aW ?_;have:=cont ad _ vk a1 (ady.1 rfl);have aw:hdN aK.length ([]++[s])=cG.length+1:=by rw[atE];rfl
   rw[aw] at this;exact this
  .obtain⟨z,dq,aF,aV,oY,gp,oT⟩:=ady.2 bE;have aW:bn .eql (.j (hdN aK.length acc:Nat)) (.j 0)=J (.bool av):=by
    cases acc with
    |nil=>grind
    |cons a l=>simp[bn,eqV,hdN];omega
   subst aF;refine bG aW ?_;refine Cs (k:=dq) (f:=5) (ec:=⟨z.kind,z.off,z.len,z.data,cG.length+1,z.gO,z.lf⟩) iB aV (.inl rfl) (λ_=>rfl) ⟨rfl,rfl⟩ λan oR f3=>?_;have aw:hdN aK.length (acc++[s])=hdN aK.length acc:=by
    cases acc with
    |nil=>grind
    |cons a l=>rfl
   have:=cont an _ (vk.set oR f3 oY) a1 oT;rw[aw] at this;exact this
end
def p_{β:Type}(A:List eo->Nat->Nat->β->Prop)(res:Option (β×Nat))(o:pt)(Pr:Nat->Prop)(h:H)(b9:Nat)(aK:List eo)(i:Nat)(R:ao->H->Prop):Prop:=match res with
 |J (a,j)=>∀h' cG x v,pr o Pr h h' b9 aK cG->A cG (U aK) (U cG) a->cG[U aK]?=J x->x.fZ=0->U cG<=U aK+(j-i)->i<j->j<=U o.D->bp o.b j (U o.D) o.C v->R (bA #[dc (U aK+1:Nat),v,cR]) h'
 |none=>z7 o Pr h R
def Lg(D:B)(n:Nat):Prop:=∀{o:pt} {Pr:Nat->Prop} {h:H} {b9 i:Nat} {aK:List eo} {u:ao} {R:K},o.D=D->dO o Pr h b9 aK->U D<=400->i<=U D->U D-i<n->b9<=i->U aK<=i->bp o.b i (U D) o.C u->p_ (λaK=>At aK n) (gval D n i) o Pr h b9 aK i R->bo 127 [aN o.p,u] h R
def Kids.aG{β:Type}{P:Nat->Nat->β->Prop}{br az r:Nat}{l:List β}(h:Kids aK P br az r l)(au:l≠[]):hdN br l=br+1:=by
 cases l with
 |nil=>grind
 |cons a l=>rfl
section
variable{o:pt}{Pr:Nat->Prop}{m b9 i j k kd n:Nat}{h aa h':H}{aK:List eo}{R:K}{p b C bz:Nat}{c:Array ao}{ro:Option Nat}{x:eo}{u nK b' rest:ao}{lf:Ad}
def WK{K:F.K}:Bd (Z 189) [(0,1,ah (kd:Int))] h K=K (Jt ⟨kd,0,0,a5 ab 0 0,0,0,.no⟩) h:=by rw[EB];rfl
def aiT(eu:Lg o.D n)(aY:dO o Pr h b9 aK)(a7:o.D.length<=400)(az:i<o.D.length)(aI:o.D.length-i<=n)(A7:b9<=i)(au:aK.length<=i)(aD:bp o.b i o.D.length o.C u)(q:p_ (λaK=>oI aK (At aK n)) (gkv o.D (gval o.D n) i) o Pr h b9 aK i R):bo 182 [aN o.p,u] h R:=by
 apply alz;refine(WK (kd:=5)).mpr ?_;refine Ee aY I ⟨rfl,rfl,trivial⟩ ⟨rfl,rfl⟩ λaa hV f1=>?_;have ct:=(pr.refl aY).push hV f1;have kc:(aK++[(⟨5,0,0,.slice ab 0 0,0,0,.no⟩:eo)])[aK.length]?=J ⟨5,0,0,.slice ab 0 0,0,0,.no⟩:=n9;have fg:(aK++[(⟨5,0,0,.slice ab 0 0,0,0,.no⟩:eo)]).length=aK.length+1:=a1
 generalize R9:aK++[(⟨5,0,0,.slice ab 0 0,0,0,.no⟩:eo)]=Ns1 at*;refine aiZ hV a7 I I aD ?_;unfold gkv at q;cases aq:gkey o.D i [] with
 |none=>
  rw[aq] at q;intro x y e ad f2 d2 er;have af:=gW er;refine bG af ?_;exact q _ _ _ _ (f1.trans f2) d2 er
 |some wO=>
  obtain⟨ks,j⟩:=wO;rw[aq] at q;intro ad gM r v bd dq xW hlen eK aC acV;have fX:=bd.c9.doc;have auX:=acV;obtain⟨s4,rfl,cZ,cj,eI,jB⟩:=acV;have e0:=fX.mH;have atD:=fX.len;refine dG (dI fX cZ) (hA fX cZ) ?_;have bad:g o.D j≠61->z7 o Pr h R:=λhq=>by
   simp only[ak hq] at q;exact q
  have err:∀{x y e:ao} {an:H},g o.D j≠61->aB ad an->e2 an o.b o.D.length o.C e->R (.tuple #[x,y,e]) an:=λ{x y e an} hq aS er=>bad hq _ _ _ _ ((f1.trans bd.b3).trans (lj.g_ bd.c9 aS)) (bd.c9.ext aS).Bw er;have Ct:∀(s:B),g o.D j≠61->∀(aL:s.length<=1000:=by first|decide|assumption),bD 177 [Value.slice (J ⟨o.b,s4,ab⟩) (o.D.length-j) (o.C-j)] ad λjh h=>bD 51 [jh,S s,Value.slice ab 0 0] h λiq h=>R (.tuple #[.j 0,.slice ab 0 0,iq]) h:=λs hq aL=>
   W8 auX e0 λw e5 hw vn=>gU hw vn λgD an aS er=>err hq aS er
  refine⟨λh_=>Ct _ (by rw[g6 I];decide),λh_=>⟨λhq=>Ct _ hq,λhq=>?_⟩⟩;have hq:=OX.1 hq;simp only[aA hq] at q;refine B3 (i:=j+1) fX (bp.of I I ⟨by (try unfold cX);grind,I,I,by (try unfold cX);grind⟩) λch k2=>?_;have x4:=o6 (D:=o.D) (i:=j+1) I;refine eu (i:=a9 o.D (j+1)) rfl bd.c9 a7 x4.2 I I I k2 ?_;cases aX:gval o.D n (a9 o.D (j+1)) with
  |none=>
   rw[aX] at q;intro x y e an f3 d3 er;have af:=gW er;refine bG af ?_;exact q _ _ _ _ ((f1.trans bd.b3).trans f3) d3 er
  |some Cp=>
   obtain⟨a,k⟩:=Cp;rw[aX] at q;intro an jL y w cb xN n4 vw ack th oT hw;refine aR ?_;have av9:=bd.len;have aFB:=cb.len;have rL:jL[aK.length]?=J ⟨5,0,0,.slice ab 0 0,0,0,.no⟩:=by rw[cb.pre _ I,bd.pre _ I];exact kc
   refine Cs (k:=aK.length) (f:=6) (m:=gM.length+1) (ec:=⟨5,0,0,.slice ab 0 0,0,gM.length+1,.no⟩) cb.c9 rL (.inr rfl) (λ_=>rfl) ⟨rfl,rfl⟩ λaT AM f4=>?_;have ac7:(jL.set aK.length ⟨5,0,0,.slice ab 0 0,0,gM.length+1,.no⟩)[gM.length]?=J y:=al
   have Dg:(jL.set aK.length ⟨5,0,0,.slice ab 0 0,0,gM.length+1,.no⟩)[aK.length]?=J ⟨5,0,0,.slice ab 0 0,0,gM.length+1,.no⟩:=D5 (fk.1 rL).1;have eZ:=((ct.trans bd).trans cb).set AM f4 (bQ _);have bl:∀t,t≠aK.length->(jL.set aK.length ⟨5,0,0,.slice ab 0 0,0,gM.length+1,.no⟩)[t]?=jL[t]?:=λt aP=>BB aP;have sF:(jL.set aK.length ⟨5,0,0,.slice ab 0 0,0,gM.length+1,.no⟩).length=jL.length:=a1
   generalize jL.set aK.length ⟨5,0,0,.slice ab 0 0,0,gM.length+1,.no⟩=Ce at*;refine Cs (k:=gM.length) (f:=5) (m:=Ns1.length+1) (ec:=⟨y.kind,y.off,y.len,y.data,Ns1.length+1,y.gO,y.lf⟩) AM ac7 (.inl rfl) (λ_=>rfl) ⟨rfl,rfl⟩ λbN abB f5=>?_;have FN:(Ce.set gM.length ⟨y.kind,y.off,y.len,y.data,Ns1.length+1,y.gO,y.lf⟩)[aK.length]?=J ⟨5,0,0,.slice ab 0 0,0,gM.length+1,.no⟩:=al
   have avj:(Ce.set gM.length ⟨y.kind,y.off,y.len,y.data,Ns1.length+1,y.gO,y.lf⟩)[gM.length]?=J ⟨y.kind,y.off,y.len,y.data,Ns1.length+1,y.gO,y.lf⟩:=D5 (fk.1 ac7).1;have fW:=eZ.set abB f5 I;have dt:∀t,t≠gM.length->(Ce.set gM.length ⟨y.kind,y.off,y.len,y.data,Ns1.length+1,y.gO,y.lf⟩)[t]?=Ce[t]?:=λt aP=>BB aP;have wP:(Ce.set gM.length ⟨y.kind,y.off,y.len,y.data,Ns1.length+1,y.gO,y.lf⟩).length=Ce.length:=a1
   generalize Ce.set gM.length ⟨y.kind,y.off,y.len,y.data,Ns1.length+1,y.gO,y.lf⟩=Ev at*;refine aou (k:=aK.length) abB FN a7 aD hw I oT λcB arZ f6=>?_;have zp:(Ev.set aK.length ⟨5,i,k-i,.slice ab 0 0,0,gM.length+1,.no⟩)[aK.length]?=J ⟨5,i,k-i,.slice ab 0 0,0,gM.length+1,.no⟩:=D5 (fk.1 FN).1;have lV:=fW.set arZ f6 (bQ _);have e6:∀t,t≠aK.length->(Ev.set aK.length ⟨5,i,k-i,.slice ab 0 0,0,gM.length+1,.no⟩)[t]?=Ev[t]?:=λt aP=>BB aP;have x9:(Ev.set aK.length ⟨5,i,k-i,.slice ab 0 0,0,gM.length+1,.no⟩).length=Ev.length:=a1
   simp only at lV zp e6 x9⊢;generalize Ev.set aK.length ⟨5,i,k-i,.slice ab 0 0,0,gM.length+1,.no⟩=PO at*;have avk:PO[gM.length]?=J ⟨y.kind,y.off,y.len,y.data,Ns1.length+1,y.gO,y.lf⟩:=(e6 _ I).trans avj;have le:PO.length=jL.length:=I
   refine q cB PO _ _ lV ⟨gM.length,r,_,_,xW,?_,zp,rfl,rfl,?_,avk,al⟩ zp rfl I I oT hw
   .rw[<-fg];refine dq.EG np.loc λt a b=>?_;rw[e6 t I,dt t I,bl t I,cb.pre t I]
   .rw[le];refine(At.loc n).go _ _ _ xN (λt a b=>al) λx ae=>?_;grind
end
def anR{h:H}{k:K}{t:Nat}{v:ao}(aD:cellsL v=[v])(aa:one v=ai)(aL:0+1<=ag c):bZ 1 (aN (ag h)) v (a6 h (aO c t)) k=k undef (a6 h (aO (dy c 0 v) t)):=tQ (o:=0) aD aa aL
def tN(af:h[b]?=J (aO c t b3)):cd (aN b) h k=Pu c[0]? h k:=fs af
section
variable{o:pt}{Pr:Nat->Prop}{m b9 i j k kd n q bq eT t t1 t5:Nat}{h aa h':H}{aK:List eo}{R:K}{p b C bz:Nat}{c:Array ao}{ro:Option Nat}{x z:eo}{u nK b' rest:ao}{lf:Ad}
def kt.loc(a2:kt h bb v s)(b5:h[q]?=J (aO #[dc a] t)) (e:bV (J q) h h') (tk:h'[q]?=J (aO #[dc bM] t)):kt h' bb v s:=by
 by_cases af:bb=q
 .subst af;obtain⟨x,n,cap,c,eO,b3,rfl,ad,an,aT,bN⟩:=a2;rw[b5] at an;cases an;simp only[D7,nS,tK] at aT;have aI:n=0:=by
   rcases zZ n with e|e
   .exact e
   .have ae:x=0:=I
    have oV:n=1:=I
    subst ae;subst oV;cases s with
    |nil=>cases ad
    |cons a l=>simp[bv] at bN
  subst aI;refine⟨x,0,cap,_,_,_,rfl,ad,tk,by simp;omega,?_⟩;grind
 .exact a2.at (e.2 bb a2.lt (λe=>af (en e)))
def dO.loc(aY:dO o Pr h b9 aK)(aJ:Pr q)(A':o.aW.size<=q)(k0:q≠o.b)(b5:h[q]?=J (.cells #[.j a] t)) (e:bV (J q) h h') (tk:h'[q]?=J (.cells #[.j bM] t)):dO o Pr h' b9 aK:=by
 obtain⟨c,ro,dE,iR,dF,eC,s',ny⟩:=aY;obtain⟨v,cap,an,aF,oq,qV⟩:=dE.row;have aby:=ny q aJ;have cf:∀b,b<h.size->b≠q->h'[b]?=h[b]?:=λb af bk=>e.2 b af (λe=>bk (en e));refine⟨c,ro,⟨(cf _ (cm.1 dE.par).1 (λe=>aby.2.1 e.symm)).trans dE.par,dE.size,dE.n5,dE.fL,⟨v,cap,an,aF.at λr fh=>by subst fh;exact cf _ aF.lt (λe=>aby.2.2 (by rw[e])),oq,qV⟩,dE.pG,dE.hZ,dE.Dt,dE.Du,dE.yb,λy a2=>?_,dE.doc.at (cf _ dE.doc.lt (λe=>k0 e.symm))⟩,⟨dH iR.1 e.1,λb af bx bH=>al⟩,dF,eC,s',λb af=>⟨cP (ny b af).1 e.1,(ny b af).2⟩⟩;have:=dE.rQ y a2;refine⟨this.1,this.2.1,?_⟩;have:=this.2.2;cases au:y.lf with
 |no=>trivial
 |tok i j=>grind
 |str s=>
  rw[au] at this;obtain⟨bb,cZ,cj,ox,eI⟩:=this;exact⟨bb,cZ,cj,ox,eI.loc b5 e tk⟩
def dO.n5(aY:dO o Pr h b9 aK):∃c,h[o.p]?=J (aO c o.bz)/\c[0]?=J (aQ av):=by
 obtain⟨c,ro,dE,_⟩:=aY;exact⟨c,dE.par,dE.n5⟩
def aj1(q:bo 179 [u,nK,b',rest] h R):Cv (.func (.func 179) #[] #[nK,b',rest]) [u] h R:=⟨b4,q⟩
def aj2(q:bo 181 [u,nK,b',rest] h R):Cv (.func (.func 181) #[] #[nK,b',rest]) [u] h R:=⟨b4,q⟩
def aiO(aY:dO o Pr h b9 aK)(aJ:Pr q)(A':o.aW.size<=q)(k0:q≠o.b)(b5:h[q]?=some (.cells #[.j 0] t)) (jc:h[bq]?=some (.cells #[aN o.p] t1)) (zn:h[eT]?=some (.cells #[.j ((k+1:Nat):Int)] t5)) (ae:aK[k]?=some x)
  (h3:∀h',dO o Pr h' b9 (aK.set k ⟨x.kind,x.off,x.len,x.data,x.fZ,m,x.lf⟩)->(∀b,Pr b->b≠q->h'[b]?=h[b]?)->h'[q]?=some (.cells #[.j (m:Int)] t)->R (.tuple #[]) h'):bo 179 [.j (m:Int),aN q,aN bq,aN eT] h R:=by
 apply XM;have aW:bn .eql (.j 0) (.j 0)=some (.bool true):=rfl;(simp-implicitDefEqProofs+contextual (disch:=omega) only[go_sem,tN b5,tN jc,tN zn,aW];try refine c8 ?_)
 refine Cs (f:=6) (ec:=⟨x.kind,x.off,x.len,x.data,x.fZ,m,x.lf⟩) aY ae (.inr rfl) (λ_=>rfl) ⟨rfl,rfl⟩ λad iB f2=>?_;have mF:=(f2 q aJ).trans b5;refine fx (o:=0) mF a1 rfl rfl λan aS uv=>?_;exact h3 an (iB.loc aJ A' k0 mF aS uv) (λb af bk=>by
  obtain⟨c,ro,_,_,_,_,_,ny⟩:=iB;rw[aS.2 b (ny b af).1 (λe=>bk (en e)),f2 b af]) uv
def aiP(aY:dO o Pr h b9 aK)(aJ:Pr q)(A':o.aW.size<=q)(k0:q≠o.b)(b5:h[q]?=J (.cells #[.j ((k+1:Nat):Int)] t)) (jc:h[bq]?=J (.cells #[aN o.p] t1)) (ae:aK[k]?=J x)
  (h3:∀h',dO o Pr h' b9 (aK.set k ⟨x.kind,x.off,x.len,x.data,m,x.gO,x.lf⟩)->(∀b,Pr b->b≠q->h'[b]?=h[b]?)->h'[q]?=J (.cells #[.j (m:Int)] t)->R (.tuple #[]) h'):bo 179 [.j (m:Int),aN q,aN bq,aN eT] h R:=by
 apply XM;have aW:bn .eql (.j ((k+1:Nat):Int)) (.j 0)=J (.bool av):=by simp[bn,eqV];omega
 (simp-implicitDefEqProofs+contextual (disch:=omega) only[go_sem,tN b5,tN jc,aW];try refine c8 ?_)
 refine Cs (f:=5) (ec:=⟨x.kind,x.off,x.len,x.data,m,x.gO,x.lf⟩) aY ae (.inl rfl) (λ_=>rfl) ⟨rfl,rfl⟩ λad iB f2=>?_;have mF:=(f2 q aJ).trans b5;refine fx (o:=0) mF a1 rfl rfl λan aS uv=>?_;exact h3 an (iB.loc aJ A' k0 mF aS uv) (λb af bk=>by
  obtain⟨c,ro,_,_,_,_,_,ny⟩:=iB;rw[aS.2 b (ny b af).1 (λe=>bk (en e)),f2 b af]) uv
def aiR(aY:dO o Pr h b9 aK)(aJ:Pr q)(A':o.aW.size<=q)(k0:q≠o.b)(b5:h[q]?=some (.cells #[.j 0] t)) (jc:h[bq]?=some (.cells #[aN o.p] t1)) (zn:h[eT]?=some (.cells #[.j ((k+1:Nat):Int)] t5)) (ae:aK[k]?=some x)
  (h3:∀h',dO o Pr h' b9 (aK.set k ⟨x.kind,x.off,x.len,x.data,x.fZ,m,x.lf⟩)->(∀b,Pr b->b≠q->h'[b]?=h[b]?)->h'[q]?=some (.cells #[.j (m:Int)] t)->R (.tuple #[]) h'):bo 181 [.j (m:Int),aN q,aN bq,aN eT] h R:=by
 apply XO;have aW:bn .eql (.j 0) (.j 0)=some (.bool true):=rfl;(simp-implicitDefEqProofs+contextual (disch:=omega) only[go_sem,tN b5,tN jc,tN zn,aW];try refine c8 ?_)
 refine Cs (f:=6) (ec:=⟨x.kind,x.off,x.len,x.data,x.fZ,m,x.lf⟩) aY ae (.inr rfl) (λ_=>rfl) ⟨rfl,rfl⟩ λad iB f2=>?_;have mF:=(f2 q aJ).trans b5;refine fx (o:=0) mF a1 rfl rfl λan aS uv=>?_;exact h3 an (iB.loc aJ A' k0 mF aS uv) (λb af bk=>by
  obtain⟨c,ro,_,_,_,_,_,ny⟩:=iB;rw[aS.2 b (ny b af).1 (λe=>bk (en e)),f2 b af]) uv
def aiS(aY:dO o Pr h b9 aK)(aJ:Pr q)(A':o.aW.size<=q)(k0:q≠o.b)(b5:h[q]?=J (.cells #[.j ((k+1:Nat):Int)] t)) (jc:h[bq]?=J (.cells #[aN o.p] t1)) (ae:aK[k]?=J x)
  (h3:∀h',dO o Pr h' b9 (aK.set k ⟨x.kind,x.off,x.len,x.data,m,x.gO,x.lf⟩)->(∀b,Pr b->b≠q->h'[b]?=h[b]?)->h'[q]?=J (.cells #[.j (m:Int)] t)->R (.tuple #[]) h'):bo 181 [.j (m:Int),aN q,aN bq,aN eT] h R:=by
 apply XO;have aW:bn .eql (.j ((k+1:Nat):Int)) (.j 0)=J (.bool av):=by simp[bn,eqV];omega
 (simp-implicitDefEqProofs+contextual (disch:=omega) only[go_sem,tN b5,tN jc,aW];try refine c8 ?_)
 refine Cs (f:=5) (ec:=⟨x.kind,x.off,x.len,x.data,m,x.gO,x.lf⟩) aY ae (.inl rfl) (λ_=>rfl) ⟨rfl,rfl⟩ λad iB f2=>?_;have mF:=(f2 q aJ).trans b5;refine fx (o:=0) mF a1 rfl rfl λan aS uv=>?_;exact h3 an (iB.loc aJ A' k0 mF aS uv) (λb af bk=>by
  obtain⟨c,ro,_,_,_,_,_,ny⟩:=iB;rw[aS.2 b (ny b af).1 (λe=>bk (en e)),f2 b af]) uv
end
def Ac{b:Nat}{h:H}{c:Array ao}{t:Nat}{b3:Nat×Nat}(af:h[b]?=J (aO c t b3))⦃k:K⦄:cd (aN b) h k=Pu c[0]? h k:=fs af
def RM(h:g D i=0):gval D n i=ab:=by
 cases n with
 |zero=>rfl
 |succ n=>
  rw[gval,ak I,ak I];unfold kA;rw[ak I];unfold gm;simp[h,cT,scaT,scA]
def aqK(h:g D i=0):gkv D V i=ab:=by
 have:gsk D i=ab:=by
  unfold gsk;have af:bareN (ax i D)=0:=by
   rcases jw i (U D) with au|au
   .rw[nt au,bareN,<-fu au,h];rfl
   .rw[iu au];rfl
  rw[ak I,ak I,aA af]
 unfold gkv;rw[E' this]
structure uP{β:Type}(o:pt)(Pr:Nat->Prop)(h:H)(b9:Nat)(aK:List eo)(bq eT lF kd:Nat)(P:List eo->Nat->Nat->β->Prop)(acc:List β)(r:Nat)(ae:H)(cG:List eo):Prop where
 d:ag h<=bq/\bq<eT/\eT<lF/\o.b<ag h/\ag o.aW<=ag h/\∀b,Pr b->b<ag h
 c9:dO o (λb=>Pr b\/b=bq\/b=eT\/b=lF) ae b9 cG
 b3:lj Pr h ae
 pre:∀k,k<U aK->cG[k]?=aK[k]?
 root:∃x,cG[U aK]?=J x/\x.kind=kd/\x.fZ=0/\x.gO=hdN (U aK+1) acc
 kids:Kids cG (P cG) (U aK+1) (U cG) r acc
 c3:ae[bq]?=J (aO #[aN o.p] 110)
 wP:ae[eT]?=J (aO #[dc (U aK+1:Nat)] 21)
 adT:ae[lF]?=J (aO #[dc r] 21)
section
variable{β:Type}{o:pt}{Pr:Nat->Prop}{m b9 i j k kd n bq eT lF r:Nat}{h ae a2 aa h':H}{aK cG gM:List eo}{R:K}{P:List eo->Nat->Nat->β->Prop}{acc:List β}{a:β}{y:eo}{u:ao}
def uP.step(A:uP o Pr h b9 aK bq eT lF kd P acc r ae cG)(e:aB ae a2):uP o Pr h b9 aK bq eT lF kd P acc r a2 cG:=by
 have f:lj _ ae a2:=lj.g_ A.c9 e;exact⟨A.d,A.c9.ext e,A.b3.trans λb af=>f b (bF af),A.pre,A.root,A.kids,(f _ (bt (bF rfl))).trans A.c3,(f _ (bt (bt (bF rfl)))).trans A.wP,(f _ (bt (bt (bt rfl)))).trans A.adT⟩
def uP.link(L:∀A B,Loc A B (P A) (P B))(A:uP o Pr h b9 aK bq eT lF kd P acc r ae cG)(G:pr o (λb=>Pr b\/b=bq\/b=eT\/b=lF) ae a2 b9 cG gM)(aJ:P gM (U cG) (U gM) a)(n4:gM[U cG]?=J y)(vw:y.fZ=0)
  (C:(∀aV jL,uP o Pr h b9 aK bq eT lF kd P (acc++[a]) (U cG+1) aV jL->U jL=U gM->R (bA #[]) aV)):bo 179 [dc ((U cG+1:Nat):Int),aN lF,aN bq,aN eT] a2 R/\bo 181 [dc ((U cG+1:Nat):Int),aN lF,aN bq,aN eT] a2 R:=by
 obtain⟨d1,d2,d3,d4,d5,d6⟩:=A.d;obtain⟨x,kc,k3,rL,Dg⟩:=A.root;have a':=(fk.1 kc).1;have au:=G.len;have f1:=G.b3;have dK:=(f1 _ (bt (bF rfl))).trans A.c3;have zy:=(f1 _ (bt (bt (bF rfl)))).trans A.wP;have NQ:=(f1 _ (bt (bt (bt rfl)))).trans A.adT;have add:=Kids.add L A.kids (λj _ b=>G.pre j b) aJ n4 vw;have ac4:gM[U aK]?=J x:=(G.pre _ a').trans kc;have fin:∀aV jL,dO o (λb=>Pr b\/b=bq\/b=eT\/b=lF) aV b9 jL->(∀b,(Pr b\/b=bq\/b=eT\/b=lF)->b≠lF->aV[b]?=a2[b]?)->aV[lF]?=J (aO #[dc (U cG+1:Nat)] 21)->U jL=U gM->(∀k,k<U aK->jL[k]?=gM[k]?)->(∃x,jL[U aK]?=J x/\x.kind=kd/\x.fZ=0/\x.gO=hdN (U aK+1) (acc++[a]))->Kids jL (P jL) (U aK+1) (U gM) (U cG+1) (acc++[a])->R (bA #[]) aV:=λaV jL s1 s2 dB jf pI q8 yl=>
  C aV jL ⟨A.d,s1,λb af=>by rw[s2 b (bF af) al,f1 b (bF af),A.b3 b af],λk aq=>by rw[pI k aq,G.pre k I,A.pre k aq],q8,al,(s2 bq (bt (bF rfl)) I).trans dK,(s2 eT (bt (bt (bF rfl))) I).trans zy,dB⟩ jf
 by_cases bE:acc=[]
 .subst bE;have aF:r=0:=A.kids.2;subst aF;have hlen:U aK+1=U cG:=A.kids.1;have dq:=add.1 rfl;have go:∀aV,dO o (λb=>Pr b\/b=bq\/b=eT\/b=lF) aV b9 (gM.set (U aK) ⟨x.kind,x.off,x.len,x.data,x.fZ,U cG+1,x.lf⟩)->(∀b,(Pr b\/b=bq\/b=eT\/b=lF)->b≠lF->aV[b]?=a2[b]?)->aV[lF]?=J (aO #[dc (U cG+1:Nat)] 21)->R (bA #[]) aV:=λaV s1 s2 dB=>by
   refine fin aV _ s1 s2 dB a1 (λk aq=>BB I) ⟨_,D5 I,k3,rL,?_⟩ ?_
   .simp only[hdN,sS];omega
   .exact dq.EG (L _ _) λj a b=>BB I
  exact⟨aiO G.c9 (bt (bt (bt rfl))) I I NQ dK zy ac4 go,aiR G.c9 (bt (bt (bt rfl))) I I NQ dK zy ac4 go⟩
 .obtain⟨z,dq,rfl,aV,oY,gp,oT⟩:=add.2 bE;have go:∀aV,dO o (λb=>Pr b\/b=bq\/b=eT\/b=lF) aV b9 (gM.set dq ⟨z.kind,z.off,z.len,z.data,U cG+1,z.gO,z.lf⟩)->(∀b,(Pr b\/b=bq\/b=eT\/b=lF)->b≠lF->aV[b]?=a2[b]?)->aV[lF]?=J (aO #[dc (U cG+1:Nat)] 21)->R (bA #[]) aV:=λaV s1 s2 dB=>by
   refine fin aV _ s1 s2 dB a1 (λk aq=>BB I) ⟨x,al,k3,rL,?_⟩ oT;rw[Dg];cases acc with
   |nil=>grind
   |cons a l=>rfl
  exact⟨aiP G.c9 (bt (bt (bt rfl))) I I NQ dK aV go,aiS G.c9 (bt (bt (bt rfl))) I I NQ dK aV go⟩
end
section
variable{o:pt}{Pr:Nat->Prop}{m b9 i j k kd n bq eT lF r:Nat}{h ae a2 aa h':H}{aK cG gM:List eo}{R:K}{u:ao}
def aiy(eu:Lg o.D n)(aY:dO o Pr h b9 aK)(a7:U o.D<=400)(az:i<U o.D)(aI:U o.D-i<=n)(A7:b9<=i+1)(au:U aK<=i)(Sb:ag o.aW<=ag h)(aD:bp o.b i (U o.D) o.C u)(q:p_ (λaK=>At aK (n+1)) (Hh (gseq o.D 93 (gval o.D n) (U o.D+1) av [] (i+1))) o Pr h b9 aK i R):bo 156 [aN o.p,u] h R:=by
 apply ak9;have y7:∀b,Pr b->b<ag h:=λb af=>by obtain⟨c,ro,_,_,_,_,_,lW⟩:=aY;grind
 have ef:∀K,lh 110 (aN o.p) h K=K (aN (ag h)) (a6 h (aO #[aN o.p] 110)):=λK=>rfl;rw[ef];have aw:=aB.push h (aO #[aN o.p] 110);have jc:(a6 h (aO #[aN o.p] 110))[ag h]?=J (aO #[aN o.p] 110):=dS _ _;rw[tN jc];have CY:=aY.doc.lt;have oY:ag (a6 h (aO #[aN o.p] 110))=ag h+1:=a1
 generalize a6 h (aO #[aN o.p] 110)=aa at*;have hV:dO o (λb=>Pr b\/b=ag h) aa b9 aK:=aY.more aw λb af=>af.imp (λh=>h) (λh=>I);refine(show∀{K:F.K},K (aN o.p) aa->Pu (#[aN o.p][0]?) aa K from λq=>q) ?_;refine(WK (kd:=6)).mpr ?_;refine Ee hV I ⟨rfl,rfl,trivial⟩ ⟨rfl,rfl⟩ λad iB f2=>?_;have abx:∀b,(Pr b\/b=ag h)->b<ag ad:=λb af=>by obtain⟨c,ro,_,_,_,_,_,lW⟩:=iB;grind
 have aun:=(f2 (ag h) (bt rfl)).trans jc;have auY:=abx (ag h) (bt rfl);have D1:aZ (Z 21)=#[dc 0]:=by rw[(b4:Z 21=[dc 0])]
 rw[gE,anR rfl rfl al,D1];have aS:=aB.push ad (aO (dy #[Value.int .i32 0] 0 (dc (U aK+1:Nat))) 21);have zn:(a6 ad (aO (dy #[Value.int .i32 0] 0 (dc (U aK+1:Nat))) 21))[ag ad]?=J (aO #[dc (U aK+1:Nat)] 21):=dS _ _;have Be:ag (a6 ad (aO (dy #[Value.int .i32 0] 0 (dc (U aK+1:Nat))) 21))=ag ad+1:=a1
 generalize a6 ad (aO (dy #[Value.int .i32 0] 0 (dc (U aK+1:Nat))) 21)=an at*;have k1:∃w,sl 1 u (J (ah 1)) ab ab=J w/\bp o.b (i+1) (U o.D) o.C w:=by
  have e0:=aY.doc.mH;obtain⟨e,rfl,cZ,cj,eI,jB⟩:=aD;exact⟨a5 (J ⟨o.b,cX (o.C-i) 1 e,ab⟩) (U o.D-i-1) (o.C-i-1),by exact aR trivial,ck⟩
 obtain⟨w,qs,ow⟩:=k1;rw[qs,bs,gE,D1];have bl:=aB.push an (aO #[Value.int .i32 0] 21);have S':(a6 an (aO #[Value.int .i32 0] 21))[ag an]?=J (aO #[dc 0] 21):=dS _ _;have FP:ag (a6 an (aO #[Value.int .i32 0] 21))=ag an+1:=a1
 generalize a6 an (aO #[Value.int .i32 0] 21)=aT at*;have AM:dO o (λb=>Pr b\/b=ag h\/b=ag ad\/b=ag an) aT b9 (aK++[⟨6,0,0,a5 ab 0 0,0,0,.no⟩]):=iB.more (aS.trans bl) λb af=>by
  grind
 have z2:uP o Pr h b9 aK (ag h) (ag ad) (ag an) 6 (λaK=>At aK n) [] 0 aT (aK++[⟨6,0,0,a5 ab 0 0,0,0,.no⟩]):=⟨⟨bQ _,auY,I,CY,Sb,y7⟩,AM,λb af=>by
  rw[bl.2 b al,aS.2 b (abx b (bF af)),f2 b (bF af),aw.2 b (y7 b af)],λk aq=>F6 aq,⟨_,n9,rfl,rfl,rfl⟩,⟨a1,rfl⟩,by
  rw[bl.2 _ I,aS.2 _ I];exact aun,(bl.2 _ I).trans zn,S'⟩
 refine Es (λm w f l fE h'=>∃(j:Nat) (a:Bool) (acc:List e') (cG:List eo) (r F:Nat),fE=aQ a/\i<j/\j<=U o.D/\bp o.b j (U o.D) o.C w/\uP o Pr h b9 aK (ag h) (ag ad) (ag an) 6 (λaK=>At aK n) acc r h' cG/\U cG<=U aK+(j-i)/\U o.D-j<F/\gseq o.D 93 (gval o.D n) F a acc j=gseq o.D 93 (gval o.D n) (U o.D+1) av [] (i+1)/\m=U o.D-j) _
  ⟨i+1,av,[],_,0,U o.D+1,rfl,I,I,ow,z2,a1,I,rfl,rfl⟩ ?_
 rintro m d bh f l fE ae N ⟨j,a,acc,cG,r,F,rfl,eK,aC,hw,A,hlen,iR,ka,rfl⟩ CS;have aM:=A.c9.doc;refine B3 aM hw λhv IT=>?_;have x4:=o6 (D:=o.D) (i:=j) aC;obtain⟨F,rfl⟩:∃F',F=F'+1:=⟨F-1,I⟩;rw[gseq] at ka;rw[<-ka] at q;have cI:=IT;obtain⟨s4,rfl,cZ,cj,eI,jB⟩:=IT;have e0:=aM.mH;obtain⟨c,hM,hL⟩:=A.c9.n5;have bad:∀{X:Option (List e'×Nat)},X=ab->p_ (λaK=>At aK (n+1)) (Hh X) o Pr h b9 aK i R->∀{x y e:ao} {an:H},aB ae an->e2 an o.b (U o.D) o.C e->R (bA #[x,y,e]) an:=λ{X} fP h3 {x y e an} aS er=>by
  subst fP;exact h3 _ _ _ _ (A.step aS).b3 (A.step aS).c9.Bw er
 have tW:gseq o.D 93 (gval o.D n) (F+1) a acc j=ab->∀{a2:H} {w:ao} {e5:Nat} s x,aB ae a2->bp o.b (a9 o.D j) e5 o.C w->e5<=U o.D->∀(aL:U s<=1000:=by first|decide|assumption),bD 51 [w,S s,x] a2 λjh h=>R (bA #[dc 0,a5 ab 0 0,jh]) h:=λfP {a2 w e5} s x ar ow vn aL=>
  gU ow vn λe an aS er=>bad (by rw[gseq] at fP;exact fP) q (ar.trans aS) er
 have vU:gseq o.D 93 (gval o.D n) (F+1) a acc j=ab->∀x u,bp o.b (a9 o.D j) (a9 o.D j+1) o.C u->a9 o.D j<U o.D->cellsL x=[x]->∀s,∀(aL:U s<=1000:=by first|decide|assumption),ew 20 1 (Z 20) [(0,1,x)] ae λh4 h=>bD 51 [u,S s,h4] h λjh h=>R (bA #[dc 0,a5 ab 0 0,jh]) h:=λfP x u hu au ae s aL=>by
  rw[pn oJ rfl ae];exact tW fP s _ (aB.push _ _) hu I
 have hQ:∀{w f l:ao} {a2:H} {e5 F':Nat} {bM:Bool},j<e5->e5<=U o.D->bp o.b e5 (U o.D) o.C w->aB ae a2->gseq o.D 93 (gval o.D n) F bM acc e5=gseq o.D 93 (gval o.D n) (F+1) a acc j->N w f l (aQ bM) a2:=λ{w f l a2 e5 F' bM} aa ad an aT bN=>
  CS (U o.D-e5) _ _ _ _ _ I ⟨e5,bM,acc,cG,r,F,rfl,I,ad,an,A.step aT,I,I,by rw[bN,gseq];exact ka,rfl⟩
 refine DZ (dI aM cZ) (hA aM cZ) (Ac A.c3) (Ac A.wP) (c4 hM) hL ?_;refine⟨λh_=>?_,λh_=>⟨λuj=>?_,λBp=>⟨λdh=>?_,λpF=>⟨λdx=>⟨λfg=>⟨λbO=>?_,λbO=>?_⟩,λfg=>?_⟩,λuB=>⟨λpB=>?_,λDr=>⟨λmw=>?_,λJc=>?_⟩⟩⟩⟩⟩⟩
 .have aW:g o.D (a9 o.D j)=0:=g6 I;refine tW ?_ _ _ (aB.refl _) cI (bQ _);rw[gseq,ak I,ak I,ak I,ak I,ak I,RM aW];grind
 .rw[aA uj] at q;obtain⟨x,kc,k3,rL,Dg⟩:=A.root;have a':=(fk.1 kc).1;refine q ae cG x _ ⟨A.c9.less λb af=>bF af,A.b3,I,A.pre⟩ ⟨x,kc,k3,Dg,r,A.kids⟩ kc rL I I I ck
 .refine hQ (e5:=a9 o.D j+1) (F':=F) I I ck (aB.refl _) ?_;conv=>rhs;rw[gseq]
  rw[ak Bp,aA dh]
 .refine hQ (e5:=a9 o.D j+2) (F':=F) I I ck (aB.refl _) ?_;conv=>rhs;rw[gseq]
  rw[ak Bp,ak pF,aA dx,aA bO]
 .exact vU (by rw[gseq,ak Bp,ak pF,aA dx,ak bO]) _ _ ck I rfl _
 .have bO:g o.D (a9 o.D j+1)≠10:=by rw[g6 I];decide
  exact vU (by rw[gseq,ak Bp,ak pF,aA dx,ak bO]) _ _ ck I rfl _
 .refine Pv aM cI I (λbc x y a2 ar A1 bx bH s1 s2=>?_) λx y e a2 A1 ar er=>?_
  .have GJ:=A.step ar;obtain⟨c2,FF,Sn⟩:=GJ.c9.n5;have SB:fd 0 (aN o.p)=J (bU (J ⟨o.p,0,ab⟩)):=oO;refine i_ (Ac GJ.c3) SB (c4 FF) Sn ?_;refine hQ (e5:=bc) (F':=F) I bH s2 ar ?_;conv=>rhs;rw[gseq]
   rw[ak Bp,ak pF,ak uB,aA pB,A1]
  .have af:=gW er;refine bG af ?_;grind
 .have apC:gseq o.D 93 (gval o.D n) (F+1) a acc j=if a=ai then gseq o.D 93 (gval o.D n) F av acc (a9 o.D j+1) else ab:=by
   rw[gseq,ak Bp,ak pF,ak uB,ak Dr,aA mw]
  cases a with
  |false=>
   refine dG (dI aM cZ) (hA aM cZ) ?_;exact vU al _ _ ck I rfl _
  |true=>
   refine aR ?_;exact hQ (e5:=a9 o.D j+1) (F':=F) I I ck (aB.refl _) al
 .cases a with
  |true=>
   have QX:gseq o.D 93 (gval o.D n) (F+1) ai acc j=ab:=by
    rw[gseq,ak Bp,ak pF,ak uB,ak Dr,ak Jc];rfl
   refine aR ?_;exact tW (e5:=a9 o.D j+1) QX _ _ (aB.refl _) ck I
  |false=>
   rw[ak Bp,ak pF,ak uB,ak Dr,ak Jc,ak aE] at q ka;refine bG (Ac A.c3) ?_;refine eu rfl A.c9 a7 x4.2 I I I cI ?_;cases aX:gval o.D n (a9 o.D j) with
   |none=>
    rw[aX] at q;intro x y e a2 f2 d2 er;have af:=gW er;refine bG af ?_;exact q _ _ _ _ (A.b3.trans λb af=>f2 b (bF af)) d2 er
   |some Cp=>
    obtain⟨cJ,I1⟩:=Cp;rw[aX] at ka;intro a2 gM y w G xN n4 vw ack th oT vv;refine aR ?_;refine aj1 (uP.link (λA B=>At.loc n) A G xN n4 vw λaV jL qF mB=>?_).1;exact CS (U o.D-I1) _ _ _ _ _ I ⟨I1,ai,acc++[cJ],jL,U cG+1,F,rfl,I,oT,vv,qF,I,I,ka,rfl⟩
end
section
variable{o:pt}{Pr:Nat->Prop}{m b9 i j k kd n bq eT lF r:Nat}{h ae a2 aa h':H}{aK cG gM:List eo}{R:K}{u:ao}
def WI{i l:Nat}{K:F.K}:Bd (Z 189) [(0,1,ah 7),(1,2,cA #[ba .u32 (i:Int),ba .u32 (l:Int)])] h K=K (Jt ⟨7,i,l,a5 ab 0 0,0,0,.no⟩) h:=by rw[EB];rfl
def aiz(eu:Lg o.D n)(aY:dO o Pr h b9 aK)(a7:U o.D<=400)(az:i<U o.D)(aI:U o.D-i<=n)(A7:b9<=i+1)(au:U aK<=i)(Sb:ag o.aW<=ag h)(aD:bp o.b i (U o.D) o.C u)(q:p_ (λaK=>At aK (n+1)) (JL (gseq o.D 125 (gkv o.D (gval o.D n)) (U o.D+1) av [] (i+1))) o Pr h b9 aK i R):bo 157 [aN o.p,u] h R:=by
 apply ala;have y7:∀b,Pr b->b<ag h:=λb af=>by obtain⟨c,ro,_,_,_,_,_,lW⟩:=aY;grind
 have ef:∀K,lh 110 (aN o.p) h K=K (aN (ag h)) (a6 h (aO #[aN o.p] 110)):=λK=>rfl;rw[ef];have aw:=aB.push h (aO #[aN o.p] 110);have jc:(a6 h (aO #[aN o.p] 110))[ag h]?=J (aO #[aN o.p] 110):=dS _ _;have CY:=aY.doc.lt;have oY:ag (a6 h (aO #[aN o.p] 110))=ag h+1:=a1
 generalize a6 h (aO #[aN o.p] 110)=aa at*;have e0:=aY.doc.mH;have k1:∃w,sl 1 u (J (ah 1)) ab ab=J w/\bp o.b (i+1) (U o.D) o.C w:=by
  obtain⟨e,rfl,cZ,cj,eI,jB⟩:=aD;exact⟨a5 (J ⟨o.b,cX (o.C-i) 1 e,ab⟩) (U o.D-i-1) (o.C-i-1),by exact aR trivial,ck⟩
 have auU:∃w,sl 1 u ab (J (ah 1)) ab=J w/\bp o.b i (i+1) o.C w:=by
  obtain⟨e,rfl,cZ,cj,eI,jB⟩:=aD;exact⟨a5 (J ⟨o.b,e,ab⟩) 1 (o.C-i),by exact aR trivial,ck⟩
 obtain⟨w,qs,ow⟩:=k1;obtain⟨sR,vv,No⟩:=auU;have D1:aZ (Z 21)=#[dc 0]:=by rw[(b4:Z 21=[dc 0])]
 have hV:dO o (λb=>Pr b\/b=ag h) aa b9 aK:=aY.more aw λb af=>af.imp (λh=>h) (λh=>I);refine⟨λjh ae=>∃eT,jh=aN eT/\ag h<eT/\eT<ag ae/\dO o (λb=>Pr b\/b=ag h\/b=eT) ae b9 (aK++[⟨7,i,1,a5 ab 0 0,0,0,.no⟩])/\ae[ag h]?=J (aO #[aN o.p] 110)/\ae[eT]?=J (aO #[dc (U aK+1:Nat)] 21)/\lj Pr h ae,λd jh an cr=>?_,?_⟩;rotate_left
 .have fin:∀{eT:Nat} {a2:H},ag h<eT->dO o (λb=>Pr b\/b=ag h\/b=eT) a2 b9 (aK++[⟨7,i,1,a5 ab 0 0,0,0,.no⟩])->a2[ag h]?=J (aO #[aN o.p] 110)->a2[eT]?=J (aO #[dc 0] 21)->lj Pr h a2->bZ 1 (aN eT) (dc (U aK+1:Nat)) a2 λ_ ae=>∃q,aN eT=aN q/\ag h<q/\q<ag ae/\dO o (λb=>Pr b\/b=ag h\/b=q) ae b9 (aK++[⟨7,i,1,a5 ab 0 0,0,0,.no⟩])/\ae[ag h]?=J (aO #[aN o.p] 110)/\ae[q]?=J (aO #[dc (U aK+1:Nat)] 21)/\lj Pr h ae:=λ{eT a2} bx bH cq dT e3=>by
   have a':=(cm.1 dT).1;refine fx (o:=0) dT aE rfl rfl λae ar b5=>?_;refine⟨eT,rfl,bx,cP a' ar.1,bH.loc (bt (bt rfl)) I I dT ar b5,?_,b5,λb af=>?_⟩
   .rw[ar.2 _ I (λe=>al)];exact cq
   .have:=y7 b af;rw[ar.2 _ I (λe=>al)];exact e3 b af
  dsimp only;rw[tN jc];refine(show∀{K:F.K},K (aN o.p) aa->Pu (#[aN o.p][0]?) aa K from λq=>q) ?_;rw[tN jc];refine(show∀{K:F.K},K (aN o.p) aa->Pu (#[aN o.p][0]?) aa K from λq=>q) ?_;rw[vv,bs];have Vj:∀{a2:H} {K:F.K},dO o (λb=>Pr b\/b=ag h) a2 b9 aK->(∀aV,aB a2 aV->K (cA #[ba .u32 i,ba .u32 ((i+1-i:Nat):Int)]) aV)->vJ 154 [aN o.p,sR] a2 K:=λ{a2 K} ar1 h3=>by
   obtain⟨c,b',dE,aG,tb⟩:=ar1.fL;exact W4 dE aG tb No I I e0 λaV e=>⟨e,h3 aV e⟩
  have AD:i+1-i=1:=I
  rw[AD] at Vj;refine⟨?_,?_⟩
  .refine Vj hV λad ar=>?_;rw[WI];have mF:=(ar.2 (ag h) I).trans jc;refine⟨?_,?_⟩
   .refine Ee (hV.ext ar) I ⟨rfl,rfl,trivial⟩ ⟨rfl,rfl⟩ λan oR f3=>?_;have Sa:∀b,(Pr b\/b=ag h)->b<ag an:=λb af=>by obtain⟨c,ro,_,_,_,_,_,lW⟩:=oR;grind
    rw[gE,D1];have bl:=aB.push an (aO #[Value.int .i32 0] 21);refine fin (Sa _ (bt rfl)) (oR.more bl λb af=>?_) ?_ (dS _ _) λb af=>?_
    .grind
    .rw[bl.2 _ (Sa _ (bt rfl)),f3 _ (bt rfl)];exact mF
    .rw[bl.2 _ (Sa _ (bF af)),f3 _ (bF af),ar.2 _ al,aw.2 _ (y7 b af)]
   .rw[gE,D1];have bl:=aB.push ad (aO #[Value.int .i32 0] 21);have gp:=ar.1;refine Ee (Pr:=λb=>Pr b\/b=ag h\/b=ag ad) ((hV.ext ar).more bl λb af=>?_) I ⟨rfl,rfl,trivial⟩ ⟨rfl,rfl⟩ λan oR f3=>?_
    .grind
    .refine fin I oR ?_ ?_ λb af=>?_
     .rw[f3 _ (bt (bF rfl)),bl.2 _ I];exact mF
     .rw[f3 _ (bt (bt rfl))];grind
     .have:=y7 b af;rw[f3 _ (bF af),bl.2 _ I,ar.2 _ I,aw.2 _ I]
  .rw[gE,D1];have bl:=aB.push aa (aO #[Value.int .i32 0] 21);have zn:(a6 aa (aO #[Value.int .i32 0] 21))[ag aa]?=J (aO #[dc 0] 21):=dS _ _;have FP:ag (a6 aa (aO #[Value.int .i32 0] 21))=ag aa+1:=a1
   generalize a6 aa (aO #[Value.int .i32 0] 21)=aT at*;refine Vj (hV.ext bl) λad ar=>?_;rw[WI];have gp:=ar.1;refine Ee (Pr:=λb=>Pr b\/b=ag h\/b=ag aa) (hV.more (bl.trans ar) λb af=>?_) I ⟨rfl,rfl,trivial⟩ ⟨rfl,rfl⟩ λan oR f3=>?_
   .grind
   .refine fin I oR ?_ ?_ λb af=>?_
    .rw[f3 _ (bt (bF rfl)),ar.2 _ I,bl.2 _ I];exact jc
    .rw[f3 _ (bt (bt rfl)),ar.2 _ I];exact zn
    .have:=y7 b af;rw[f3 _ (bF af),ar.2 _ I,bl.2 _ I,aw.2 _ I]
 obtain⟨eT,rfl,aus,aut,oR,auo,zn,aqo⟩:=cr;rw[qs,bs,gE,D1];have bl:=aB.push an (aO #[Value.int .i32 0] 21);have S':(a6 an (aO #[Value.int .i32 0] 21))[ag an]?=J (aO #[dc 0] 21):=dS _ _;have FP:ag (a6 an (aO #[Value.int .i32 0] 21))=ag an+1:=a1
 generalize a6 an (aO #[Value.int .i32 0] 21)=aT at*;have AM:dO o (λb=>Pr b\/b=ag h\/b=eT\/b=ag an) aT b9 (aK++[⟨7,i,1,a5 ab 0 0,0,0,.no⟩]):=oR.more bl λb af=>by
  grind
 have z2:uP o Pr h b9 aK (ag h) eT (ag an) 7 (λaK=>oI aK (At aK n)) [] 0 aT (aK++[⟨7,i,1,a5 ab 0 0,0,0,.no⟩]):=⟨⟨bQ _,aus,aut,CY,Sb,y7⟩,AM,λb af=>by
  have:=y7 b af;rw[bl.2 b I];exact aqo b af,λk aq=>F6 aq,⟨_,n9,rfl,rfl,rfl⟩,⟨a1,rfl⟩,(bl.2 _ I).trans auo,(bl.2 _ I).trans zn,S'⟩
 refine Es (λm w f l fE h'=>∃(j:Nat) (a:Bool) (acc:List (List B×e')) (cG:List eo) (r F:Nat),fE=aQ a/\i<j/\j<=U o.D/\bp o.b j (U o.D) o.C w/\uP o Pr h b9 aK (ag h) eT (ag an) 7 (λaK=>oI aK (At aK n)) acc r h' cG/\U cG<=U aK+(j-i)/\U o.D-j<F/\gseq o.D 125 (gkv o.D (gval o.D n)) F a acc j=gseq o.D 125 (gkv o.D (gval o.D n)) (U o.D+1) av [] (i+1)/\m=U o.D-j) _
  ⟨i+1,av,[],_,0,U o.D+1,rfl,I,I,ow,z2,a1,I,rfl,rfl⟩ ?_
 rintro m d bh f l fE ae N ⟨j,a,acc,cG,r,F,rfl,eK,aC,hw,A,hlen,iR,ka,rfl⟩ CS;have aM:=A.c9.doc;refine B3 aM hw λhv IT=>?_;have x4:=o6 (D:=o.D) (i:=j) aC;obtain⟨F,rfl⟩:∃F',F=F'+1:=⟨F-1,I⟩;rw[gseq] at ka;rw[<-ka] at q;have cI:=IT;obtain⟨s4,rfl,cZ,cj,eI,jB⟩:=IT;have e0:=aM.mH;obtain⟨c,hM,hL⟩:=A.c9.n5;have bad:∀{X:Option (List (List B×e')×Nat)},X=ab->p_ (λaK=>At aK (n+1)) (JL X) o Pr h b9 aK i R->∀{x y e:ao} {an:H},aB ae an->e2 an o.b (U o.D) o.C e->R (bA #[x,y,e]) an:=λ{X} fP h3 {x y e an} aS er=>by
  subst fP;exact h3 _ _ _ _ (A.step aS).b3 (A.step aS).c9.Bw er
 have tW:gseq o.D 125 (gkv o.D (gval o.D n)) (F+1) a acc j=ab->∀{a2:H} {w:ao} {e5:Nat} s x,aB ae a2->bp o.b (a9 o.D j) e5 o.C w->e5<=U o.D->∀(aL:U s<=1000:=by first|decide|assumption),bD 51 [w,S s,x] a2 λjh h=>R (bA #[dc 0,a5 ab 0 0,jh]) h:=λfP {a2 w e5} s x ar ow vn aL=>
  gU ow vn λe an aS er=>bad (by rw[gseq] at fP;exact fP) q (ar.trans aS) er
 have vU:gseq o.D 125 (gkv o.D (gval o.D n)) (F+1) a acc j=ab->∀x u,bp o.b (a9 o.D j) (a9 o.D j+1) o.C u->a9 o.D j<U o.D->cellsL x=[x]->∀s,∀(aL:U s<=1000:=by first|decide|assumption),ew 20 1 (Z 20) [(0,1,x)] ae λh4 h=>bD 51 [u,S s,h4] h λjh h=>R (bA #[dc 0,a5 ab 0 0,jh]) h:=λfP x u hu au ae s aL=>by
  rw[pn oJ rfl ae];exact tW fP s _ (aB.push _ _) hu I
 have hQ:∀{w f l:ao} {a2:H} {e5 F':Nat} {bM:Bool},j<e5->e5<=U o.D->bp o.b e5 (U o.D) o.C w->aB ae a2->gseq o.D 125 (gkv o.D (gval o.D n)) F bM acc e5=gseq o.D 125 (gkv o.D (gval o.D n)) (F+1) a acc j->N w f l (aQ bM) a2:=λ{w f l a2 e5 F' bM} aa ad an aT bN=>
  CS (U o.D-e5) _ _ _ _ _ I ⟨e5,bM,acc,cG,r,F,rfl,I,ad,an,A.step aT,I,I,by rw[bN,gseq];exact ka,rfl⟩
 refine DZ (dI aM cZ) (hA aM cZ) (Ac A.c3) (Ac A.wP) (c4 hM) hL ?_;refine⟨λh_=>?_,λh_=>⟨λug=>?_,λBo=>⟨λdh=>?_,λpF=>⟨λdx=>⟨λfg=>⟨λbO=>?_,λbO=>?_⟩,λfg=>?_⟩,λuB=>⟨λpB=>?_,λDr=>⟨λmw=>?_,λJc=>?_⟩⟩⟩⟩⟩⟩
 .have aW:g o.D (a9 o.D j)=0:=g6 I;refine tW ?_ _ _ (aB.refl _) cI (bQ _);rw[gseq,ak I,ak I,ak I,ak I,ak I,aqK aW];grind
 .rw[aA ug] at q;obtain⟨x,kc,k3,rL,Dg⟩:=A.root;have a':=(fk.1 kc).1;refine q ae cG x _ ⟨A.c9.less λb af=>bF af,A.b3,I,A.pre⟩ ⟨x,kc,k3,Dg,r,A.kids⟩ kc rL I I I ck
 .refine hQ (e5:=a9 o.D j+1) (F':=F) I I ck (aB.refl _) ?_;conv=>rhs;rw[gseq]
  rw[ak Bo,aA dh]
 .refine hQ (e5:=a9 o.D j+2) (F':=F) I I ck (aB.refl _) ?_;conv=>rhs;rw[gseq]
  rw[ak Bo,ak pF,aA dx,aA bO]
 .exact vU (by rw[gseq,ak Bo,ak pF,aA dx,ak bO]) _ _ ck I rfl _
 .have bO:g o.D (a9 o.D j+1)≠10:=by rw[g6 I];decide
  exact vU (by rw[gseq,ak Bo,ak pF,aA dx,ak bO]) _ _ ck I rfl _
 .refine Pv aM cI I (λbc x y a2 ar A1 bx bH s1 s2=>?_) λx y e a2 A1 ar er=>?_
  .have GJ:=A.step ar;obtain⟨c2,FF,Sn⟩:=GJ.c9.n5;have SB:fd 0 (aN o.p)=J (bU (J ⟨o.p,0,ab⟩)):=oO;refine i_ (Ac GJ.c3) SB (c4 FF) Sn ?_;refine hQ (e5:=bc) (F':=F) I bH s2 ar ?_;conv=>rhs;rw[gseq]
   rw[ak Bo,ak pF,ak uB,aA pB,A1]
  .have af:=gW er;refine bG af ?_;grind
 .have apC:gseq o.D 125 (gkv o.D (gval o.D n)) (F+1) a acc j=if a=ai then gseq o.D 125 (gkv o.D (gval o.D n)) F av acc (a9 o.D j+1) else ab:=by
   rw[gseq,ak Bo,ak pF,ak uB,ak Dr,aA mw]
  cases a with
  |false=>
   refine aR ?_;exact tW (e5:=a9 o.D j+1) al _ _ (aB.refl _) ck I
  |true=>
   refine aR ?_;exact hQ (e5:=a9 o.D j+1) (F':=F) I I ck (aB.refl _) al
 .cases a with
  |true=>
   have QX:gseq o.D 125 (gkv o.D (gval o.D n)) (F+1) ai acc j=ab:=by
    rw[gseq,ak Bo,ak pF,ak uB,ak Dr,ak Jc];rfl
   refine aR ?_;exact tW (e5:=a9 o.D j+1) QX _ _ (aB.refl _) ck I
  |false=>
   rw[ak Bo,ak pF,ak uB,ak Dr,ak Jc,ak aE] at q ka;refine bG (Ac A.c3) ?_;refine aiT eu A.c9 a7 I I I I cI ?_;cases aX:gkv o.D (gval o.D n) (a9 o.D j) with
   |none=>
    rw[aX] at q;intro x y e a2 f2 d2 er;have af:=gW er;refine bG af ?_;exact q _ _ _ _ (A.b3.trans λb af=>f2 b (bF af)) d2 er
   |some Cp=>
    obtain⟨cJ,I1⟩:=Cp;rw[aX] at ka;intro a2 gM y w G xN n4 vw ack th oT vv;refine aR ?_;refine aj2 (uP.link (λA B=>oI.loc (At.loc n)) A G xN n4 vw λaV jL qF mB=>?_).2;exact CS (U o.D-I1) _ _ _ _ _ I ⟨I1,ai,acc++[cJ],jL,U cG+1,F,rfl,I,oT,vv,qF,I,I,ka,rfl⟩
end
def ad8{o:Option Nat}{j k m:Nat}(h:(o.map λj=>(j,m))=J (j,k)):k=m:=by
 cases o with
 |none=>cases h
 |some x=>cases h;rfl
def axm(h:numTail D i=J (k,j)):9<=k:=by
 unfold numTail at h;cases aa:rS D i with
 |none=>grind
 |some x=>
  obtain⟨bc,cj⟩:=x;have aw:9<=cj:=by
   unfold rS at aa;split at aa
   .split at aa
    .have:=ad8 aa;omega
    .cases aa
   grind
  rw[aa] at h;simp only at h;cases ad:rR D bc cj with
  |none=>grind
  |some x=>
   obtain⟨eL,eI⟩:=x;have ar:9<=eI:=by
    unfold rR at ad;split at ad
    .split at ad
     .have:=ad8 ad;omega
     .cases ad
    grind
   rw[ad] at h;simp only[zF] at h;grind
def abe{D:B}{i k j:Nat}(h:gm D i=J (k,j)):9<=k:=by
 have kw:∀{w:B} {k6:Nat},9<=k6->qh D w i k6=J (k,j)->9<=k:=λ{w k6} aq h=>by
  unfold qh at h;grind
 have num:gnum D i=J (k,j)->9<=k:=λh=>by
  unfold gnum at h;split at h
  .grind
  split at h
  .cases h
  split at h
  .split at h
   .cases h
   split at h
   .simp only[yz,hI] at h;omega
   .cases h
  .split at h
   .cases h
   .split at h
    .cases h
    .exact axm h
 unfold gm at h;split at h
 .grind
 split at h
 .grind
 split at h
 .grind
 split at h
 .grind
 split at h
 .exact num h
 split at h
 .split at h
  .unfold om at h;simp only[dg,hI] at h;obtain⟨rfl,_⟩:=h;unfold dtKind;split
   .grind
   grind
  grind
 .cases h
section
variable{o:pt}{Pr:Nat->Prop}{m b9 i j k kd n:Nat}{h aa h':H}{aK cG:List eo}{R:K}{u:ao}
def dO.nest{X:H->Prop}(aY:dO o Pr h b9 aK)(q:∀h',dO o Pr h' ns' aK->lj Pr h h'->X h'):bZ 1 (.pointer (J ⟨o.p,5,ab⟩)) (.i (ns':Int)) h λ_ h=>X h:=by
 obtain⟨c,ro,aJ,iR,dF,eC,s',ny⟩:=aY;have aL:=aJ.size;refine fx aJ.par I rfl rfl λh' e af=>?_;have cf:∀b,b<h.size->b≠o.p->h'[b]?=h[b]?:=λb af aI=>e.2 b af (λe=>aI (en e));obtain⟨v,cap,an,aF,oq,qV⟩:=aJ.row;refine q h' ⟨_,ro,⟨af,al,by rw[sK aE];exact aJ.n5,?_,⟨v,cap,al,aF.at λr er=>by subst er;exact cf _ aF.lt (λe=>aJ.Dt (by rw[e])),oq,qV⟩,al,aJ.hZ,aJ.Dt,aJ.Du,aJ.yb,λx ae=>(aJ.rQ x ae).at λbb bx bH cq=>cf bb bx bH,aJ.doc.at (cf _ aJ.doc.lt (λe=>aJ.yb e.symm))⟩,⟨dH iR.1 e.1,λb af bx bH=>al⟩,dF,al,λk bx bH=>al,λb af=>⟨cP (ny b af).1 e.1,(ny b af).2⟩⟩ λb af=>cf b (ny b af).1 (ny b af).2.1;obtain⟨b',d1,d2⟩:=aJ.fL;grind
def dO.base(aY:dO o Pr h b9 aK):ag o.aW<=ag h:=by obtain⟨c,ro,_,aa,_⟩:=aY;exact aa.1
def dO.pG(aY:dO o Pr h b9 aK):∃c,h[o.p]?=J (aO c o.bz)/\c[5]?=J (ah (b9:Int)):=by obtain⟨c,ro,aa,_⟩:=aY;exact⟨c,aa.par,aa.pG⟩
def BF(aY:dO o Pr h b9 aK)(au:U aK<5000)(a7:U o.D<=400)(q:p_ (λaK=>At aK (n+1)) (scA i (scaS hh)) o Pr h b9 aK i R):StrQ hh h o.b (U o.D) o.C i λh4 h=>Pu (exv 0 h4) h λv20 h=>Pu (exv 1 h4) h λgC h=>Pu (exv 2 h4) h λf' h=>Pu (exv 3 h4) h λg2 h=>Pu (beI ai g2 cR) h λlb h=>
  b1 lb (R (bA #[(dc 0),(a5 ab 0 0),g2]) h) (bD 154 [aN o.p,v20] h λkM h=>Bd (Z 189) [(0,1,(ah 8)),(1,2,kM),(3,1,gC)] h λpR h=>bD 153 [aN o.p,pR] h λlH h=>R (bA #[lH,f',cR]) h):=by
 cases hh with
 |none=>
  intro x y z e h' aw er;have af:=gW er;refine bG af ?_;exact HD aY aw er q
 |some ym=>
  obtain⟨s,j⟩:=ym;intro eK aC x y z h' aw s1 s2 dB;refine aR ?_;obtain⟨bb,kB,jU⟩:=s2;have a2:one y=ai/\cellsL y=[y]:=by obtain⟨e,n,cap,c,t,b3,rfl,_⟩:=jU;exact⟨rfl,rfl⟩
  refine U1 (kd:=8) (lf:=.str s) aY aw au a7 s1 aC a2.1 a2.2 ⟨bb,kB,jU⟩ λad x bx bH cq dT e3 hJ=>?_;exact q ad _ x _ ⟨bx,hJ,a1,λk aq=>F6 aq⟩ ⟨x,n9,a1,bH,cq⟩ n9 dT (by simp;omega) eK aC dB
def BH(aq:∀k j,hh=J (k,j)->9<=k)(q:p_ (λaK=>At aK (n+1)) (scA i (scaT hh)) o Pr h b9 aK i R):Er (I9 i hh) o Pr h b9 aK i λjJ h=>Pu (exv 0 jJ) h λkP h=>Pu (exv 1 jJ) h λj3 h=>Pu (exv 2 jJ) h λld h=>R (bA #[kP,j3,ld]) h:=by
 cases hh with
 |none=>
  intro x y e h' f d er;refine aR ?_;exact q _ _ _ _ f d er
 |some wO=>
  obtain⟨kd,j⟩:=wO;intro eK aC ad x rest bx bH cq dT e3 hJ lo;refine aR ?_;exact q ad _ x _ ⟨bx,hJ,a1,λk aq=>F6 aq⟩ ⟨x,n9,a1,bH,aq _ _ rfl,cq⟩ n9 dT (by simp;omega) eK aC lo
def anX(D:B)(n:Nat):Lg D n:=by
 induction n with
 |zero=>
  intro o Pr h b9 i aK v R aH aY a7 az aI;omega
 |succ n eu=>
  intro o Pr h b9 i aK v R aH aY a7 az aI A7 au aD q;subst aH;apply akE;have aM:=aY.doc;have cI:=aD;obtain⟨e,rfl,aa,ad,an,aT⟩:=aD;have e0:=aM.mH;have mY:U aK<5000:=I
  have SS:=OL (D:=o.D) (i0:=i) (m:=34) aE;have SX:∀_:Unit,¬2<U o.D-i->¬(g o.D (i+1)=34/\g o.D (i+2)=34):=λ_ a x=>I
  have SU:=OL (D:=o.D) (i0:=i) (m:=39) aE;have SY:∀_:Unit,¬2<U o.D-i->¬(g o.D (i+1)=39/\g o.D (i+2)=39):=λ_ a x=>I
  clear SS SU;obtain⟨c,hM,Fi⟩:=aY.pG;have bad:∀_:Unit,gval o.D (n+1) i=ab->∀j u,bp o.b i j o.C u->j<=U o.D->∀(s:B) (x:ao),∀(aL:U s<=1000:=by first|decide|assumption),bD 51 [u,S s,x] h λu h=>R (.tuple #[.j 0,.slice ab 0 0,u]) h:=λ_ a j u hu aC s x aL=>
   gU hu aC λu ad ar er=>by rw[a] at q;exact HD aY ar er q
  have Cu:∀_:Unit,gval o.D (n+1) i=ab->∀j x u,bp o.b i j o.C u->j<=U o.D->cellsL x=[x]->∀(s:B),∀(aL:U s<=1000:=by first|decide|assumption),ew 20 1 (Z 20) [(0,1,x)] h λy h=>bD 51 [u,S s,y] h λu h=>R (.tuple #[.j 0,.slice ab 0 0,u]) h:=λ_ a j x u hu aC ae s aL=>by
   rw[pn oJ rfl ae];exact gU (N:=U o.D) hu aC λw ad ar er=>by rw[a] at q;exact HD aY ((aB.push _ _).trans ar) er q
  have gs:∀_:Unit,g o.D i≠91->g o.D i≠123->gval o.D (n+1) i=scA i (kA o.D i):=λ_ a b=>by rw[gval,ak a,ak b]
  have ha:∀hh,g o.D i=34\/g o.D i=39->mv o.D i=hh->p_ (λaK=>At aK (n+1)) (scA i (scaS hh)) o Pr h b9 aK i R:=λhh a e=>by
   rw[gs () I I] at q;unfold kA at q;grind
  have Oa:∀_:Unit,g o.D i=34->g o.D (i+1)=34->g o.D (i+2)=34->p_ (λaK=>At aK (n+1)) (scA i (scaS (gmb o.D (iU o.D (i+3)) []))) o Pr h b9 aK i R:=λ_ a bx bH=>ha _ (.inl a) (by unfold mv;rw[aA a,aA ⟨bx,bH⟩]);have sJ:∀_:Unit,g o.D i=34->¬(g o.D (i+1)=34/\g o.D (i+2)=34)->p_ (λaK=>At aK (n+1)) (scA i (scaS (bump (gbas o.D (i+1) [])))) o Pr h b9 aK i R:=λ_ a bx=>ha _ (.inl a) (by unfold mv;rw[aA a,ak bx]);have Ob:∀_:Unit,g o.D i=39->g o.D (i+1)=39->g o.D (i+2)=39->p_ (λaK=>At aK (n+1)) (scA i (scaS (y6 o.D (iU o.D (i+3))))) o Pr h b9 aK i R:=λ_ a bx bH=>ha _ (.inr a) (by unfold mv;rw[ak I,aA ⟨bx,bH⟩]);have By:∀_:Unit,g o.D i=39->¬(g o.D (i+1)=39/\g o.D (i+2)=39)->p_ (λaK=>At aK (n+1)) (scA i (scaS (glitS o.D (i+1)))) o Pr h b9 aK i R:=λ_ a bx=>ha _ (.inr a) (by unfold mv;rw[ak I,ak bx]);have q6:∀hh,¬g o.D i=34->¬g o.D i=39->¬g o.D i=91->¬g o.D i=123->gm o.D i=hh->p_ (λaK=>At aK (n+1)) (scA i (scaT hh)) o Pr h b9 aK i R:=λhh a bx cg cJ e=>by
   rw[gs () cg cJ] at q;unfold kA at q;grind
  have Fb:∀_:Unit,¬g o.D i=34->¬g o.D i=39->¬g o.D i=91->¬g o.D i=123->gm o.D i=ab->gval o.D (n+1) i=ab:=λ_ a bx cg cJ e=>by rw[gs () cg cJ];unfold kA;rw[ak I,e];rfl
  have ayu:∀_:Unit,g o.D i=91->p_ (λaK=>At aK (n+1)) (Hh (gseq o.D 93 (gval o.D n) (U o.D+1) av [] (i+1))) o Pr h b9 aK i R:=λ_ a=>by rw[gval,aA a] at q;exact q
  have ayq:∀_:Unit,g o.D i=123->p_ (λaK=>At aK (n+1)) (JL (gseq o.D 125 (gkv o.D (gval o.D n)) (U o.D+1) av [] (i+1))) o Pr h b9 aK i R:=λ_ a=>by rw[gval,ak I,aA a] at q;exact q
  have kd:=@abe o.D i;clear q ha gs;by_cases wo:U o.D<=i
  .have bP:=g6 wo;have:=@bad () (RM bP);refine aR ?_;exact this (U o.D) _ cI (bQ _) _ _
  refine dG (dI aM aa) (hA aM aa) ?_;have aeS:∀{β:Type} {A:List eo->Nat->Nat->β->Prop} {res:Option (β×Nat)} {aa:H},lj Pr h aa->p_ A res o Pr h b9 aK i R->p_ A res o Pr aa (b9+1) aK i λuF h=>Pu (exv 0 uF) h λr3 h=>Pu (exv 1 uF) h λyq h=>Pu (exv 2 uF) h λzS h=>cd (.pointer (J ⟨o.p,5,ab⟩)) h λsO h=>Pu (bn .sub sO (.i 1)) h λr4 h=>bZ 1 (.pointer (J ⟨o.p,5,ab⟩)) r4 h λ_ h=>R (.tuple #[r3,yq,zS]) h:=by
   intro β A res aa f1 q;cases res with
   |none=>
    intro x y e ad f2 d2 er;obtain⟨d3,S6,c2,m,dV,gQ,j'⟩:=d2;have tm:∃w,bn .sub (.i m) (.i 1)=J (.i w):=⟨_,rfl⟩;obtain⟨w,hw⟩:=tm;refine hk (c4 dV) j' hw ?_;refine fx dV I rfl rfl λan aS mD=>?_;have aP:e2 an o.b (U o.D) o.C e:=by
     obtain⟨x,au,msg,oy,i,j,cZ,jB,ox⟩:=er;have bk:x≠o.p:=by
      grind
     exact⟨x,au,msg,oy,i,j,cZ,(aS.2 x (cm.1 jB).1 (λe=>bk (en e))).trans jB,ox⟩
    have cf:∀b,b<ag ad->b≠o.p->an[b]?=ad[b]?:=λb af aI=>aS.2 b af (λe=>aI (en e));refine q _ _ _ _ (f1.trans (f2.trans λb af=>?_)) ⟨d3.at (cf _ d3.lt (λe=>S6 e.symm)),S6,_,w,mD,al,al⟩ aP;obtain⟨c,ro,_,_,_,_,_,lW⟩:=aY;have bN:=lW b af;have cB:ad[b]?=h[b]?:=(f2 b af).trans (f1 b af);grind
   |some Hd=>
    obtain⟨a,j⟩:=Hd;intro ad gM x v bd bE ae m2 fF eK aC oX;obtain⟨c2,dV,j'⟩:=bd.c9.pG;have tm:bn .sub (.i ((b9+1:Nat):Int)) (.i 1)=J (.i (b9:Int)):=m' (a:=b9+1) (b:=1) I I;refine hk (c4 dV) j' tm ?_;exact bd.c9.nest λan oR f3=>q an gM x v ⟨oR,f1.trans (bd.b3.trans f3),bd.len,bd.pre⟩ bE ae m2 fF eK aC oX
  refine⟨λgP=>Aa ?_,λaev=>⟨λiA=>Aa ?_,λawS=>⟨λark=>?_,λBn=>⟨λarj=>?_,λDq=>⟨λRU=>?_,λzC=>⟨λRV=>?_,λJb=>⟨λhK=>?_,λawW=>⟨λuf=>?_,λawR=>⟨λuh=>?_,λaF8=>⟨λl8=>?_,λaF9=>⟨λAL=>⟨λMr=>?_,λaGc=>?_⟩,λaGb=>?_⟩⟩⟩⟩⟩⟩⟩⟩⟩⟩⟩
  .refine dG (dI aM aa) (hA aM aa) ?_;with_reducible repeat' first|refine⟨?_,?_⟩|intro
   all_goals first|((with_reducible change bD _ _ _ _);change bo _ _ _ _)|skip
   all_goals first
    |with_reducible exact WZ aM cI I (BF aY mY a7 (Oa () b8 b8 b8))
    |with_reducible exact B5 aM cI I (BF aY mY a7 (sJ () b8 (λx=>absurd x.1 b8)))
    |with_reducible exact B5 aM cI I (BF aY mY a7 (sJ () b8 (λx=>absurd x.2 b8)))
    |with_reducible exact B5 aM cI I (BF aY mY a7 (sJ () b8 (SX () b8)))
   done
  .refine dG (dI aM aa) (hA aM aa) ?_;with_reducible repeat' first|refine⟨?_,?_⟩|intro
   all_goals first|((with_reducible change bD _ _ _ _);change bo _ _ _ _)|skip
   all_goals first
    |with_reducible exact W0 aM cI I (BF aY mY a7 (Ob () b8 b8 b8))
    |with_reducible exact Ed aM cI I (BF aY mY a7 (By () b8 (λx=>absurd x.1 b8)))
    |with_reducible exact Ed aM cI I (BF aY mY a7 (By () b8 (λx=>absurd x.2 b8)))
    |with_reducible exact Ed aM cI I (BF aY mY a7 (By () b8 (SY () b8)))
   done
  .have e:=λhh=>q6 hh I I I I;unfold gm at e kd;rw[aA ark] at e kd;exact KN aY mY a7 cI aE aE (BH (λk j e=>kd e) (e _ rfl))
  .have e:=λhh=>q6 hh I I I I;unfold gm at e kd;rw[ak Bn,aA arj] at e kd;exact KN aY mY a7 cI aE aE (BH (λk j e=>kd e) (e _ rfl))
  .have e:=λhh=>q6 hh I I I I;unfold gm at e kd;rw[ak Bn,ak Dq,aA RU] at e kd;exact KN aY mY a7 cI aE aE (BH (λk j e=>kd e) (e _ rfl))
  .have e:=λhh=>q6 hh I I I I;unfold gm at e kd;rw[ak Bn,ak Dq,ak zC,aA RV] at e kd;exact KN aY mY a7 cI aE aE (BH (λk j e=>kd e) (e _ rfl))
  .have eg:bn .geq (.i (b9:Int)) (.i 10000)=J (.bool av):=by simp[bn];omega
   refine hk (c4 hM) Fi eg ?_;refine aY.nest (ns':=b9+1) λad iB f2=>XZ ?_;refine bG hK ?_;exact aiy eu iB a7 I I I au iB.base cI (aeS f2 (ayu () hK))
  .have eg:bn .geq (.i (b9:Int)) (.i 10000)=J (.bool av):=by simp[bn];omega
   refine hk (c4 hM) Fi eg ?_;refine aY.nest (ns':=b9+1) λad iB f2=>XZ ?_;refine bG uf ?_;exact aiz eu iB a7 I I I au iB.base cI (aeS f2 (ayq () uf))
  .have e:=λhh=>q6 hh I I I I;unfold gm at e kd;rw[ak Bn,ak Dq,ak zC,ak Jb,aA (.inl uh)] at e kd;exact Ph aY mY a7 cI I (BH (λk j e=>kd e) (e _ rfl))
  .have e:=λhh=>q6 hh I I I I;unfold gm at e kd;rw[ak Bn,ak Dq,ak zC,ak Jb,aA (.inr l8)] at e kd;exact Ph aY mY a7 cI I (BH (λk j e=>kd e) (e _ rfl))
  .have e:=λhh=>q6 hh I I I I;have aG:cT (g o.D i)=ai:=j7 I;unfold gm at e kd;rw[ak Bn,ak Dq,ak zC,ak Jb,ak I,aA aG] at e kd;refine W2 aM cI ?_;cases aL:mq o.D i with
   |true=>
    rw[aL,aA rfl] at e kd;refine aR ?_;exact aiA aY mY a7 cI aG aL (BH (λk j e=>kd e) (e _ rfl))
   |false=>
    rw[aL,ak aE] at e kd;refine aR ?_;exact Ph aY mY a7 cI I (BH (λk j e=>kd e) (e _ rfl))
  all_goals
   have aG:cT (g o.D i)=av:=ig I;have e:=Fb () I I I I;unfold gm at e;rw[ak Bn,ak Dq,ak zC,ak Jb,ak I,aG,ak aE] at e;exact Cu () (e rfl) (i+1) _ _ ck I rfl _
end
structure eM where
 par:Int
 kind:Nat
 ex:Bool
 fS:B
 val:ao
def Km{α:Type}(aj:List (bW α))(M:List Nat)(ca:Nat->Nat)(live:Nat->Prop)(k:Nat)(x:eM):Prop:=match aj[k]? with
 |J (.val _)=>x.kind=1
 |J (.arr l)=>x.kind=4/\∃t,l.getLast?=J t/\live t/\cz aj t/\ca t=ca k
 |J (.bX _)=>if M.getD k 0=0\/M.getD k 0=1 then x.kind=3/\x.ex=decide (M.getD k 0=1) else x.kind=2
 |none=>False
structure jm{α:Type}(E:List eM)(aj:List (bW α))(M:List Nat)(ca:Nat->Nat)(live:Nat->Prop):Prop where
 len:U M=U aj
 lt:∀j,live j->j<U aj/\ca j<U E
 down:∀j kv s k,live j->aj[j]?=J (.bX kv)->kvF s kv=J k->live k/\∃x,E[ca k]?=J x/\x.par=(ca j:Int)/\x.kind≠5/\x.fS=s/\Km aj M ca live k x
 up:∀j kv i x,live j->aj[j]?=J (.bX kv)->E[i]?=J x->x.par=(ca j:Int)->x.kind≠5->∃k,kvF x.fS kv=J k/\ca k=i
 inj:∀i j,live i->live j->cz aj i->cz aj j->ca i=ca j->i=j
 par:∀(i:Nat) x,E[i]?=J x->x.par<(i:Int)
def kvF_app{s k:B}{n:Nat}:∀{kv:List (B×Nat)},kvF s (kv++[(k,n)])=match kvF s kv with
  |some i=>J i
  |none=>if k=s then J n else ab
 |[]=>by simp only[sS,kvF]
 |x::l=>by
  simp only[uM,kvF];split
  .rfl
  .exact kvF_app
section
variable{α:Type}{E cw:List eM}{aj a8:List (bW α)}{M bK:List Nat}{ca c7:Nat->Nat}{live d_:Nat->Prop}{id k m n:Nat}{kv:List (B×Nat)}{key:B}{bB:bW α}{x:eM}
def Km.mono(h:Km aj M ca live k x)(aL:∀j,live j->cz aj j->d_ j/\cz a8 j/\c7 j=ca j)(aq:c7 k=ca k)(aI:a8[k]?=aj[k]?\/(cz aj k/\cz a8 k))(cM:bK.getD k 0=M.getD k 0):Km a8 bK c7 d_ k x:=by
 unfold Km at*;rcases aI with aI|⟨⟨a,bE⟩,b,af⟩
 .rw[aI];cases dw:aj[k]? with
  |none=>rw[dw] at h;exact h
  |some bB=>
   rw[dw] at h;cases bB with
   |val v=>exact h
   |arr l=>
    obtain⟨aa,t,ad,an,aT,bN⟩:=h;obtain⟨cZ,cj,eI⟩:=aL t an aT;exact⟨aa,t,ad,cZ,cj,I⟩
   |bX kv=>simp only at h⊢;grind
 .rw[bE] at h;rw[af];simp only at h⊢;grind
def aaM(h:k<U M):(M++[m]).getD k 0=M.getD k 0:=by
 grind
def Z4:(E++[x])[U E]?=J x:=al
def HC(h:(E++[x])[i]?=J y):(i<U E/\E[i]?=J y)\/(i=U E/\y=x):=by
 grind
def jm.add(R:jm E aj M ca live)(aC:live id)(aP:aj[id]?=J (.bX kv))(aq:kvF key kv=ab)(ae:x.par=(ca id:Int)/\x.kind≠5/\x.fS=key)(nG:(∃v,bB=.val v/\x.kind=1)\/(bB=.bX []/\(if m=0\/m=1 then x.kind=3/\x.ex=decide (m=1) else x.kind=2))):
  jm (E++[x]) (dY aj id key bB) (M++[m]) (λj=>if j=U aj then U E else ca j) (λj=>j=U aj\/live j):=by
 have nC:=(fk.1 aP).1;have new:(dY aj id key bB)[U aj]?=J bB:=nW;have tV:(dY aj id key bB)[id]?=J (.bX (kv++[(key,U aj)])):=by rw[Am nC,o0 aP]
 have old:∀j,j<U aj->j≠id->(dY aj id key bB)[j]?=aj[j]?:=λj a b=>An a (λe=>b e.symm);have ne:∀j,live j->j≠U aj:=λj h=>by have:=(R.lt j h).1;omega
 have jP:∀j,live j->(if j=U aj then U E else ca j)=ca j:=λj h=>ak (ne j h);have aGq:∀cL s k,bB=.bX cL->kvF s cL=J k->False:=λcL s k aa ad=>by
  rcases nG with ⟨v,rfl,_⟩|⟨rfl,_⟩
  .cases aa
  .cases aa;cases ad
 have rY:∀j,live j->cz aj j->cz (dY aj id key bB) j:=λj aa ad=>qa ad;have DN:∀j,live j->cz (dY aj id key bB) j->cz aj j:=λj aa ⟨a,bE⟩=>by
  by_cases e:j=id
  .subst e;exact⟨kv,aP⟩
  .rw[old j (R.lt j aa).1 e] at bE;exact⟨a,bE⟩
 have Nz:∀k y,live k->Km aj M ca live k y->Km (dY aj id key bB) (M++[m]) (λj=>if j=U aj then U E else ca j) (λj=>j=U aj\/live j) k y:=λk y aa ad=>
  ad.mono (λj a b=>⟨bt a,rY j a b,jP j a⟩) (jP k aa) (by
   by_cases e:k=id
   .subst e;exact bt ⟨⟨kv,aP⟩,_,tV⟩
   .exact bF (old k (R.lt k aa).1 e)) (aaM (by rw[R.len];exact(R.lt k aa).1))
 have bP:=(R.lt id aC).2;refine⟨by simp[R.len,lp],λj h=>?_,λj cL s k aa ad an=>?_,λj cL i y aa ad an aT bN=>?_,λi j aa ad an aT bN=>?_,λi y h=>?_⟩
 .rcases h with rfl|h
  .grind
  .rw[jP j h,lp];have:=R.lt j h;simp;omega
 .rcases aa with rfl|aa
  .grind
  .have low:∀k7,aj[j]?=J (.bX k7)->kvF s k7=J k->(k=U aj\/live k)/\∃xc,(E++[x])[if k=U aj then U E else ca k]?=J xc/\xc.par=((if j=U aj then U E else ca j:Nat):Int)/\xc.kind≠5/\xc.fS=s/\Km (dY aj id key bB) (M++[m]) (λj=>if j=U aj then U E else ca j) (λj=>j=U aj\/live j) k xc:=λk7 a b=>by
    obtain⟨c3,y,dA,jX,sF,wP,x9⟩:=R.down j k7 s k aa a b;grind
   by_cases e:j=id
   .subst e;rw[tV] at ad;cases ad;rw[kvF_app] at an;cases bj:kvF s kv with
    |some i=>
     grind
    |none=>
     rw[bj] at an;simp only at an;split at an
     .rename_i aL;cases an;subst aL;rw[aA rfl,jP j aa];refine⟨bF rfl,x,Z4,ae.1,ae.2.1,ae.2.2,?_⟩;unfold Km;rw[new];rcases nG with ⟨v,rfl,gg⟩|⟨rfl,gg⟩
      .exact gg
      .have:(M++[m]).getD (U aj) 0=m:=by rw[<-R.len];grind
       simp only[this];exact gg
     .cases an
   .rw[old j (R.lt j aa).1 e] at ad;grind
 .have low:live j->∀k7,aj[j]?=J (.bX k7)->i<U E->E[i]?=J y->y.par=(ca j:Int)->∃k,kvF y.fS k7=J k/\(if k=U aj then U E else ca k)=i:=λau k7 a b c d=>by
   obtain⟨k,c3,dA⟩:=R.up j k7 i y au a c d bN;have:=R.down j k7 y.fS k au a c3;grind
  rcases HC an with ⟨au,an⟩|⟨rfl,rfl⟩
  .rcases aa with rfl|aa
   .rw[aA rfl] at aT;have:=R.par i y an;omega
   .rw[jP j aa] at aT;by_cases e:j=id
    .subst e;rw[tV] at ad;cases ad;obtain⟨k,c3,dA⟩:=low aa kv aP au an aT;exact⟨k,by rw[kvF_app,c3],dA⟩
    .rw[old j (R.lt j aa).1 e] at ad;grind
  .rcases aa with rfl|aa
   .grind
   .rw[jP j aa] at aT;have SL:cz aj j:=DN j aa ⟨cL,ad⟩;have:j=id:=R.inj j id aa aC SL ⟨kv,aP⟩ I;subst this;rw[tV] at ad;cases ad;exact⟨U aj,by rw[kvF_app,ae.2.2,aq];simp,aA rfl⟩
 .rcases aa with rfl|aa
  .rcases ad with rfl|ad
   .rfl
   .rw[aA rfl,jP j ad] at bN;have:=(R.lt j ad).2;omega
  .rcases ad with rfl|ad
   .rw[aA rfl,jP i aa] at bN;have:=(R.lt i aa).2;omega
   .rw[jP i aa,jP j ad] at bN;exact R.inj i j aa ad (DN i aa an) (DN j ad aT) bN
 .rcases HC h with ⟨au,h⟩|⟨rfl,rfl⟩
  .exact R.par i y h
  omega
end
structure KT(E:List eM)(e:Nat)(cw:List eM)(f:Nat->Nat)(gone:Nat->Prop):Prop where
 len:U cw<=U E
 HW:∀i x,E[i]?=J x->(gone i↔0<=x.par/\(x.par=(e:Int)\/gone x.par.toNat))
 kept:∀i x,E[i]?=J x->¬gone i->cw[f i]?=J ⟨if x.par<0 then x.par else(f x.par.toNat:Int),x.kind,x.ex,x.fS,x.val⟩
 UL:∀(j:Nat) y,cw[j]?=J y->∃i x,E[i]?=J x/\¬gone i/\j=f i
 inj:∀i j,i<U E->j<U E->¬gone i->¬gone j->f i=f j->i=j
 low:∀i,i<=e->i<U E->f i=i
 mono:∀i j,i<U E->j<U E->¬gone i->¬gone j->i<j->f i<f j
section
variable{α:Type}{E cw:List eM}{aj a8:List (bW α)}{M bK:List Nat}{ca c7:Nat->Nat}{live d_:Nat->Prop}{id k m n i e:Nat}{kv:List (B×Nat)}{key:B}{bB:bW α}{x:eM}{l:List Nat}
def jm.more{b:Nat}(R:jm E aj M ca live)(fP:∀(i:Nat) x,U E<=i->(E++X)[i]?=J x->(b:Int)<=x.par/\x.par<(i:Int))(af:∀j,live j->cz aj j->ca j<b):jm (E++X) aj M ca live:=by
 have app:∀j,j<U E->(E++X)[j]?=E[j]?:=λj h=>pV h;refine⟨R.len,λj h=>⟨(R.lt j h).1,by have:=(R.lt j h).2;simp;omega⟩,λj kv s k aa ad an=>?_,λj kv i x aa ad an aT bN=>?_,R.inj,λi x h=>?_⟩
 .obtain⟨c3,y,dA,jX⟩:=R.down j kv s k aa ad an;grind
 .by_cases au:i<U E
  .rw[app i au] at an;exact R.up j kv i x aa ad an aT bN
  .have:=(fP i x I an).1;have:=af j aa ⟨kv,ad⟩;omega
 .by_cases au:i<U E
  .rw[app i au] at h;exact R.par i x h
  grind
def jm.name(R:jm E aj M ca live)(aC:live j)(aP:aj[j]?=J (.bX kv))(aq:kvF key kv=J k)(atw:cz aj k)(hm:M.getD k 0=0)(ae:E[ca k]?=J x):jm (E.set (ca k) ⟨x.par,x.kind,ai,x.fS,x.val⟩) aj (M.set k 1) ca live:=by
 obtain⟨lk,ec,gh,_⟩:=R.down j kv key k aC aP aq;rw[ae] at gh;cases gh;have a':=(fk.1 ae).1;have Cr:(E.set (ca k) ⟨x.par,x.kind,ai,x.fS,x.val⟩)[ca k]?=J ⟨x.par,x.kind,ai,x.fS,x.val⟩:=D5 a';have YT:∀i,i≠ca k->(E.set (ca k) ⟨x.par,x.kind,ai,x.fS,x.val⟩)[i]?=E[i]?:=λi h=>Wq (λe=>h e.symm);have cM:∀i,i≠k->(M.set k 1).getD i 0=M.getD i 0:=λi h=>al
 have arS:(M.set k 1).getD k 0=1:=by rw[iw,D5 (by rw[R.len];exact(R.lt k lk).1)];rfl
 refine⟨by simpa using R.len,λj h=>⟨(R.lt j h).1,by have:=(R.lt j h).2;grind⟩,λbI cL s k' aa ad an=>?_,λbI cL i y aa ad an aT bN=>?_,R.inj,λi y h=>?_⟩
 .obtain⟨c3,y,dA,jX,sF,wP,x9⟩:=R.down bI cL s k' aa ad an;by_cases he:k'=k
  .subst he;rw[ae] at dA;cases dA;refine⟨c3,_,Cr,jX,sF,wP,?_⟩;obtain⟨k7,aW⟩:=atw;unfold Km at x9⊢;rw[aW] at x9⊢;simp only[hm,arS] at x9⊢;grind
  .by_cases vi:ca k'=ca k;·
    exfalso;have t1:=R.down j kv key k aC aP aq;obtain⟨_,z,fC,j6,pT,rp,Ks⟩:=t1;have:y=z:=al
    subst this;have aGu:(ca bI:Int)=ca j:=I
    have e5:bI=j:=R.inj bI j aa aC ⟨cL,ad⟩ ⟨kv,aP⟩ I;grind
   .refine⟨c3,y,al,jX,sF,wP,?_⟩;exact x9.mono (λj a b=>⟨a,b,rfl⟩) rfl (bF rfl) (cM k' he)
 .by_cases he:i=ca k
  .subst he;rw[Cr] at an;cases an;exact R.up bI cL _ x aa ad ae aT bN
  .rw[YT i he] at an;exact R.up bI cL i y aa ad an aT bN
 .by_cases he:i=ca k
  .subst he;rw[Cr] at h;cases h;exact R.par _ x ae
  .rw[YT i he] at h;exact R.par i y h
def jm.arr(R:jm E aj M ca live)(aC:live id)(aP:aj[id]?=J (.bX kv))(aq:kvF key kv=ab)(ae:x.par=(ca id:Int)/\x.kind=4/\x.fS=key):
  jm (E++[x]) (gf (dY aj id key (.arr [])) (U aj) []) (M++[0]++[1]) (λj=>if U aj<=j then U E else ca j) (λj=>j=U aj\/j=U aj+1\/live j):=by
 have nC:=(fk.1 aP).1;have c3:U (dY aj id key (bW.arr []))=U aj+1:=lp;have af4:gf (dY aj id key (bW.arr [])) (U aj) []=((dY aj id key (bW.arr []))++[bW.bX []]).set (U aj) (.arr [U aj+1]):=by unfold gf;rw[c3];rfl
 have s1:(gf (dY aj id key (bW.arr [])) (U aj) [])[U aj]?=J (.arr [U aj+1]):=al
 have s2:(gf (dY aj id key (bW.arr [])) (U aj) [])[U aj+1]?=J (.bX []):=al
 have dB:∀j,j<U aj->(gf (dY aj id key (bW.arr [])) (U aj) [])[j]?=(dY aj id key (bW.arr []))[j]?:=λj h=>al
 have tV:(gf (dY aj id key (bW.arr [])) (U aj) [])[id]?=J (.bX (kv++[(key,U aj)])):=by rw[dB id nC,Am nC,o0 aP]
 have old:∀j,j<U aj->j≠id->(gf (dY aj id key (bW.arr [])) (U aj) [])[j]?=aj[j]?:=λj a b=>by rw[dB j a];exact An a (λe=>b e.symm)
 have wQ:U (gf (dY aj id key (bW.arr [])) (U aj) [])=U aj+2:=al
 generalize gf (dY aj id key (bW.arr [])) (U aj) []=hY at*;have jP:∀j,live j->(if U aj<=j then U E else ca j)=ca j:=λj h=>ak (by have:=(R.lt j h).1;omega);have rY:∀j,live j->cz aj j->cz hY j:=λj aa ⟨a,bE⟩=>by
  by_cases e:j=id
  .subst e;exact⟨_,tV⟩
  .exact⟨a,al⟩
 have DN:∀j,live j->cz hY j->cz aj j:=λj aa ⟨a,bE⟩=>by
  by_cases e:j=id
  .subst e;exact⟨kv,aP⟩
  .rw[old j (R.lt j aa).1 e] at bE;exact⟨a,bE⟩
 have Nz:∀k y,live k->Km aj M ca live k y->Km hY (M++[0]++[1]) (λj=>if U aj<=j then U E else ca j) (λj=>j=U aj\/j=U aj+1\/live j) k y:=λk y aa ad=>
  ad.mono (λj a b=>⟨bt (bt a),rY j a b,jP j a⟩) (jP k aa) (by
   by_cases e:k=id
   .subst e;exact bt ⟨⟨kv,aP⟩,_,tV⟩
   .exact bF (old k (R.lt k aa).1 e)) (by
   have:=R.len;have:=(R.lt k aa).1;grind)
 have bP:=(R.lt id aC).2;refine⟨by rw[wQ];simp[R.len],λj h=>?_,λj cL s k aa ad an=>?_,λj cL i y aa ad an aT bN=>?_,λi j aa ad an aT bN=>?_,λi y h=>?_⟩
 .rcases h with rfl|rfl|h
  .grind
  .grind
  .rw[jP j h,wQ];have:=R.lt j h;simp;omega
 .rcases aa with rfl|rfl|aa
  .rw[s1] at ad;cases ad
  .rw[s2] at ad;cases ad;cases an
  .have low:∀k7,aj[j]?=J (.bX k7)->kvF s k7=J k->(k=U aj\/k=U aj+1\/live k)/\∃xc,(E++[x])[if U aj<=k then U E else ca k]?=J xc/\xc.par=((if U aj<=j then U E else ca j:Nat):Int)/\xc.kind≠5/\xc.fS=s/\Km hY (M++[0]++[1]) (λj=>if U aj<=j then U E else ca j) (λj=>j=U aj\/j=U aj+1\/live j) k xc:=λk7 a b=>by
    obtain⟨c3,y,dA,jX,sF,wP,x9⟩:=R.down j k7 s k aa a b;rw[jP k c3,jP j aa];exact⟨bt (bt c3),y,al,jX,sF,wP,Nz k y c3 x9⟩
   by_cases e:j=id
   .subst e;rw[tV] at ad;cases ad;rw[kvF_app] at an;cases bj:kvF s kv with
    |some i=>
     rw[bj] at an;cases an;exact low kv aP bj
    |none=>
     rw[bj] at an;simp only at an;split at an
     .rename_i aL;cases an;subst aL;rw[aA (bQ _),jP j aa];refine⟨bF rfl,x,Z4,ae.1,I,ae.2.2,?_⟩;unfold Km;rw[s1];exact⟨ae.2.1,U aj+1,rfl,bt (bF rfl),⟨_,s2⟩,al⟩
     .cases an
   .rw[old j (R.lt j aa).1 e] at ad;exact low cL ad an
 .have low:live j->∀k7,aj[j]?=J (.bX k7)->i<U E->E[i]?=J y->y.par=(ca j:Int)->∃k,kvF y.fS k7=J k/\(if U aj<=k then U E else ca k)=i:=λau k7 a b c d=>by
   obtain⟨k,c3,dA⟩:=R.up j k7 i y au a c d bN;have:=R.down j k7 y.fS k au a c3;grind
  rcases HC an with ⟨au,an⟩|⟨rfl,rfl⟩
  .rcases aa with rfl|rfl|aa
   .grind
   .rw[aA I] at aT;have:=R.par i y an;omega
   .rw[jP j aa] at aT;by_cases e:j=id
    .subst e;rw[tV] at ad;cases ad;obtain⟨k,c3,dA⟩:=low aa kv aP au an aT;exact⟨k,by rw[kvF_app,c3],dA⟩
    .rw[old j (R.lt j aa).1 e] at ad;grind
  .rcases aa with rfl|rfl|aa
   .grind
   .grind
   .rw[jP j aa] at aT;have SL:cz aj j:=DN j aa ⟨cL,ad⟩;have:j=id:=R.inj j id aa aC SL ⟨kv,aP⟩ I;subst this;rw[tV] at ad;cases ad;exact⟨U aj,by rw[kvF_app,ae.2.2,aq];simp,aA (bQ _)⟩
 .have fj:¬cz hY (U aj):=λ⟨a,bE⟩=>al
  rcases aa with rfl|rfl|aa
  .grind
  .rcases ad with rfl|rfl|ad
   .grind
   .rfl
   .rw[aA I,jP j ad] at bN;have:=(R.lt j ad).2;omega
  .rcases ad with rfl|rfl|ad
   .grind
   .rw[jP i aa,aA I] at bN;have:=(R.lt i aa).2;omega
   .rw[jP i aa,jP j ad] at bN;exact R.inj i j aa ad (DN i aa an) (DN j ad aT) bN
 .rcases HC h with ⟨au,h⟩|⟨rfl,rfl⟩
  .exact R.par i y h
  omega
def jm.clear(R:jm E aj M ca live)(aC:live j)(aP:aj[j]?=J (.bX kv))(aq:kvF key kv=J a)(bE:aj[a]?=J (.arr l))(C:KT E (ca a) cw f gone):
  jm cw (gf aj a l) (M++[1]) (λi=>if i=U aj then ca a else f (ca i)) (λi=>i=U aj\/(live i/\¬gone (ca i)/\(cz aj i->ca i≠ca a))):=by
 obtain⟨awc,aGZ,OU,aG0,aG1,aG2,aBk⟩:=R.down j kv key a aC aP aq;have aD3:=(fk.1 bE).1;have jS:=(R.lt a awc).2;have af4:gf aj a l=(aj++[bW.bX []]).set a (.arr (l++[U aj])):=rfl;have s1:(gf aj a l)[a]?=J (.arr (l++[U aj])):=al
 have s2:(gf aj a l)[U aj]?=J (.bX []):=al
 have dB:∀i,i<U aj->i≠a->(gf aj a l)[i]?=aj[i]?:=λi h ad=>al
 have wQ:U (gf aj a l)=U aj+1:=Ll;generalize gf aj a l=hY at*;have aGr:¬cz aj a:=λ⟨b,af⟩=>al
 have aFx:ca j<ca a:=by have:=R.par _ _ OU;omega
 have ahead:∀i,i<=ca a->i<U E->¬gone i:=by
  intro i;induction i using Nat.strongRecOn with
  |ind i bR=>
   intro aa ad aX;have ae:=h5 ad;have:=(C.HW i _ ae).1 aX;have aJ:=R.par i _ ae;grind
 have jP:∀i,live i->(if i=U aj then ca a else f (ca i))=f (ca i):=λi h=>ak (by have:=(R.lt i h).1;omega);have av4:∀i cL s k,live i->¬gone (ca i)->ca i≠ca a->aj[i]?=J (.bX cL)->kvF s cL=J k->¬gone (ca k)/\(cz aj k->ca k≠ca a):=λi cL s k aa ad an aT bN=>by
  obtain⟨lk,y,dd,dr,fq,pd,xd⟩:=R.down i cL s k aa aT bN;refine⟨λaX=>?_,λwI he=>?_⟩
  .rcases(C.HW _ _ dd).1 aX with ⟨ae3,eb|eb⟩
   .omega
   grind
  .rw[he] at dd;rw[OU] at dd;cases dd;obtain⟨c,ay⟩:=wI;unfold Km at xd aBk;grind
 have Nz:∀k y,live k->¬gone (ca k)->k≠a->ca k≠ca a->Km aj M ca live k y->Km hY (M++[1]) (λi=>if i=U aj then ca a else f (ca i)) (λi=>i=U aj\/(live i/\¬gone (ca i)/\(cz aj i->ca i≠ca a))) k y:=λk y aa ad bk kY an=>by
  unfold Km at an⊢;rw[dB k (R.lt k aa).1 bk];cases dw:aj[k]? with
  |none=>rw[dw] at an;exact an
  |some bB=>
   rw[dw] at an;cases bB with
   |val v=>exact an
   |bX kv=>
    have:(M++[1]).getD k 0=M.getD k 0:=aaM (by rw[R.len];grind);simp only[this] at an⊢;exact an
   |arr gi=>
    obtain⟨aT,t,bN,cB,de,hC⟩:=an;refine⟨aT,t,bN,bt ⟨cB,al,λ_ he=>kY (hC▸he)⟩,?_,?_⟩
    .obtain⟨c,ay⟩:=de;exact⟨c,al⟩
    grind
 have Q8:f (ca a)=ca a:=C.low _ (bQ _) jS;have avY:=C.kept _ _ OU (ahead _ (bQ _) jS);rw[Q8] at avY;have qQ:∀i x,E[i]?=J x->¬gone i->0<=x.par->x.par.toNat≠ca a/\¬gone x.par.toNat/\x.par.toNat<U E/\x.par.toNat<i:=λi x aa ad an=>by
  have aT:=R.par i x aa;have bN:=(fk.1 aa).1;refine⟨λe=>ad ((C.HW i x aa).2 ⟨an,bF I⟩),λg=>ad ((C.HW i x aa).2 ⟨an,bt g⟩),I,I⟩
 have keep:∀i,live i->¬gone (ca i)->∃y,cw[f (ca i)]?=J y:=λi aa ad=>⟨_,C.kept _ _ (h5 (R.lt i aa).2) ad⟩;refine⟨by rw[wQ];simp[R.len],λi h=>?_,λi cL s k aa ad an=>?_,λi cL p z aa ad an aT bN=>?_,λi i2 aa ad an aT bN=>?_,λp z h=>?_⟩
 .rcases h with rfl|⟨aa,ad,an⟩
  .grind
  .rw[jP i aa,wQ];obtain⟨y,a2⟩:=keep i aa ad;have:=(R.lt i aa).1;grind
 .rcases aa with rfl|⟨c3,dA,jX⟩
  .rw[s2] at ad;cases ad;cases an
  .have su:i≠a:=λe=>al
   rw[dB i (R.lt i c3).1 su] at ad;have sF:=jX ⟨cL,ad⟩;obtain⟨lk,y,dd,dr,fq,pd,xd⟩:=R.down i cL s k c3 ad an;have ik:=av4 i cL s k c3 dA sF ad an;have dq:=C.kept _ _ dd ik.1;rw[ak I,dr] at dq;rw[jP k lk,jP i c3];refine⟨bt ⟨lk,ik⟩,_,dq,a1,fq,pd,?_⟩;by_cases ace:k=a
   .subst ace;unfold Km at xd⊢;rw[bE] at xd;rw[s1];exact⟨xd.1,U aj,a1,bF rfl,⟨_,s2⟩,by
     grind⟩
   .have bk:ca k≠ca a:=λhe=>by
     rw[he,OU] at dd;cases dd;have eK:i=j:=R.inj i j c3 aC ⟨cL,ad⟩ ⟨kv,aP⟩ I;grind
    exact Nz k y lk ik.1 ace bk xd
 .obtain⟨i0,mP,c1,c2,rfl⟩:=C.UL p z an;have cy:=C.kept i0 mP c1 c2;rw[an] at cy;cases cy;simp only at aT bN⊢;have ae3:0<=mP.par:=by
   omega
  rw[ak I] at aT;have s6:=qQ i0 mP c1 c2 ae3;rcases aa with rfl|⟨c3,dA,jX⟩
  .rw[aA rfl] at aT;exact absurd (C.inj _ _ s6.2.2.1 jS s6.2.1 (ahead _ (bQ _) jS) I) s6.1
  .rw[jP i c3] at aT;have su:i≠a:=λe=>al
   rw[dB i (R.lt i c3).1 su] at ad;have aw:=C.inj _ _ s6.2.2.1 (R.lt i c3).2 s6.2.1 dA I;obtain⟨k,cZ,cj⟩:=R.up i cL i0 mP c3 ad c1 I bN;have lk:=(R.down i cL _ k c3 ad cZ).1;grind
 .have awX:∀i,cz hY i->i≠a:=λi ⟨b,af⟩ e=>al
  have vV:∀i,live i->cz hY i->cz aj i:=λi l ⟨b,af⟩=>⟨b,by rw[<-dB i (R.lt i l).1 (awX i ⟨b,af⟩)];exact af⟩;rcases aa with rfl|⟨c3,dA,jX⟩
  .rcases ad with rfl|⟨dK,gz,k8⟩
   .rfl
   .rw[aA rfl,jP i2 dK] at bN;exact absurd (C.inj _ _ (R.lt i2 dK).2 jS gz (ahead _ (bQ _) jS) I) (k8 (vV i2 dK aT))
  .rcases ad with rfl|⟨dK,gz,k8⟩
   .rw[aA rfl,jP i c3] at bN;exact absurd (C.inj _ _ (R.lt i c3).2 jS dA (ahead _ (bQ _) jS) I) (jX (vV i c3 an))
   .rw[jP i c3,jP i2 dK] at bN;exact R.inj i i2 c3 dK (vV i c3 an) (vV i2 dK aT) (C.inj _ _ (R.lt i c3).2 (R.lt i2 dK).2 dA gz bN)
 .obtain⟨i0,mP,c1,c2,rfl⟩:=C.UL p z h;have cy:=C.kept i0 mP c1 c2;rw[h] at cy;cases cy;simp only;split
  .omega
  .have s6:=qQ i0 mP c1 c2 I;have:=C.mono _ _ s6.2.2.1 (fk.1 c1).1 s6.2.1 c2 s6.2.2.2;omega
end
def oH(S:Nat->Prop)(own:cH)(h h':H):Prop:=ag h<=ag h'/\∀b,b<ag h->(∀k,own b=J (1000000,k)->¬S k)->h'[b]?=h[b]?
def oH.refl{S:Nat->Prop}{h:H}:oH S own h h:=⟨bQ _,λ_ _ _=>rfl⟩
def oH.g_{S:Nat->Prop}{h h':H}(e:aB h h'):oH S own h h':=⟨e.1,λb af _=>e.2 b af⟩
def oH.trans{S:Nat->Prop}{h aa ad:H}(a:oH S eJ h aa)(b:oH S o2 aa ad)(e:dL eJ o2 (ag h)):oH S eJ h ad:=⟨dH a.1 b.1,λx ae aH=>by rw[b.2 x (cP ae a.1) (by rw[e x ae];exact aH),a.2 x ae aH]⟩
def oH.N0{S:Nat->Prop}{h h':H}{r:Nat}{k:Nat}(e:bV (J r) h h')(aF:own r=J (1000000,k))(aq:S k):oH S own h h':=⟨e.1,λb af aH=>e.2 b af λe=>by
 grind⟩
def oH.none{S:Nat->Prop}{own:cH}{h h':H}(a:oH S own h h'){b:Nat}(af:b<ag h)(aH:own b=ab):h'[b]?=h[b]?:=a.2 b af λk aq=>al
def oH.le{S Yj:Nat->Prop}{h h':H}(a:oH S own h h')(aL:∀k,S k->Yj k):oH Yj own h h':=⟨a.1,λb af aH=>a.2 b af λk aq ql=>aH k aq (aL k ql)⟩
def fM(x:eM):List ao:=[dc x.par,bu x.kind,aQ x.ex,x.val]
def CJ(E:List eM):U (E.flatMap fM)=U E*4:=by
 induction E with
 |nil=>rfl
 |cons a l bR=>simp only[yu,r8,bR,nS,fM,tK];omega
def uY(own:cH)(h:H)(x:eM):Prop:=(x.val=a5 ab 0 0/\x.fS=[])\/∃bb,own bb=ab/\kt h bb x.val x.fS
def B0(own:cH)(h:H)(v:ao)(n:Nat):Prop:=(v=a5 ab 0 0/\n=0)\/∃r c t,v=a5 (J ⟨r,0,ab⟩) n n/\own r=J (1000000,3)/\h[r]?=J (aO c t)/\ag c=n
structure ho(h:H)(own:cH)(d bz:Nat)(c:Array ao)(E:List eM)(cur:Nat):Prop where
 bJ:h[d]?=J (aO c bz)
 c5:own d=J (1000000,0)
 size:11<=ag c
 y0:∃v er,c[6]?=J v/\b2 h v 4 (E.flatMap fM) er/\∀r,er=J r->own r=J (1000000,2)
 curr:c[7]?=J (dc cur)
 EL:∃v1 v2 n,c[8]?=J v1/\c[9]?=J v2/\B0 own h v1 n/\B0 own h v2 n/\(∀r c1 c2,v1=a5 (J ⟨r,0,ab⟩) n n->v2=a5 (J ⟨r,0,ab⟩) c1 c2->False)
 wT:∀x∈E,uY own h x
 hZ:U E<=5000
 tA:∀(i:Nat) x,E[i]?=J x->(i=0\/0<=x.par)/\x.par<(i:Int)
 kinds:∀x∈E,1<=x.kind/\x.kind<=5
def eB(d k:Nat):ao:=bU (J ⟨d,k,ab⟩)
section
variable{h h':H}{own a_:cH}{d bz cur n:Nat}{c:Array ao}{E:List eM}{x:eM}{v:ao}{R:K}
def uY.val(ae:uY own h x):one x.val=ai/\cellsL x.val=[x.val]:=by
 rcases ae with ⟨e,_⟩|⟨bb,_,e,n,cap,c,t,b3,aw,_⟩
 .rw[e];exact⟨rfl,rfl⟩
 .rw[aw];exact⟨rfl,rfl⟩
def uY.at(ae:uY own h x)(e:∀b,b<ag h->own b=ab->h'[b]?=h[b]?/\a_ b=ab):uY a_ h' x:=by
 rcases ae with aw|⟨bb,aa,ad⟩
 .exact bF aw
 .have:=e bb ad.lt aa;exact bt ⟨bb,this.2,ad.at this.1⟩
def B0.at(ae:B0 own h v n)(e:∀b,b<ag h->own b=J (1000000,3)->h'[b]?=h[b]?/\a_ b=J (1000000,3)):B0 a_ h' v n:=by
 rcases ae with aw|⟨r,c,t,aa,ad,an,aT⟩
 .exact bF aw
 .have:=e r (cm.1 an).1 ad;exact bt ⟨r,c,t,aa,this.2,this.1.trans an,aT⟩
def LR:∀{E:List eM} {i:Nat},E[i]?=J x->k<4->(E.flatMap fM)[i*4+k]?=(fM x)[k]?
 |[],_,h,_=>by simp at h
 |a::l,0,h,aq=>by
  simp only[rq,dg] at h;subst h;simp only[yu,pY,tM];exact pV (by simpa[fM] using aq)
 |a::l,i+1,h,aq=>by
  simp only[uN] at h;have aT:U (fM a)=4:=rfl;simp only[yu];rw[pg I,aT,(I:(i+1)*4+k-4=i*4+k)];exact LR h aq
def ho.keep(T:ho h own d bz c E cur)(aq:∀b,b<h.size->(own b=ab\/∃k,own b=J (1000000,k))->h'[b]?=h[b]?/\a_ b=own b):ho h' a_ d bz c E cur:=by
 obtain⟨v,er,aw,ar,aS⟩:=T.y0;obtain⟨v1,v2,n,cg,cJ,eP,hc,l6⟩:=T.EL;have aG:=aq d (cm.1 T.bJ).1 (.inr ⟨_,T.c5⟩);refine⟨aG.1.trans T.bJ,aG.2.trans T.c5,T.size,⟨v,er,aw,ar.at λr aF=>?_,λr aF=>?_⟩,T.curr,⟨v1,v2,n,cg,cJ,eP.at λb af aH=>?_,hc.at λb af aH=>?_,l6⟩,λx ae=>(T.wT x ae).at λb af aH=>?_,T.hZ,T.tA,T.kinds⟩
 .subst aF;exact(aq r ar.lt (.inr ⟨_,aS r rfl⟩)).1
 .subst aF;rw[(aq r ar.lt (.inr ⟨_,aS r rfl⟩)).2];grind
 .grind
 .grind
 grind
def ho.at(T:ho h own d bz c E cur)(ae:E[i]?=J x):∃v r cap ce t,c[6]?=J v/\v=a5 (J ⟨r,0,ab⟩) (U E) cap/\own r=J (1000000,2)/\h[r]?=J (aO ce t)/\i<U E/\U E*4<=ag ce/\(∀k,k<4->ce[i*4+k]?=(fM x)[k]?)/\ia 4 v (ah (i:Int))=J (bU (J ⟨r,i*4,ab⟩))/\ia 4 v (dc (i:Int))=J (bU (J ⟨r,i*4,ab⟩)):=by
 obtain⟨v,er,aw,ar,aS⟩:=T.y0;have au:=(fk.1 ae).1;have hN:=CJ E;cases er with
 |none=>
  have:=ar.2;rw[this] at hN;simp only[tK] at hN;omega
 |some r=>
  obtain⟨len,cap,ce,t,rfl,cZ,cj,eI,jB,ox⟩:=ar;have:len=U E:=I
  subst this;have hm:=jx 4 cj;refine⟨_,r,cap,ce,t,aw,rfl,aS r rfl,cZ,au,I,λk aq=>?_,?_,?_⟩
  .rw[<-LR ae aq,<-ox,D6,aA I,Ku]
  .simp only[ia,pU];rw[aA ⟨I,I⟩];simp[Addr.add];omega
  .simp only[ia,pU];rw[aA ⟨I,I⟩];simp[Addr.add];omega
def ho.len(T:ho h own d bz c E cur):∃v,c[6]?=J v/\fb v=J (ah (U E:Int)):=by
 obtain⟨v,er,aw,ar,aS⟩:=T.y0;have hN:=CJ E;refine⟨v,aw,?_⟩;cases er with
 |none=>
  obtain⟨rfl,aT⟩:=ar;rw[aT] at hN;simp only[tK] at hN;have:U E=0:=I
  rw[this];rfl
 |some r=>
  obtain⟨len,cap,ce,t,rfl,cZ,cj,eI,jB,ox⟩:=ar;have:len=U E:=I
  subst this;rfl
end
def u1(h:H)(v:ao):Prop:=∃b s,v=cW 211 (aN b)/\h[b]?=J (aO #[S s] 213)/\s≠[]/\U s<=1000
def an3:Z 213=[S []]:=b4
def Cn:Z 131=[dc 0,bu 0,aQ av,a5 ab 0 0]:=b4
def u1.ext(s:u1 h v)(e:aB h h'):u1 h' v:=by
 obtain⟨b,t,aa,ad,an⟩:=s;exact⟨b,t,aa,(e.2 b (cm.1 ad).1).trans ad,an⟩
def Cw(s:u1 h v):beI ai v cR=J (aQ ai):=by
 obtain⟨b,t,rfl,_⟩:=s;rfl
section
variable{h h':H}{own a_:cH}{d bz cur n p:Nat}{c:Array ao}{E:List eM}{x:eM}{v u:ao}{R:K}{s:B}
def tP:fd o (eB d k)=J (eB d (k+o)):=CN
def qI{d k:Nat}{K:F.K}{t:Nat}(af:h[d]?=J (aO c t b3)):cd (eB d k) h K=Pu c[k]? h K:=fs af
def B1(aL:s≠[]/\U s<=1000)(q:∀v h',aB h h'->u1 h' v->R v h'):bo 102 [S s] h R:=by
 apply akg;have af:∀K,Bd (Z 213) [(0,1,S s)] h K=K (cA #[S s]) h:=λK=>by rw[an3];rfl
 rw[af];exact q _ _ (aB.push h _) ⟨ag h,s,rfl,dS _ _,aL⟩
def ajU(ae:uY own h x){K:F.K}(q:K (S x.fS) h):Cbs x.val h K:=by
 rcases ae with ⟨e,ar⟩|⟨bb,_,ad⟩
 .rw[e];rw[ar] at q;exact q
 .exact xj ad q
def ah7(T:ho h own d bz c E cur)(aJ:p<U E)(hu:kt h bb u s)(bq:∀i x,E[i]?=J x->p<i->x.par=(p:Int)->x.kind≠5->x.fS=s->R (.j (i:Int)) h)
  (bw:(∀(i:Nat) x,E[i]?=J x->x.par=(p:Int)->x.kind≠5->x.fS≠s)->R (.j (-1)) h):bo 100 [eB d 6,.j (p:Int),u] h R:=by
 apply ake;have bj:=T.hZ;obtain⟨v,aw,ar⟩:=T.len;have AS:ci .i64 (.j (p:Int))=J (.i (p:Int)):=by simp[ci,IntKind.wrap,IntKind.bits,IntKind.signed];omega
 have rF:bn .add (.i (p:Int)) (.i 1)=J (.i ((p+1:Nat):Int)):=qL (a:=p) (b:=1) I;rw[AS,bs,rF,bs];refine eV (λm w h'=>∃i:Nat,w=.i (i:Int)/\p<i/\i<=U E/\h'=h/\(∀(j:Nat) x,E[j]?=J x->j<i->x.par=(p:Int)->x.kind≠5->x.fS≠s)/\m=U E-i) _ ⟨p+1,rfl,I,I,rfl,λj x aa ad an=>?_,rfl⟩ ?_
 .have:=(T.tA j x aa).2;omega
 rintro m fl w h' N ⟨i,rfl,S7,az,bO,fy,rfl⟩ a7;rw[bO];clear bO h';have f0:fd 0 (eB d 6)=J (eB d 6):=tP;have kf:nc (eB d 6)=J (eB d 6):=rfl;(simp-implicitDefEqProofs+contextual (disch:=omega) only[go_sem,kf,f0,qI T.bJ,aw,ar];try refine c8 ?_)
 refine⟨λau=>?_,λau=>bw λj x aa ad an=>fy j x aa al ad an⟩;have ae:=h5 au;generalize E[i]=x at ae;obtain⟨ch,r,cap,ce,t,bx,bH,cq,dT,e3,hJ,lo,px,rz⟩:=T.at ae;rw[aw] at bx;cases bx;have ep:=lo 0 aE;have c1:=lo 1 aE;have cy:=lo 3 aE;simp only[fM,rq,uN,nm] at ep c1 cy;have hs:=T.wT x (qD ae);have IB:bn .eql (.j x.par) (.j (p:Int))=J (.bool (decide (x.par=(p:Int)))):=by simp only[bn,eqV,ei,jl];rfl
 have bk:bn .neq (.b (x.kind:Int)) (.b 5)=J (.bool (decide (x.kind≠5))):=by
  simp only[bn,eqV,ei,jl];congr 2
  grind
 have IN:bn .eql (S x.fS) (S s)=J (.bool (decide (x.fS=s))):=by
  simp only[bn,eqV,S,jl];congr 2
  by_cases bN:x.fS=s
  .grind
  simp_all
 have next:(x.par=(p:Int)->x.kind≠5->x.fS≠s)->N (.i ((i+1:Nat):Int)) h:=λgh=>
  a7 (U E-(i+1)) _ _ I ⟨i+1,rfl,I,I,rfl,λj y aa ad=>by
   grind,rfl⟩
 have asA:ci .i32 (.i (i:Int))=J (.j (i:Int)):=by simp[ci,IntKind.wrap,IntKind.bits,IntKind.signed];omega
 refine xb px (c4 dT) ep c1 cy IB bk IN ?_;refine⟨λaa=>⟨λad=>?_,λad=>next λ_ h=>absurd h ad⟩,λaa=>next λh=>absurd h aa⟩;refine ajU hs ?_;refine xj hu ?_;refine dG IN asA ?_;grind
end
def aCs{d k:Nat}{h:H}{c:Array ao}{t:Nat}{b3:Nat×Nat}(af:h[d]?=J (aO c t b3))⦃K:F.K⦄:cd (eB d k) h K=Pu c[k]? h K:=fs af
def anT(k:Nat):Prop:=k=0\/k=2\/k=3
structure ft(h:H)(own:cH)(c:Array ao)(h':H)(a_:cH)(d bz:Nat)(b6:Array ao)(cw:List eM)(rB:Nat):Prop where
 eh:ho h' a_ d bz b6 cw rB
 ext:dL own a_ (ag h)
 ek:oH anT own h h'
 size:ag b6=ag c
 kU:∀k,k<6\/10<=k->b6[k]?=c[k]?
 dv:∀b x,a_ b=J x->b<ag h'
def ft.trans(a:ft h own c aa eJ d bz c1 kx aC5)(b:ft aa eJ c1 ad o2 d bz c2 xl lu):ft h own c ad o2 d bz c2 xl lu:=
 ⟨b.eh,dL.trans a.ext b.ext a.ek.1,a.ek.trans b.ek a.ext,b.size.trans a.size,λk aq=>(b.kU k aq).trans (a.kU k aq),b.dv⟩
section
variable{h aa h':H}{own a_:cH}{d bz cur n p kd:Nat}{c:Array ao}{E cw:List eM}{x:eM}{v u:ao}{R:K}{s:B}{ex:Bool}
def ft.refl(T:ho h own d bz c E cur)(aG:∀b x,own b=J x->b<ag h):ft h own c h own d bz c E cur:=⟨T,dL.refl _ _,oH.refl,rfl,λ_ _=>rfl,aG⟩
def ft.fN(S:ft aW Jg ep h own d bz c E cur)(e:aB h h'):ft aW Jg ep h' own d bz c E cur:=
 ⟨S.eh.keep λb af _=>⟨e.2 b af,rfl⟩,S.ext,⟨dH S.ek.1 e.1,λb af aH=>by rw[e.2 b (cP af S.ek.1),S.ek.2 b af aH]⟩,S.size,S.kU,λb x ae=>cP (S.dv b x ae) e.1⟩
def ho.row(T:ho h own d bz c E cur)(aG:∀b x,own b=J x->b<h.size)(MQ:∀r,er=J r->own r=J (1000000,2))(aw:bV er h aa)(dF:pA=er\/∃r,pA=J r/\h.size<=r)(aF:b2 aa v2 4 (cw.flatMap fM) pA)(ar:bV (J d) aa h')(af:h'[d]?=J (.cells (c.setIfInBounds 6 v2) bz))
  (aI:∀x∈cw,uY own h x) (bj:cw.length<=5000) (A9:∀(i:Nat) x,cw[i]?=J x->(i=0\/0<=x.par)/\x.par<(i:Int)) (xV:∀x∈cw,1<=x.kind/\x.kind<=5):ft h own c h' (dX own pA (1000000,2)) d bz (c.setIfInBounds 6 v2) cw cur:=by
 have gn:=(cm.1 T.bJ).1;have nG:pA≠J d:=λe=>by
  rcases dF with ar|⟨r,ar,aS⟩
  .have:=MQ d al;rw[T.c5] at this;cases this
  grind
 have sI:∀b,b<h.size->dX own pA (1000000,2) b=own b:=λb af=>by
  unfold dX;grind
 have cf:∀b,b<h.size->b≠d->er≠J b->h'[b]?=h[b]?:=λb af ad an=>by
  rw[ar.2 b (cP af aw.1) (λe=>ad (en e)),aw.2 b af (λe=>an e.symm)]
 have c0:h.size<=h'.size:=dH aw.1 ar.1;obtain⟨v1,DW,n,cg,cJ,eP,hc,l6⟩:=T.EL;have aau:∀b,b<h.size->own b=J (1000000,3)->h'[b]?=h[b]?/\dX own pA (1000000,2) b=J (1000000,3):=λb af aH=>
  ⟨cf b af (λe=>by subst e;rw[T.c5] at aH;cases aH) (λe=>al),(sI b af).trans aH⟩
 have Rh:∀b,b<h.size->own b=ab->h'[b]?=h[b]?/\dX own pA (1000000,2) b=ab:=λb af aH=>
  ⟨cf b af (λe=>by subst e;rw[T.c5] at aH;cases aH) (λe=>al),(sI b af).trans aH⟩
 have aL:=T.size;refine⟨⟨af,(sI d gn).trans T.c5,al,⟨v2,pA,al,aF.at λr fh=>?_,λr fh=>?_⟩,by rw[sK aE];exact T.curr,⟨v1,DW,n,al,al,eP.at aau,hc.at aau,l6⟩,λx ae=>(aI x ae).at Rh,bj,A9,xV⟩,λb af=>sI b af,⟨c0,λb af aH=>?_⟩,a1,λk aq=>sK I,λb x ae=>?_⟩
 .subst fh;exact ar.2 r aF.lt (λe=>nG e)
 .unfold dX;grind
 .refine cf b af (λe=>?_) (λe=>?_)
  .subst e;exact aH 0 T.c5 (.inl rfl)
  .exact aH 2 (MQ b e) (.inr (.inl rfl))
 .unfold dX at ae;split at ae
  .rename_i e;subst e;exact cP aF.lt ar.1
  grind
def yG(T:ho h own d bz c E cur)(aG:∀b x,own b=J x->b<h.size)(au:E.length<5000)(ae:uY own h x)(aJ:0<=x.par/\x.par<(E.length:Int))(aq:1<=x.kind/\x.kind<=5)(q:∀h' a_ b6,ft h own c h' a_ d bz b6 (E++[x]) cur->R (.j (E.length:Int)) h'):bo 101 [eB d 6,.j x.par,x.val,.b (x.kind:Int),.bool x.ex] h R:=by
 apply akf;obtain⟨v,er,aw,ar,aS⟩:=T.y0;obtain⟨ch,AA,bl⟩:=T.len;rw[aw] at AA;cases AA;have f0:fd 0 (eB d 6)=J (eB d 6):=tP;have kf:nc (eB d 6)=J (eB d 6):=rfl;have AS:ci .i32 (.i (E.length:Int))=J (.j (E.length:Int)):=by simp[ci,IntKind.wrap,IntKind.bits,IntKind.signed];omega
 have aD:=ae.val;have ef:∀K:F.K,Bd (Z 131) [(0,1,.j x.par),(1,1,.b (x.kind:Int)),(2,1,.bool x.ex),(3,1,x.val)] h K=K (.agg (fM x).toArray) h:=λK=>by
  rw[Cn];unfold fM;generalize x.val=w at aD;cases w<;>first|rfl|cases aD.1
 (simp-implicitDefEqProofs+contextual (disch:=omega) only[go_sem,kf,f0,qI T.bJ,aw,bl,AS];try refine c8 ?_)
 try rw[ef]
 rw[D' (sz:=4) (cx:=fM x) (by rw[Cn];rfl) rfl rfl];have mr:=aB.push h (.cells (fM x).toArray 131);have e4:b2 (h.push (.cells (fM x).toArray 131)) v 4 (E.flatMap fM) er:=ar.at λr aF=>al
 refine b2.append (n:=1) (new:=(fM x).toArray) (M:=fM x) e4 aE (by rw[Cn];rfl) rfl ?_ rfl ?_ rfl ?_ λv2 aa pA b_ lX dF=>?_
 .simp only[shown,dS];rfl
 .simp only[fM,ones,aD.1];rfl
 .have:=CJ E;rw[this];show(E.length*4+4)*32<=_;omega
 .have Kn:bV er h aa:=bV.pre mr b_;have qU:aa[d]?=J (.cells c bz):=by
   rw[Kn.2 d (cm.1 T.bJ).1 (λe=>by have:=aS d e.symm;rw[T.c5] at this;cases this)];exact T.bJ
  have aL:=T.size;try(simp-implicitDefEqProofs+contextual (disch:=omega) only[go_sem];try refine c8 ?_)
  refine fx qU I ?_ ?_ λan cp eH=>?_
  .exact(kJ lX).1
  .exact(kJ lX).2
  refine q an _ _ (T.row aG aS Kn ?_ (by rw[List.flatMap_append];simpa using lX) cp eH (λy a2=>?_) (by simp;omega) (λi y a2=>?_) λy a2=>?_)
  .grind
  .rcases zX.1 a2 with h|h
   .exact T.wT y h
   grind
  .rcases HC a2 with ⟨aa,ad⟩|⟨aa,ad⟩
   .exact T.tA i y ad
   grind
  .rcases zX.1 a2 with h|h
   .exact T.kinds y h
   grind
def ho.JA{K:F.K}(T:ho h own d bz c E cur)(aG:∀b x,own b=J x->b<h.size)(q:∀h' b6,ft h own c h' own d bz b6 E m->K undef h'):bZ 1 (eB d 7) (.j (m:Int)) h K:=by
 have aL:=T.size;have gn:=(cm.1 T.bJ).1;refine fx T.bJ I rfl rfl λh' e af=>?_;have cf:∀b,b<h.size->b≠d->h'[b]?=h[b]?:=λb af aI=>e.2 b af (λe=>aI (en e));have bB:∀b k,k≠0->own b=J (1000000,k)->b≠d:=λb k aq aH e=>by subst e;rw[T.c5] at aH;grind
 obtain⟨v,er,aw,ar,aS⟩:=T.y0;obtain⟨v1,DW,n,cg,cJ,eP,hc,l6⟩:=T.EL;refine q h' _ ⟨⟨af,T.c5,al,⟨v,er,al,ar.at λr aF=>?_,aS⟩,al,⟨v1,DW,n,al,al,eP.at λb af aH=>⟨cf b af (bB b 3 aE aH),aH⟩,hc.at λb af aH=>⟨cf b af (bB b 3 aE aH),aH⟩,l6⟩,λx ae=>(T.wT x ae).at λb af aH=>⟨cf b af (λe=>by subst e;rw[T.c5] at aH;cases aH),aH⟩,T.hZ,T.tA,T.kinds⟩,dL.refl _ _,⟨e.1,λb af aH=>cf b af λe=>by subst e;exact aH 0 T.c5 (.inl rfl)⟩,a1,λk aq=>sK I,λb x ae=>cP (aG b x ae) e.1⟩;grind
def E2:∀{E:List eM} {k f:Nat},E[k]?=J x->f<4->(fM x).set f v=fM ec->(E.flatMap fM).set (k*4+f) v=(E.set k ec).flatMap fM
 |[],_,_,h,_,_=>by simp at h
 |a::l,0,f,h,bj,e=>by
  simp only[rq,dg] at h;subst h;simp only[yu,aBV,pY,tM];rw[List.set_append_left _ _ (by simpa[fM] using bj),e]
 |a::l,k+1,f,h,bj,e=>by
  simp only[uN] at h;have de:U (fM a)=4:=rfl;simp only[yu,ahC];rw[aBU _ _ I,de,(I:(k+1)*4+f-4=k*4+f),E2 h bj e]
def ho.azl{K:F.K}(T:ho h own d bz c E cur)(aG:∀b x,own b=J x->b<h.size)(ae:E[i]?=J x){cap:Nat}(aD:c[6]?=J (.slice (J ⟨r,0,ab⟩) E.length cap))(q:∀h',ft h own c h' own d bz c (E.set i ⟨x.par,x.kind,ai,x.fS,x.val⟩) cur->K undef h'):bZ 1 (.pointer (J ⟨r,i*4+2,ab⟩)) (.bool ai) h K:=by
 obtain⟨v,er,aw,ar,aS⟩:=T.y0;rw[aD] at aw;cases aw;have nD:=(fk.1 ae).1;cases er with
 |none=>cases ar.1
 |some cC=>
  obtain⟨len,iP,ce,t,he,cZ,cj,eI,jB,ox⟩:=ar;simp only[Value.slice.injEq,dg,Addr.mk.injEq,and_true] at he;obtain⟨rfl,rfl,rfl⟩:=he;have hle:=jx 4 cj;refine fx cZ I rfl rfl λh' e af=>?_;have ib:=aS r rfl;have cf:∀b,b<h.size->b≠r->h'[b]?=h[b]?:=λb af aI=>e.2 b af (λe=>aI (en e));have Jf:∀b y,y≠(1000000,2)->own b=J y->b≠r:=λb y aq aH e=>al
  have kf:∀b,own b=ab->b≠r:=λb aH e=>al
  obtain⟨v1,DW,n,cg,cJ,eP,hc,l6⟩:=T.EL;refine q h' ⟨⟨(cf d (cm.1 T.bJ).1 (Jf d _ a1 T.c5)).trans T.bJ,T.c5,T.size,⟨_,J r,aD,⟨E.length,cap,_,t,rfl,af,cj,al,by rw[CJ];simp,?_⟩,aS⟩,T.curr,⟨v1,DW,n,cg,cJ,eP.at λb af aH=>⟨cf b af (Jf b _ a1 aH),aH⟩,hc.at λb af aH=>⟨cf b af (Jf b _ a1 aH),aH⟩,l6⟩,λy a2=>?_,by simpa using T.hZ,λj y a2=>?_,λy a2=>?_⟩,dL.refl _ _,⟨e.1,λb af aH=>cf b af λe=>by subst e;exact aH 2 ib (.inr (.inl rfl))⟩,rfl,λ_ _=>rfl,λb x ae=>cP (aG b x ae) e.1⟩
  .rw[<-E2 (f:=2) (ec:=⟨x.par,x.kind,ai,x.fS,x.val⟩) ae aE rfl,Gz,BT,BY,ox]
  .have:uY own h y:=by
    rcases ahz a2 with a2|rfl
    .exact T.wT y a2
    .exact T.wT x (qD ae)
   exact this.at λb af aH=>⟨cf b af (kf b aH),aH⟩
  .by_cases lz:j=i
   .subst lz;rw[D5 nD] at a2;cases a2;exact T.tA j x ae
   .rw[Wq (λe=>lz e.symm)] at a2;exact T.tA j y a2
  .rcases ahz a2 with a2|rfl
   .exact T.kinds y a2
   .exact T.kinds x (qD ae)
end
def goneB(E:List eM)(e:Nat)(i:Nat):Bool:=match E[i]? with
 |none=>av
 |some x=>if h:0<=x.par/\x.par.toNat<i then(decide (x.par.toNat=e)||goneB E e x.par.toNat) else av
termination_by i
def cntK(E:List eM)(e:Nat):Nat->Nat
 |0=>0
 |i+1=>if goneB E e i=ai then cntK E e i else cntK E e i+1
def zA(E:List eM)(e:Nat)(x:eM):eM:=⟨if x.par<0 then x.par else(cntK E e x.par.toNat:Int),x.kind,x.ex,x.fS,x.val⟩
section
variable{E Ec:List eM}{e i j:Nat}{x:eM}
def Mk(ae:E[i]?=J x)(aJ:x.par<(i:Int)):goneB E e i=(decide (0<=x.par)&&(decide (x.par.toNat=e)||goneB E e x.par.toNat)):=by
 rw[goneB,ae];grind
def EO:∀i,cntK E e i<=i
 |0=>bQ _
 |i+1=>by
  have:=EO i;rw[cntK];grind
def Zv:∀{i j},i<=j->cntK E e i<=cntK E e j
 |i,0,h=>al
 |i,j+1,h=>by
  by_cases he:i=j+1
  .grind
  .have:=Zv (i:=i) (j:=j) I;have ad:cntK E e j<=cntK E e (j+1):=by rw[cntK];grind
   omega
def EP(h:i<j)(aq:goneB E e i=av):cntK E e i<cntK E e j:=by
 have aa:cntK E e (i+1)=cntK E e i+1:=by rw[cntK,aq];rfl
 have:=Zv (E:=E) (e:=e) (i:=i+1) (j:=j) I;omega
def Zt:∀{i},cntK E e i=i->∀j,j<=i->cntK E e j=j
 |0,_,j,h=>al
 |i+1,h,j,aC=>by
  by_cases he:j=i+1
  .grind
  .have aa:=EO (E:=E) (e:=e) i;have ad:cntK E e i=i:=by
    rw[cntK] at h;grind
   exact Zt ad j I
def Qz:∀{n p},p<cntK E e n->∃i,i<n/\goneB E e i=av/\cntK E e i=p
 |0,p,h=>by simp[cntK] at h
 |n+1,p,h=>by
  rw[cntK] at h;split at h
  .obtain⟨i,aa,ad⟩:=Qz h;grind
  .rename_i aX;by_cases aJ:p<cntK E e n
   .obtain⟨i,aa,ad⟩:=Qz aJ;grind
   grind
def aq3(A9:∀(i:Nat) x,E[i]?=J x->x.par<(i:Int)):∀i,i<=e->goneB E e i=av:=by
 intro i;induction i using Nat.strongRecOn with
 |ind i bR=>
  intro az;cases ae:E[i]? with
  |none=>rw[goneB,ae]
  |some x=>
   have aJ:=A9 i x ae;rw[Mk ae aJ];grind
def Zu(A9:∀(i:Nat) x,E[i]?=J x->x.par<(i:Int)):∀i,i<=e+1->cntK E e i=i
 |0,_=>rfl
 |i+1,h=>by rw[cntK,aq3 A9 i I,Zu A9 i I];rfl
def aj0(A9:∀(i:Nat) x,E[i]?=J x->(i=0\/0<=x.par)/\x.par<(i:Int))(aq:∀i x,E[i]?=J x->goneB E e i=av->Ec[cntK E e i]?=J (zA E e x)):KT E e (bf (cntK E e (U E)) Ec) (cntK E e) (λi=>goneB E e i=ai):=by
 have aJ:∀(i:Nat) x,E[i]?=J x->x.par<(i:Int):=λi x h=>(A9 i x h).2;refine⟨by have:=EO (E:=E) (e:=e) (U E);grind,λi x ae=>?_,λi x ae aX=>?_,λp y a2=>?_,λi j az aC Mc aqF h=>?_,λi az _=>Zu aJ i I,λi j az aC Mc aqF h=>EP h al⟩
 .rw[Mk ae (aJ i x ae)];grind
 .have td:goneB E e i=av:=al
  have:=(fk.1 ae).1;rw[D6,aA (EP this td),aq i x ae td];rfl
 .have au:=(fk.1 a2).1;simp only[yv] at au;obtain⟨i,aa,ad,an⟩:=Qz (E:=E) (e:=e) (n:=U E) (p:=p) I;grind
 .have aqE:goneB E e i=av:=al
  have aqG:goneB E e j=av:=al
  rcases Nat.lt_trichotomy i j with aa|aa|aa
  .have:=EP aa aqE;omega
  .exact aa
  .have:=EP aa aqG;omega
end
def JG(h:k<=n)(hm:m<=n):sl sz (a5 (J ⟨r,0,ab⟩) m n) ab (J (ah (k:Int))) ab=J (a5 (J ⟨r,0,ab⟩) k n):=by
 have aa:(0:Int)<=(k:Int)/\(k:Int)<=(n:Int):=⟨I,I⟩;simp only[sl,ub,aa,and_self,ei,pU,Nat.sub_zero];congr 2
 split
 .rfl
 .simp[Addr.add]
structure KS(aW:H)(r dj jd cap fY:Nat)(E:List eM)(e i:Nat)(ae:H)(Ec:List eM):Prop where
 cf:ag aW<=ag ae/\∀b,b<ag aW->b≠r->b≠dj->b≠jd->ae[b]?=aW[b]?
 row:∃ce t,ae[r]?=J (aO ce t)/\ag ce=cap*4/\bf (U E*4) (bC ce)=Ec.flatMap fM
 afs:∃u7 t,ae[dj]?=J (aO u7 t)/\ag u7=fY/\∀j,j<U E->u7[j]?=J (aQ (decide (j<i)&&goneB E e j))
 afC:∃u_ t,ae[jd]?=J (aO u_ t)/\ag u_=fY/\∀j,j<i->goneB E e j=av->u_[j]?=J (dc (cntK E e j:Int))
 len:U Ec=U E
 kept:∀j x,j<i->E[j]?=J x->goneB E e j=av->Ec[cntK E e j]?=J (zA E e x)
 rest:∀j,i<=j->Ec[j]?=E[j]?
 Kj:∀x∈Ec,∃y∈E,x.val=y.val/\x.fS=y.fS/\x.kind=y.kind
section
variable{h aa h' ae:H}{own a_:cH}{d bz cur n p kd e r dj jd cap fY i:Nat}{c b6:Array ao}{E cw Ec:List eM}{x:eM}{v u:ao}{R:K}
def ho.aoM(T:ho h own d bz c E cur)(af:h'[d]?=J (.cells b6 bz))(bj:∀b,b<h.size->b≠d->h'[b]?=h[b]?)(aH:∀b,b<h.size->a_ b=own b)(aL:b6.size=c.size)(ay:∀k,k≠8->k≠9->b6[k]?=c[k]?)(cg:b6[8]?=J v1)(cJ:b6[9]?=J v2)(eP:B0 a_ h' v1 n)(hc:B0 a_ h' v2 n)
  (l6:∀r c1 c2,v1=.slice (J ⟨r,0,ab⟩) n n->v2=.slice (J ⟨r,0,ab⟩) c1 c2->False):ho h' a_ d bz b6 E cur:=by
 obtain⟨v,er,aw,ar,aS⟩:=T.y0;have gn:=(cm.1 T.bJ).1;refine⟨af,(aH d gn).trans T.c5,by rw[aL];exact T.size,⟨v,er,al,ar.at λr aF=>?_,λr aF=>?_⟩,by rw[ay 7 aE aE];exact T.curr,⟨v1,v2,n,cg,cJ,eP,hc,l6⟩,λx ae=>(T.wT x ae).at λb dN uu=>⟨bj b dN (λe=>by subst e;rw[T.c5] at uu;cases uu),(aH b dN).trans uu⟩,T.hZ,T.tA,T.kinds⟩
 .subst aF;exact bj r ar.lt (λe=>by subst e;have:=aS r rfl;rw[T.c5] at this;cases this)
 .subst aF;exact(aH r ar.lt).trans (aS r rfl)
def aan:∀{L:List eM} {k:Nat},bf (k*4) (L.flatMap fM)=(bf k L).flatMap fM
 |[],k=>a1
 |a::l,0=>a1
 |a::l,k+1=>by
  have aT:U (fM a)=4:=rfl;simp only[yu,ahE];rw[aBW,aT,xg I,(I:(k+1)*4-4=k*4),aan]
def KS.fin(T:ho aW own d bz c E cur)(aG:∀b x,own b=J x->b<aW.size)(aD:c[6]?=J (.slice (J ⟨r,0,ab⟩) E.length cap))(b7:KS aW r dj jd cap fY E e E.length ae Ec)(aF:own r=J (1000000,2))(im:own dj=J (1000000,3))(Ba:own jd=J (1000000,3))(qV:E.length<=cap)(hC:c[8]?=J (.slice (J ⟨dj,0,ab⟩) fY fY))(gg:c[9]?=J (.slice (J ⟨jd,0,ab⟩) fY fY))(bk:dj≠jd)
  (ar:bV (J d) ae h') (af:h'[d]?=J (.cells (c.setIfInBounds 6 (.slice (J ⟨r,0,ab⟩) (cntK E e E.length) cap)) bz)):ft aW own c h' own d bz (c.setIfInBounds 6 (.slice (J ⟨r,0,ab⟩) (cntK E e E.length) cap)) (Ec.take (cntK E e E.length)) cur/\KT E e (Ec.take (cntK E e E.length)) (cntK E e) (λi=>goneB E e i=ai):=by
 have C:=aj0 (Ec:=Ec) (e:=e) T.tA λi x ae aX=>b7.kept i x (fk.1 ae).1 ae aX;have ay:=EO (E:=E) (e:=e) E.length;have bB:∀b k,k≠0->own b=J (1000000,k)->b≠d:=λb k aq aH e=>by subst e;rw[T.c5] at aH;grind
 have aL:=T.size;obtain⟨ce,t,cc,cK,df⟩:=b7.row;obtain⟨u7,rY,s1,s2,_⟩:=b7.afs;obtain⟨u_,gK,dK,gz,_⟩:=b7.afC;have at':∀b,b<ae.size->b≠d->h'[b]?=ae[b]?:=λb af aI=>ar.2 b af (λe=>aI (en e));have Rh:∀b,b<aW.size->own b=ab->h'[b]?=aW[b]?:=λb af aH=>by
  rw[at' b (cP af b7.cf.1) (λe=>by subst e;rw[T.c5] at aH;cases aH)];exact b7.cf.2 b af (λe=>al) (λe=>al) (λe=>al)
 have T3:(Ec.take (cntK E e E.length)).length=cntK E e E.length:=by rw[yv,b7.len];omega
 refine⟨⟨⟨af,T.c5,al,⟨_,J r,by rw[D3,aA rfl,aA I],⟨_,cap,ce,t,rfl,(at' r (cm.1 cc).1 (bB r 2 aE aF)).trans cc,I,cK,by rw[CJ,T3],?_⟩,λcC e=>al⟩,by rw[sK aE];exact T.curr,
  ⟨_,_,fY,al,al,.inr ⟨dj,u7,rY,rfl,im,(at' dj (cm.1 s1).1 (bB dj 3 aE im)).trans s1,s2⟩,.inr ⟨jd,u_,gK,rfl,Ba,(at' jd (cm.1 dK).1 (bB jd 3 aE Ba)).trans dK,gz⟩,λr c1 c2 a b=>?_⟩,λy a2=>?_,by rw[T3];have:=T.hZ;omega,λp y a2=>?_,λy a2=>?_⟩,dL.refl _ _,⟨dH b7.cf.1 ar.1,λb af aH=>?_⟩,a1,λk aq=>sK I,λb x ae=>cP (aG b x ae) (dH b7.cf.1 ar.1)⟩,C⟩
 .rw[CJ,T3,<-aan,<-df,Wu,yy I]
 .grind
 .obtain⟨z,fC,j6,pT,_⟩:=b7.Kj y (ahy a2);have:=T.wT z fC;unfold uY at this⊢;rw[j6,pT];rcases this with h|⟨bb,cZ,cj⟩
  .exact .inl h
  .exact .inr ⟨bb,cZ,cj.at (Rh bb cj.lt cZ)⟩
 .obtain⟨i,x,c1,c2,cy⟩:=C.UL p y a2;have dQ:=C.kept i x c1 c2;rw[<-cy,a2] at dQ;cases dQ;have aJ:=T.tA i x c1;simp only;by_cases aW:x.par<0
  .rw[aA aW];have:i=0:=I
   subst this;rw[cy];exact⟨.inl rfl,I⟩
  .rw[ak aW];have aX:goneB E e x.par.toNat=av:=by
    have:¬goneB E e i=ai:=c2;rw[Mk c1 aJ.2] at this;grind
   have:=EP (E:=E) (e:=e) (i:=x.par.toNat) (j:=i) I aX;omega
 .obtain⟨z,fC,j6,pT,rp⟩:=b7.Kj y (ahy a2);rw[rp];exact T.kinds z fC
 .rw[at' b (cP af b7.cf.1) (λe=>by subst e;exact aH 0 T.c5 (.inl rfl))];exact b7.cf.2 b af (λe=>by subst e;exact aH 2 aF (.inr (.inl rfl))) (λe=>by subst e;exact aH 3 im (.inr (.inr rfl))) (λe=>by subst e;exact aH 3 Ba (.inr (.inr rfl)))
end
