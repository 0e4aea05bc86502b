/- A part of the proof of FnTomlReadCardSaid: for every string the law FnTomlRead returns true. Conditions: those of the given row and card, no others. -/
import Derived.Test.YteonbmabmhoffaaGreatDoorA14
open Option renaming some->J,none->ab
open Bool renaming true->ai,false->av
open Go.Value renaming bool->aQ
open Or renaming inl->bF,inr->bt
open List renaming length->U,drop->ax,take->bf
open Array renaming size->ag
namespace Go.Proofs.YteonbmabmhoffaaGreatDoor.F
set_option linter.all false
set_option autoImplicit true
set_option relaxedAutoImplicit true
set_option maxRecDepth 100000
set_option maxHeartbeats 4000000
noncomputable section
section
variable{D:B}{i j e k n m p q a dq:Nat}{s l o VS:B}
def LM(h:j_ c):fH c:=by
 unfold j_ at h;unfold fH jN;rcases h with h|h
 .have:=js h;omega
 .omega
def aqy:∀{i:Nat} {d:Nat},∃fl,(gZ D i (J d)).2=J fl:=λ{i}=>by
 induction hm:U D-i using Nat.strongRecOn generalizing i with
 |ind m bR=>
  intro d;by_cases au:i<U D
  .by_cases c1:j_ (g D i)
   .rw[ve au c1];exact bR _ I rfl
   .by_cases c2:lU D i
    .rw[v' au c1 c2];exact bR _ I rfl
    .rw[qP (λ_=>c1) (λ_=>c2)];grind
  .rw[qP (λe=>absurd e au) (λe=>absurd e au)];grind
def L8(he:e<=U D)(aI:¬fH (g D e)):(gZ D e dl=(e,dl))\/(g D e=32/\48<=g D (e+1)/\g D (e+1)<=57/\∃c' Ax,gZ D e dl=(c',Ax)/\e<c'/\c'<=U D/\(dl.isSome=ai->Ax.isSome=ai)):=by
 have c1:¬j_ (g D e):=λq=>aI (LM q);by_cases au:e<U D
 .by_cases c2:lU D e
  .right
   have nx:g D e=32/\cT (g D (e+1))=ai:=by
    unfold lU at c2;unfold fH jN at aI;grind
   have aG:=js nx.2;refine⟨nx.1,aG.1,aG.2,(gZ D e dl).1,(gZ D e dl).2,rfl,?_,?_,?_⟩
   .rw[v' au c1 c2];have:=E9 (D:=D) (i:=e+1) (dl:=J (dl.getD e)) I;by_cases ae:dl.getD e<e+1
    .grind
    .have:=aaI (D:=D) (a:=e+1) (i:=e+1) (dl:=ab) (bQ _) (λd aG=>by cases aG);have key:∀(x y:Nat) eJ o2,(gZ D x eJ).1=(gZ D x o2).1:=λx=>by
      induction hm:U D-x using Nat.strongRecOn generalizing x with
      |ind m bR=>
       intro y eJ o2;by_cases au:x<U D
       .by_cases c1:j_ (g D x)
        .rw[ve au c1,ve au c1];exact bR _ I (x+1) rfl y _ _
        .by_cases c2:lU D x
         .rw[v' au c1 c2,v' au c1 c2];exact bR _ I (x+1) rfl y _ _
         .rw[qP (λ_=>c1) (λ_=>c2),qP (λ_=>c1) (λ_=>c2)]
       .rw[qP (λe=>absurd e au) (λe=>absurd e au),qP (λe=>absurd e au) (λe=>absurd e au)]
     rw[key (e+1) 0 _ ab];have:=E9 (D:=D) (i:=e+1) (dl:=ab) I (λd aG=>by cases aG);omega
   .have key:∀(x y:Nat) eJ o2,(gZ D x eJ).1=(gZ D x o2).1:=λx=>by
     induction hm:U D-x using Nat.strongRecOn generalizing x with
     |ind m bR=>
      intro y eJ o2;by_cases au:x<U D
      .by_cases c1:j_ (g D x)
       .rw[ve au c1,ve au c1];exact bR _ I (x+1) rfl y _ _
       .by_cases c2:lU D x
        .rw[v' au c1 c2,v' au c1 c2];exact bR _ I (x+1) rfl y _ _
        .rw[qP (λ_=>c1) (λ_=>c2),qP (λ_=>c1) (λ_=>c2)]
      .rw[qP (λe=>absurd e au) (λe=>absurd e au),qP (λe=>absurd e au) (λe=>absurd e au)]
    rw[key e 0 dl ab];exact(E9 (D:=D) (i:=e) (dl:=ab) he (λd aG=>by cases aG)).2.1
   .intro _;rw[v' au c1 c2];obtain⟨fl,nA⟩:=aqy (D:=D) (i:=e+1) (d:=dl.getD e);grind
  .exact bF (qP (λ_=>c1) (λ_=>c2))
 .exact bF (qP (λq=>absurd q au) (λq=>absurd q au))
def ZW(h:g D (i+2)=58):dtKind D i e dl=13:=by
 cases dl<;>(unfold dtKind;grind)
def apu(he:e<j)(aC:j<=U D)(az:i<=e)(nx:g D e=32):dval D 13 i j=ab:=by
 unfold dval;rw[ak aE,ak aE,ak aE];cases au:ltime D i j with
 |none=>rfl
 |some x=>
  obtain⟨t,n⟩:=x;simp only;rw[aA];have aP:=Ug aC au;rcases jw n j with h|h
  .exact h
  .have:=aP.mo aC e az I;omega
def ZY(he:e<j)(aC:j<=U D)(az:i+11<=e)(nx:g D e=32)(aq:k=14\/k=15):dval D k i j=ab:=by
 have key:∀d t n,ldt D i j=J (d,t,n)->n<=e:=λd t n h=>by
  have⟨_,aP⟩:=TZ aC h;rcases jw e n with h|h
  .have:=aP.mo aC e az h;omega
  .exact h
 rcases aq with rfl|rfl
 .unfold dval;rw[ak aE,aA rfl];grind
 .unfold dval;rw[aA rfl];unfold godt;cases au:ldt D i j with
  |none=>rfl
  |some x=>
   obtain⟨d,t,n⟩:=x;simp only;have aI:=key _ _ _ au;rw[ak I];cases aV:gzone D n j with
   |none=>rfl
   |some y=>
    obtain⟨z,k'⟩:=y;simp only;by_cases aq:k'<j
    .grind
    .obtain⟨_,ay⟩:=RP aC I aV aq;rcases ay with ⟨bq,bw⟩|⟨bq,bw,fm,A,M,jt,eT,_⟩
     .grind
     .have t1:=r1 I jt;have t2:=r1 I eT;grind
def apr(aa:cT (g D (i+1))=ai)(ad:g D (i+2)=58):mq D i=ai:=by
 unfold mq;rw[r_];grind
def I8(aC:j<=U D)(h:ldate D i j=J d):cT (g D i)=ai/\mq D i=ai/\g D (i+2)≠58/\g D (i+4)=45/\(two (aU D i (i+4))).isSome=ai:=by
 obtain⟨rfl,_,aG⟩:=FU aC h;obtain⟨aW,aT,de,y,sG,Hz,a2,hm,aG,af⟩:=aG;rw[gY I aC] at aT;rw[kH I] at a2;have c:=r1 I a2;have ep:=c i I I;have c1:=c (i+1) I I;have c2:=c (i+2) I I;have cy:=c (i+3) I I;refine⟨rO ep,?_,I,aT,by rw[a2];rfl⟩;unfold mq;rw[r_];exact bt ⟨rO c1,rO c2,rO cy,aT⟩
def mn.dig(aC:j<=U D)(h:mn D i j t k):cT (g D i)=ai/\cT (g D (i+1))=ai:=by
 have:=h.le;have c:=r1 I h.h;exact⟨rO (c i I I),rO (c (i+1) I I)⟩
def hp(k:Nat):Prop:=k=12\/k=13\/k=14\/k=15
def awL(he:e<=U D)(aI:¬fH (g D e))(hm:Eu D i e dq VS)(af:dq=6->¬(g D e=32/\48<=g D (e+1)/\g D (e+1)<=57)):
  cT (g D i)=ai/\mq D i=ai/\((∃k,hp k/\om D i=J (k,e)/\dval D k i e=J (.mk dq 0 0 VS [] []))\/(∃k c',hp k/\om D i=J (k,c')/\dval D k i c'=ab/\g D e=32/\48<=g D (e+1)/\g D (e+1)<=57)):=by
 cases hm with
 |clock aP=>
  rename_i t;have hle:=aP.le;have mA:=aP.dig he;refine⟨mA.1,apr mA.2 aP.c2,?_⟩;have aF:=L9 (D:=D) (i:=i) (dl:=ab) (k:=e) I he (aP.tZ he);rcases L8 (dl:=ab) he aI with h|⟨nx,d1,d2,c',Ax,h,bq,bw,fm⟩
  .refine bF ⟨13,by simp[hp],?_,?_⟩
   .unfold om;rw[aF,h];simp only;rw[ZW aP.c2]
   .obtain⟨eO,bx,bH,cq,dT,e3⟩:=agJ he aP;unfold dval;rw[ak aE,ak aE,ak aE,bx];grind
  .refine bt ⟨13,c',by simp[hp],?_,apu bq bw I nx,nx,d1,d2⟩;unfold om;rw[aF,h];simp only;rw[ZW aP.c2]
 |day dh aG=>
  rename_i d;obtain⟨bx,bH,cq,_⟩:=I8 he aG;refine⟨bx,bH,bF ⟨12,by simp[hp],?_,?_⟩⟩
  .have aF:=L9 (D:=D) (i:=i) (dl:=ab) (k:=e) I he (λx aa ad=>by
    have:=TW he aG x aa I;exact yX I)
   rcases L8 (dl:=ab) he aI with h|⟨nx,d1,d2,_⟩
   .unfold om;rw[aF,h];simp only;unfold dtKind;grind
   omega
  .unfold dval;rw[ak aE,ak aE,aA rfl,aG];rfl
 |loc gI aP=>
  rename_i d t;obtain⟨bx,bH,cq,_⟩:=I8 gI.le gI.day;refine⟨bx,bH,?_⟩;have hle:=aP.le;have mA:=js (aP.dig he).1;have aF:=gI.run (λ_=>mA) I he (aP.tZ he);rcases L8 (dl:=J (i+10)) he aI with h|⟨nx,d1,d2,c',Ax,h,bq,bw,fm⟩
  .refine bF ⟨14,by simp[hp],?_,?_⟩
   .have aV:yt (ax (i+10+1) (bf e D))=av:=aBt λn aI=>by
     have au:U (ax (i+10+1) (bf e D))=e-(i+11):=hi (i:=i+11) he;have aX:g (ax (i+10+1) (bf e D)) n=g D (i+11+n):=gY (i:=i+11) I he;rw[aX];have:=aP.mo he (i+11+n) I I;unfold tH;omega
    unfold om;rw[aF,h];simp only;unfold dtKind;simp only;grind
   .obtain⟨eO,cg,cJ⟩:=adW he gI aP;unfold dval;rw[ak aE,aA rfl,cg];grind
  .have aL:=fm rfl;obtain⟨fl,rfl⟩:=D9.1 aL;have aq:dtKind D i c' (J fl)=14\/dtKind D i c' (J fl)=15:=by
    unfold dtKind;simp only;rw[ak cq];grind
   refine bt ⟨dtKind D i c' (J fl),c',by unfold hp;omega,?_,ZY bq bw I nx aq,nx,d1,d2⟩;unfold om;rw[aF,h]
 |off gI aP Ft aV avq xP=>
  rename_i d t k z;obtain⟨bx,bH,cq,_⟩:=I8 gI.le gI.day;refine⟨bx,bH,?_⟩;have hle:=aP.le;have mA:=js (aP.dig I).1;have aF:=gI.run (e:=e) (λ_=>mA) I he (λx aa ad=>by
   by_cases ae:x<k
   .exact aP.tZ I x aa ae
   grind)
  rcases L8 (dl:=J (i+10)) he aI with h|⟨nx,d1,d2,c',Ax,h,bq,bw,fm⟩
  .refine bF ⟨15,by simp[hp],?_,?_⟩
   .have au:U (ax (i+10+1) (bf e D))=e-(i+11):=hi (i:=i+11) he;have aX:g (ax (i+10+1) (bf e D)) (k-(i+11))=g D (i+11+(k-(i+11))):=gY (i:=i+11) I he;have aV:yt (ax (i+10+1) (bf e D))=ai:=aBu (n:=k-(i+11)) I al;unfold om;rw[aF,h];simp only;unfold dtKind;simp only;grind
   .have aX:mn D (i+11) e t k:=aP.grow I (by unfold tH at avq;omega);obtain⟨eO,cg,cJ⟩:=adW he gI aX;unfold dval godt;rw[aA rfl,cg];simp only;rw[ak I,aV];simp only;grind
  .have aL:=fm rfl;obtain⟨fl,rfl⟩:=D9.1 aL;have aq:dtKind D i c' (J fl)=14\/dtKind D i c' (J fl)=15:=by
    unfold dtKind;simp only;rw[ak cq];grind
   refine bt ⟨dtKind D i c' (J fl),c',by unfold hp;omega,?_,ZY bq bw I nx aq,nx,d1,d2⟩;unfold om;rw[aF,h]
def Ov:∀{i:Nat},i<=U D->i+scN (ax i D)<=U D/\(∀x,i<=x->x<i+scN (ax i D)->fH (g D x))/\¬fH (g D (i+scN (ax i D))):=λ{i}=>by
 induction hm:U D-i using Nat.strongRecOn generalizing i with
 |ind m bR=>
  intro az;by_cases au:i<U D
  .rw[tJ au,scN,hX au];by_cases ay:fH (g D i)
   .rw[aA ay];obtain⟨aa,ad,an⟩:=bR (U D-(i+1)) I rfl I;grind
   .rw[ak ay];grind
  .rw[BV I];refine⟨az,λx bq bw=>by simp[scN] at bw;omega,?_⟩;show¬fH (g D i);rw[g6 I];unfold fH jN;omega
def Ow(h1:i<=e)(he:e<=U D)(h:∀x,i<=x->x<e->fH (g D x))(aI:¬fH (g D e)):i+scN (ax i D)=e:=by
 obtain⟨aa,ad,an⟩:=Ov (D:=D) (i:=i) I;grind
def JK:bf n (ax i D)=aU D i (i+n):=by unfold aU;rw[GA]
def azg(az:i<=U D):i+iW (ax i D)<=U D/\¬fH (g D (i+iW (ax i D)))/\(nY (aU D i (i+iW (ax i D)))->¬(g D (i+iW (ax i D))=32/\48<=g D (i+iW (ax i D)+1)/\g D (i+iW (ax i D)+1)<=57)):=by
 obtain⟨aa,ad,an⟩:=Ov az;unfold iW;rw[JK,ud,ud,tI];by_cases ay:nY (aU D i (i+scN (ax i D)))/\g D (i+scN (ax i D))=32/\48<=g D (i+(scN (ax i D)+1))/\g D (i+(scN (ax i D)+1))<=57
 .rw[aA ay];have au:=cu (D:=D) (i:=i+scN (ax i D)) I;obtain⟨cZ,cj,eI⟩:=Ov (D:=D) (i:=i+(scN (ax i D)+1)) I;have aw:i+(scN (ax i D)+1+scN (ax (i+(scN (ax i D)+1)) D))=i+(scN (ax i D)+1)+scN (ax (i+(scN (ax i D)+1)) D):=I
  rw[aw];refine⟨cZ,eI,λaG=>?_⟩;have:=aG.1;rw[hi cZ] at this;have dh:=ay.1.1;rw[hi aa] at dh;omega
 .rw[ak ay];grind
def Ou(h1:i<=e)(he:e<=U D)(h:∀x,i<=x->x<e->fH (g D x))(aI:¬fH (g D e))(aG:¬(nY (aU D i e)/\g D e=32/\48<=g D (e+1)/\g D (e+1)<=57)):i+iW (ax i D)=e:=by
 have aa:=Ow h1 he h aI;unfold iW;rw[JK,ud,ud,aa,(I:i+(scN (ax i D)+1)=e+1),ak aG];exact aa
def mn.DE(aC:j<=U D)(h:mn D i j t k):∀x,i<=x->x<k->fH (g D x):=λx aa ad=>LM (h.tZ aC x aa ad)
def ZF(he:e<=U D)(ad:i+2<e)(h:g D (i+2)=58):qc (aU D i e):=by
 unfold qc;exact bt ⟨by rw[hi he];omega,by rw[gY I he];exact h⟩
def QE(he:e<=U D)(ad:i+4<e)(h:g D (i+4)=45)(an:(two (aU D i (i+4))).isSome=ai):qc (aU D i e):=by
 unfold qc;exact bF ⟨by rw[hi he];omega,by rw[gY I he];exact h,by rw[kH I];exact an⟩
def awK(he:e<=U D)(aI:¬fH (g D e))(aX:om D i=J (k,e))(aD:dval D k i e=J v):i+iW (ax i D)=e/\(moment (aU D i e)).2.2≠1/\qc (aU D i e):=by
 unfold om at aX;simp only[dg,hI] at aX;obtain⟨aq,eg⟩:=aX;rw[eg] at aq;have e_:=aqz (D:=D) (i:=i) (dl:=ab);rw[eg] at e_;have au:U (aU D i e)=e-i:=hi he;have both:∀d t (n:Nat),xk D i d->mn D (i+11) e t n->(∀x,i+11<=x->x<e->fH (g D x))->(∃z,zoneS (aU D (i+11) e)=J (aU D (i+11) n,z))->i+iW (ax i D)=e/\(moment (aU D i e)).2.2≠1/\qc (aU D i e):=λd t n gI aP tl ⟨z,aV⟩=>by
  obtain⟨bx,bH,cq,dT,e3⟩:=I8 gI.le gI.day;have hle:=aP.le;have dh:nY (aU D i (i+10)):=(FU gI.le gI.day).2.2;refine⟨?_,?_,QE he I dT e3⟩
  .have ze:∀x,i<=x->x<i+10->fH (g D x):=λx bq bw=>LM (gI.mo x bq bw);by_cases nx:g D (i+10)=32
   .have aa:=Ow (D:=D) (i:=i) (e:=i+10) I I ze (by rw[nx];unfold fH jN;omega);have ad:=Ow (D:=D) (i:=i+11) (e:=e) I he tl aI;have mA:=js (aP.dig he).1;unfold iW;rw[JK,ud,ud,tI,aa,(I:i+(scN (ax i D)+1)=i+11),aA ⟨dh,nx,mA.1,mA.2⟩];omega
   .refine Ou I he (λx bq bw=>?_) aI (λq=>?_)
    .by_cases b_:x<i+10
     .grind
     by_cases cp:x=i+10
     .have:=gI.del;rw[cp];unfold fH jN;omega
     grind
    .have:=q.1.1;omega
  .unfold moment;rw[ak (by rw[au];rintro⟨bq,bw⟩;rw[gY I he] at bw;exact cq bw),ak,ak I,ak (by rw[gY I he];have:=gI.del;omega),m6,aV]
   .exact Zr I (aP.cut he)
   .rw[kH I];grind
 unfold dval at aD;by_cases adv:k=15
 .rw[aA adv] at aD;unfold godt at aD;cases aG:ldt D i e with
  |none=>grind
  |some x=>
   obtain⟨d,t,n⟩:=x;rw[aG] at aD;simp only at aD;obtain⟨cg,cJ⟩:=TZ he aG;have hle:=cJ.le;by_cases c1:n=e
   .grind
   rw[ak c1] at aD;cases aV:gzone D n e with
   |none=>grind
   |some y=>
    obtain⟨z,k'⟩:=y;rw[aV] at aD;simp only at aD;by_cases c2:k'<e
    .grind
    .obtain⟨_,ay⟩:=RP he I aV c2;refine both d t n cg cJ (λx bq bw=>?_) (aBx he I I aV c2);by_cases ae:x<n
     .exact cJ.DE he x bq ae
     .unfold fH jN;rcases ay with ⟨cc,cK⟩|⟨cc,cK,df,A,M,gB,hj,_⟩
      .grind
      .have t1:=r1 I gB;have t2:=r1 I hj;grind
 rw[ak adv] at aD;by_cases adu:k=14
 .rw[aA adu] at aD;cases aG:ldt D i e with
  |none=>grind
  |some x=>
   obtain⟨d,t,n⟩:=x;rw[aG] at aD;simp only at aD;obtain⟨cg,cJ⟩:=TZ he aG;have hle:=cJ.le;by_cases c1:n<e
   .grind
   .have:n=e:=I
    subst this;exact both d t n cg cJ (cJ.DE he) ⟨[],aBw he (cJ.mo he)⟩
 rw[ak adu] at aD;by_cases TI:k=12
 .rw[aA TI] at aD;cases aG:ldate D i e with
  |none=>grind
  |some d=>
   obtain⟨bx,bH,cq,dT,e3⟩:=I8 he aG;obtain⟨dh,_,ze⟩:=FU he aG;refine⟨?_,?_,QE he I dT e3⟩
   .refine Ou I he (λx bq bw=>?_) aI (λq=>?_)
    .have:=TW he aG x bq I;exact LM (yX I)
    .have a':=cu (D:=D) (i:=e) I;refine(e_ a').2 ?_;unfold lU;exact bt (bt ⟨q.2.1,rO q.2.2⟩)
   .unfold moment;rw[ak (by rw[au];rintro⟨bq,bw⟩;rw[gY I he] at bw;exact cq bw),ak,aA I]
    .grind
    .rintro(q|q)
     .omega
     .rw[kH I,<-dh] at q;exact q ze
 rw[ak TI] at aD;cases aP:ltime D i e with
 |none=>grind
 |some x=>
  obtain⟨t,n⟩:=x;rw[aP] at aD;simp only at aD;have aL:=Ug he aP;have hle:=aL.le;by_cases c1:n<e
  .grind
  .have:n=e:=I
   subst this;refine⟨?_,?_,ZF he I aL.c2⟩
   .refine Ou I he (aL.DE he) aI (λq=>?_);obtain⟨aW,aT,de,y,sG,Hz,a2,_⟩:=q.1;rw[kH I] at a2;have:=r1 I a2 (i+2) I I;have:=aL.c2;omega
   .unfold moment;rw[aA ⟨I,by rw[gY I he];exact aL.c2⟩];exact Zr he aL
end
section
variable{D:B}{i j e k n m p q a dq:Nat}{s l o VS:B}
def aaK(h:om D i=J (k,e)):hp k:=by
 unfold om at h;simp only[dg,hI] at h;obtain⟨rfl,_⟩:=h;unfold dtKind hp;split
 .split<;>simp
 .split
  .simp
  .split<;>simp
def aa5(h:gnum D i=J (k,e)):k=10\/k=11:=by
 unfold gnum at h;split at h
 .grind
 .split at h
  .cases h
  .split at h
   .simp_all
   .split at h
    .cases h
    .split at h
     .cases h
     .rename_i bS _ _;unfold numTail at h;cases bj:rS D bS with
      |none=>grind
      |some x=>
       obtain⟨bc,cj⟩:=x;rw[bj] at h;simp only at h;have aFy:cj=10\/cj=11:=by
        unfold rS at bj;split at bj
        .split at bj
         .cases aX:gF cT D (bS+2) with
          |none=>grind
          |some y=>grind
         .cases bj
        grind
       cases he:rR D bc cj with
       |none=>grind
       |some x=>
        obtain⟨eL,eI⟩:=x;rw[he] at h;simp only[zF] at h;split at h
        .cases h
        .simp only[dg,hI] at h;obtain⟨rfl,_⟩:=h;unfold rR at he;split at he
         .split at he
          .cases aX:gF cT D (bg D (bc+1)+1) with
           |none=>grind
           |some y=>grind
          .cases he
         grind
def TC(h:gnum D i=J (k,e))(aI:g D (bg D i)=105\/g D (bg D i)=110):k=10/\e=bg D i+3/\aU D (bg D i) e=vA (g D (bg D i)):=by
 unfold gnum at h;rw[aA aI] at h;split at h
 .rename_i ay;simp only[dg,hI] at h;exact⟨h.1.symm,h.2.symm,by rw[<-h.2];exact ay⟩
 .cases h
def Oy:g D (bg D i)=g D i/\bg D i=i\/(g D i=43\/g D i=45)/\bg D i=i+1:=by
 unfold bg;split
 .omega
 omega
def wZ(h:(48<=c/\c<=57)\/(97<=c/\c<=122)\/(65<=c/\c<=90)\/c=95\/c=43\/c=45\/c=46):fH c/\c≠58:=by
 unfold fH jN;omega
def QJ(h:g D x=95\/∃d,fQ (g D x)=J d/\d<b):fH (g D x)/\g D x≠58:=by
 rcases h with h|⟨d,h,_⟩
 .exact wZ I
 .have:=rH h;exact wZ I
def adO(h:aU D i e=w)(he:e<=U D)(aa:i<=x)(ad:x<e)(hw:∀c∈w,97<=c.toNat/\c.toNat<=122):fH (g D x)/\g D x≠58:=by
 have au:=hi (i:=i) he;have ae:x-i<U (aU D i e):=I
 have aX:=gY (D:=D) (i:=i) (j:=e) (k:=x-i) I he;rw[(I:i+(x-i)=x),fu ae] at aX;have:=hw ((aU D i e)[x-i]) al;exact wZ I
def aqY(az:i<=U D)(h:gnum D i=J (k,e)):∀x,i<=x->x<e->fH (g D x)/\g D x≠58:=by
 have m_:=Mj az h;have aL:=Oy (D:=D) (i:=i);have he:=m_.2.2.1;have aE1:∀x,i<=x->x<bg D i->fH (g D x)/\g D x≠58:=λx aa ad=>by
  rcases aL with ⟨_,q⟩|⟨bq,bw⟩
  .omega
  .have:x=i:=I
   rw[this];exact wZ I
 rcases aa5 h with rfl|rfl
 .by_cases aI:g D (bg D i)=105\/g D (bg D i)=110
  .obtain⟨_,aa,ad⟩:=TC h aI;intro x b_ cp;by_cases ae:x<bg D i
   .grind
   .refine adO ad he I cp ?_;unfold vA;split<;>decide
  .obtain⟨bS,bc,bj,_⟩:=Rb h aI;obtain⟨cg,cJ,eP,hc⟩:=bj.Cx;have ih:∀{u v:Nat},ku D u v->∀x,u<=x->x<v->fH (g D x)/\g D x≠58:=λaG x bq bw=>by
    have:=aG.mo x bq bw;exact wZ I
   intro x b_ cp;by_cases dd:x<bg D i
   .grind
   by_cases dr:x<bS
   .exact ih bj.ih x I dr
   by_cases fq:x<bc
   .cases bj.cf with
    |no _=>omega
    |yes q aG=>
     by_cases pd:x=bS
     .rw[pd];exact wZ I
     .exact ih aG x I fq
   cases bj.ex with
   |no _=>omega
   |yes q aG=>
    unfold ts at q;by_cases pd:x=bc
    .rw[pd];exact wZ I
    .by_cases xd:x<bg D (bc+1)
     .rcases Oy (D:=D) (i:=bc+1) with ⟨_,q⟩|⟨bq,bw⟩
      .omega
      .have:x=bc+1:=I
       rw[this];exact wZ I
     grind
 .obtain⟨_,ok⟩:=int_eq h az;obtain⟨_,F4,Jj⟩:=ok;intro x b_ cp;by_cases ay:i+2<e/\g D i=48
  .by_cases dd:x=i
   .rw[dd];exact wZ I
   .rcases F4 ay with ⟨bq,bw⟩|⟨bq,bw⟩|⟨bq,bw⟩;all_goals
     by_cases dr:x=i+1
     .rw[dr];exact wZ I
     .exact QJ (bw x I cp)
  .have q:=Jj ay;by_cases dd:g D i=45\/g D i=43
   .rw[aA dd] at q;by_cases dr:x=i
    .rw[dr];exact wZ I
    .exact QJ (q x I cp)
   .rw[ak dd] at q;exact QJ (q x b_ cp)
def axd(he:e<=U D)(ay:∀x,i<=x->x<e->g D x≠58)(aL:(cT (g D i)=ai/\mq D i=av)\/cT (g D i)=av):¬qc (aU D i e)/\¬nY (aU D i e):=by
 have au:=hi (i:=i) he;have aa:4<U (aU D i e)->g (aU D i e) 4=45->(two (bf 4 (aU D i e))).isSome=ai->False:=λa b c=>by
  rw[gY I he] at b;rw[kH I,JO I] at c;have d0:=c i I I;have d1:=c (i+1) I I;have d2:=c (i+2) I I;have d3:=c (i+3) I I;rcases aL with ⟨_,q⟩|q
  .have:mq D i=ai:=by
    unfold mq;rw[r_];exact bt ⟨rO d1,rO d2,rO d3,b⟩
   grind
  .rw[rO d0] at q;cases q
 constructor
 .rintro(⟨a,b,c⟩|⟨a,b⟩)
  .grind
  .rw[gY I he] at b;grind
 .rintro⟨a,b,_,y,_,_,c,_⟩;grind
def aoB(h:fH (g D j)):Hl D j:=by
 have:g D j≠0:=λe=>by rw[e] at h;unfold fH jN at h;omega
 refine⟨cu this,?_⟩;unfold fH jN at h;omega
def adP(h:qh D w i k=J (n,e)):n=k/\e=i+U w/\aU D i e=w:=by
 unfold qh at h;split at h
 .rename_i ay;simp only[dg,hI] at h;exact⟨h.1.symm,h.2.symm,by rw[<-h.2];exact ay⟩
 .cases h
def NC(h:aU D i (i+w.length)=w):qh D w i k=J (k,i+w.length):=by
 unfold qh;rw[aA (show(D.take (i+w.length)).drop i=w from h)]
def HY(h:(cT (g D i)=ai/\mq D i=av)\/g D i=43\/g D i=45):gm D i=gnum D i:=by
 unfold gm;rcases h with ⟨aa,ad⟩|h
 .have:=js aa;rw[ak I,ak I,ak I,ak I,ak I,aA aa,ak al]
 .rw[ak I,ak I,ak I,ak I,aA I]
def RH(aa:cT (g D i)=ai)(ad:mq D i=ai):gm D i=om D i:=by
 have:=js aa;unfold gm;rw[ak I,ak I,ak I,ak I,ak I,aA aa,aA ad]
def axe(az:i<=e)(he:e<=U D)(aI:¬fH (g D e))(h:¬qc (aU D i e))(aL:∀x,i<=x->x<e->True)(aG:cT (g D i)=ai):mq D i=av:=by
 cases b5:mq D i with
 |false=>rfl
 |true=>
  exfalso;apply h;unfold mq at b5;rw[r_] at b5;have hQ:∀x,cT (g D x)=ai->e≠x:=λx ae q=>by
   rw[q] at aI;have:=js ae;unfold fH jN at aI;omega
  rcases b5 with ⟨bq,bw⟩|⟨bq,bw,fm,jt⟩
  .have fY:=hQ i aG;have fj:=hQ (i+1) bq;have h2:e≠i+2:=λq=>by rw[q] at aI;unfold fH jN at aI;omega
   exact ZF he I bw
  .have fY:=hQ i aG;have fj:=hQ (i+1) bq;have h2:=hQ (i+2) bw;have tw:=hQ (i+3) fm;have FX:e≠i+4:=λq=>by rw[q] at aI;unfold fH jN at aI;omega
   refine QE he I jt ((JO I).2 λx b_ cp=>?_);have:x=i\/x=i+1\/x=i+2\/x=i+3:=I
   rcases this with r|r|r|r
   .rw[r];exact js aG
   .rw[r];exact js bq
   .rw[r];exact js bw
   .rw[r];exact js fm
def awJ(he:e<=U D)(h:(moment (aU D i e)).2.2=0)(cB:(moment (aU D i e)).1=6):nY (aU D i e):=by
 have:=aem he h;rw[cB] at this;generalize (moment (aU D i e)).2.1=t at this;cases this with
 |day dh aG=>exact(FU he aG).2.2
def azx{s:Nat}(aL:s=105\/s=110):aU D i e=vA s->aU D i e=[105,110,102]\/aU D i e=[110,97,110]:=λh=>by
 rcases aL with rfl|rfl
 .left;rw[h];rfl
 .right;rw[h];rfl
def TD(h1:i<e)(he:e<=U D)(h:aU D (bg D i) e=[105,110,102]\/aU D (bg D i) e=[110,97,110]):kK (aU D i e)=.inl (vY (Ge D i))/\(g D (bg D i)=105\/g D (bg D i)=110)/\e=bg D i+3:=by
 have au:U (aU D (bg D i) e)=e-bg D i:=hi he;have x5:i<=bg D i/\bg D i<=e:=by unfold bg;grind
 have an:U (aU D (bg D i) e)=3:=al
 have cn:g D (bg D i)=g (aU D (bg D i) e) 0:=(gY (i:=bg D i) (k:=0) I he).symm;have gc:g D (bg D i)=105\/g D (bg D i)=110:=by
  rw[cn];rcases h with h|h<;>rw[h]
  .exact .inl rfl
  .exact .inr rfl
 refine⟨?_,gc,I⟩;unfold kK;simp only;rw[JB h1 he,BI h1 he];rcases h with h|h
 .rw[h,aA rfl];have Mc:g D (bg D i)=105:=by rw[cn,h];rfl
  unfold Ge;rw[aA Mc];by_cases l8:g D i=45
  .rw[aA l8,j7 l8,Qq I];decide+kernel
  .rw[ak l8,ig l8,Qq I];decide+kernel
 .rw[h,ak aE,aA rfl];have Mc:g D (bg D i)=110:=by rw[cn,h];rfl
  unfold Ge;rw[ak I];have:vY 9221120237041090561=9221120237041090561:=by unfold vY;grind
  rw[this]
def aas(h:fpow aF4 ds z yg=.inr 0):False:=by
 unfold fpow at h;cases yg with
 |none=>have:=LW h;omega
 |some y=>
  simp only at h;cases aJ:pwr y with
  |inl p=>rw[aJ] at h;have:=LW h;omega
  |inr c=>
   rw[aJ] at h;have ay:c=0:=Sum.inr.inj h;subst ay;unfold pwr at aJ;grind
def azn(h:kK l=.inr c)(ay:c=0):False:=by
 subst ay;unfold kK at h;simp only at h;generalize (if top l=43\/top l=45 then l.tail else l)=r at h;by_cases c1:r=[105,110,102]
 .grind
 rw[ak c1] at h;by_cases c2:r=[110,97,110]
 .grind
 rw[ak c2] at h;generalize cut [46] (fstO (cut [101,69] r) r)=cp at h;generalize fstO cp (fstO (cut [101,69] r) r)=cf at h;generalize cut [101,69] r=b_ at h;by_cases cy:b_.isNone=ai/\cp.isNone=ai
 .grind
 rw[ak cy] at h;cases aG:dig 10 av cf with
 |none=>grind
 |some o=>
  rw[aG] at h;simp only at h;by_cases aH:o=[]\/(1<U o/\g o 0=48)
  .grind
  .rw[ak aH] at h;unfold CM at h;cases cp with
   |none=>exact aas h
   |some y=>
    simp only[jl] at h;cases h9:dig 10 av y.2 with
    |none=>grind
    |some o2=>
     rw[h9] at h;simp only at h;by_cases ib:o2=[]
     .grind
     .rw[ak ib] at h;exact aas h
def anZ(aM:U D<=400):WordLaw D:=by
 intro i az hu aev awS awW awR;obtain⟨s1,s2,dB⟩:=Ov az;obtain⟨aw,ar,aS⟩:=azg az;unfold word;rw[JK,JK,tI,tI];by_cases ER:aU D i (i+scN (ax i D))=[116,114,117,101]
 .rw[aA ER];have au:=hi (D:=D) (i:=i) s1;rw[ER] at au;have aT:scN (ax i D)=4:=al
  rw[aT] at ER s1⊢;have cn:g D i=116:=by
   have q:=gY (D:=D) (i:=i) (j:=i+4) (k:=0) I s1;rw[ER] at q;exact q.symm
  refine .inl ⟨9,i+4,?_,rfl,λQ q=>?_⟩
  .unfold gm;rw[aA cn];exact NC ER
  .unfold tokQ;rw[ak aE,ak aE,aA rfl,j7 cn];exact q
 rw[ak ER];by_cases vZ:aU D i (i+scN (ax i D))=[102,97,108,115,101]
 .rw[aA vZ];have au:=hi (D:=D) (i:=i) s1;rw[vZ] at au;have aT:scN (ax i D)=5:=al
  rw[aT] at vZ s1⊢;have cn:g D i=102:=by
   have q:=gY (D:=D) (i:=i) (j:=i+5) (k:=0) I s1;rw[vZ] at q;exact q.symm
  refine .inl ⟨9,i+5,?_,rfl,λQ q=>?_⟩
  .unfold gm;rw[ak I,aA cn];exact NC vZ
  .unfold tokQ;rw[ak aE,ak aE,aA rfl,ig I];exact q
 rw[ak vZ];generalize xQ:i+iW (ax i D)=e at aw ar aS⊢;have h1:i<=e:=I
 by_cases ep:(scalar (aU D i e)).2=0
 .rw[aA ep];simp only;unfold scalar at ep⊢;by_cases gn:qc (aU D i e)
  .rw[aA gn] at ep⊢;simp only at ep⊢;have hm:=aem aw ep;obtain⟨d1,d2,d3⟩:=awL aw ar hm (λcB=>aS (awJ aw ep cB));rw[RH d1 d2];rcases d3 with ⟨k,bq,bw,fm⟩|⟨k,c',bq,bw,fm,jt,eT,Oc⟩
   .exact .inl ⟨k,e,bw,rfl,λQ q=>VI bq al⟩
   .refine .inr ⟨.inr ⟨k,c',?_,.inr λQ q=>VI bq al⟩,e,rfl,jt,eT,Oc⟩;rw[RH d1 d2];exact bw
  .rw[ak gn] at ep⊢;have pG:=axe h1 aw ar gn (λ_ _ _=>trivial);cases ly:integer (aU D i e) with
   |some z=>
    simp only;obtain⟨t1,t2⟩:=avI aw ar h1 ly;have A2:gm D i=gnum D i:=HY (by
     grind)
    refine .inl ⟨11,e,A2.trans t1,rfl,λQ q=>?_⟩;unfold tokQ;rw[aA rfl,<-(int_eq t1 az).1,ly];exact q
   |none=>
    rw[ly] at ep;simp only at ep⊢;cases eN:kK (aU D i e) with
    |inr c=>
     rw[eN] at ep;simp only at ep;exfalso;exact azn eN ep
    |inl v=>
     simp only;rcases aqg aw ar h1 eN with ⟨bS,bc,bj⟩|⟨hw,aD⟩|⟨hw,aD⟩
     .have jS:¬si (g D e):=by
       unfold si;unfold fH jN at ar;omega
      have gI:=bj.ih.1;have A2:gm D i=gnum D i:=HY (by
       rcases Oy (D:=D) (i:=i) with ⟨bq,bw⟩|⟨bq,_⟩
       .grind
       omega)
      exact .inl ⟨10,e,A2.trans (aqd bj jS),rfl,λQ q=>aqf aM bj eN Q q⟩
     all_goals
      have atb:i<e:=by
       have au:=hi (D:=D) (i:=bg D i) aw;rw[hw] at au;have:i<=bg D i:=by unfold bg;grind
       grind
      obtain⟨f1,f2,f3⟩:=TD atb aw al;have A2:gm D i=J (10,e):=by
       rcases Oy (D:=D) (i:=i) with ⟨bq,bw⟩|⟨bq,bw⟩
       .rw[bw] at f2 f3 hw;unfold gm;rw[ak I,ak I];rcases f2 with f|f
        .rw[aA f,f3];refine NC (w:=[105,110,102]) ?_;have aW:g (aU D i e) 0=105:=by rw[gY I aw];exact f
         first
          |(rw[f3] at hw;exact hw)
          |(exfalso;rw[hw] at aW;revert aW;decide)
        .rw[ak I,aA f,f3];refine NC (w:=[110,97,110]) ?_;have aW:g (aU D i e) 0=110:=by rw[gY I aw];exact f
         first
          |(rw[f3] at hw;exact hw)
          |(exfalso;rw[hw] at aW;revert aW;decide)
       .rw[HY (.inr bq)];unfold gnum;rw[aA f2,aA]
        .rw[f3]
        .rw[<-f3];show aU D (bg D i) e=_;have aW:g (aU D (bg D i) e) 0=g D (bg D i):=gY I aw;rw[hw] at aW⊢;rw[<-aW];rfl
      refine .inl ⟨10,e,A2,rfl,λQ q=>?_⟩;unfold tokQ;rw[ak aE,aA rfl,aA f2];grind
 .rw[ak ep];intro c1;cases aX:gm D i with
  |none=>exact .inl aX
  |some x=>
   obtain⟨k,j⟩:=x;refine .inr ⟨k,j,aX,?_⟩;by_cases tl:fH (g D j)
   .exact .inl (aoB tl)
   right
   have m_:=RI az aX;have aC:=m_.2.2.1;have a':=m_.1;have ayf:(∀x,i<=x->x<j->fH (g D x))->¬nY (aU D i j)->e=j:=λaa ad=>by
    rw[<-xQ];exact Ou I aC aa tl (λq=>ad q.1)
   have aGU:(∀x,i<=x->x<j->fH (g D x))->i+scN (ax i D)=j:=λaa=>Ow I aC aa tl;have num:gm D i=gnum D i->((cT (g D i)=ai/\mq D i=av)\/cT (g D i)=av)->∀Q,Q ab->tokQ D k i j Q:=λb5 aL Q eR=>by
    rw[b5] at aX;have xP:=aqY az aX;obtain⟨awY,awZ⟩:=axd aC (λx b_ cp=>(xP x b_ cp).2) aL;have Ii:=ayf (λx b_ cp=>(xP x b_ cp).1) awZ;subst Ii;unfold scalar at c1;rw[ak awY] at c1;rcases aa5 aX with rfl|rfl
    .exfalso;cases ly:integer (aU D i e) with
     |some z=>grind
     |none=>
      rw[ly] at c1;simp only at c1;by_cases aI:g D (bg D i)=105\/g D (bg D i)=110
      .obtain⟨_,aa,ad⟩:=TC aX aI;rw[(TD a' aC (azx aI ad)).1] at c1;cases c1
      .obtain⟨bS,bc,bj,_⟩:=Rb aX aI;cases eN:kK (aU D i e) with
       |inl v=>grind
       |inr c=>
        rw[eN] at c1;simp only at c1;have:=aqb bj eN;omega
    .unfold tokQ;rw[aA rfl];rw[(int_eq aX az).1] at c1;grind
   have TT:∀w (dq:Nat),gm D i=qh D w i dq->(∀c∈w,97<=c.toNat/\c.toNat<=122)->aU D i j=w/\i+scN (ax i D)=j/\(¬nY (aU D i j)->e=j):=λw dq b5 hw=>by
    rw[b5] at aX;obtain⟨_,aa,ad⟩:=adP aX;have xP:∀x,i<=x->x<j->fH (g D x):=λx b_ cp=>(adO ad aC b_ cp hw).1;grind
   by_cases L5:g D i=116
   .exfalso;obtain⟨aa,ad,_⟩:=TT [116,114,117,101] 9 (by unfold gm;rw[aA L5]) aE;grind
   by_cases Ri:g D i=102
   .exfalso;obtain⟨aa,ad,_⟩:=TT [102,97,108,115,101] 9 (by unfold gm;rw[ak L5,aA Ri]) aE;grind
   have adj:∀w,(w=[105,110,102]\/w=[110,97,110])->gm D i=qh D w i 10->bg D i=i->False:=λw hw b5 x5=>by
    have au8:∀c∈w,97<=c.toNat/\c.toNat<=122:=by rcases hw with rfl|rfl<;>decide
    obtain⟨aa,ad,an⟩:=TT w 10 b5 au8;have au:=hi (D:=D) (i:=i) aC;have mB:j-i=3:=al
    have Ii:=an (λq=>by have:=q.1;omega);subst Ii;have eN:=(TD a' aC al).1;unfold scalar at c1;rw[ak] at c1
    .grind
    .unfold qc;rintro(q|q)
     .omega
     .have:=q.2;rw[aa] at this;rcases hw with rfl|rfl<;>(revert this;decide)
   by_cases aay:g D i=105
   .exact absurd (adj [105,110,102] (.inl rfl) (by unfold gm;rw[ak L5,ak Ri,aA aay]) (by unfold bg;grind)) (λh=>h)
   by_cases aqq:g D i=110
   .exact absurd (adj [110,97,110] (.inr rfl) (by unfold gm;rw[ak L5,ak Ri,ak aay,aA aqq]) (by unfold bg;grind)) (λh=>h)
   by_cases aq7:g D i=43\/g D i=45
   .exact num (HY (.inr aq7)) (.inr (adm λq=>by have:=js q;omega))
   by_cases s6:cT (g D i)=ai
   .cases e_:mq D i with
    |false=>exact num (HY (.inl ⟨s6,e_⟩)) (.inl ⟨s6,e_⟩)
    |true=>
     rw[RH s6 e_] at aX;intro Q eR;refine VI (aaK aX) ?_;cases aD:dval D k i j with
     |none=>exact eR
     |some v=>
      exfalso;obtain⟨dK,gz,k8⟩:=awK aC tl aX aD;have Ii:e=j:=I
      subst Ii;unfold scalar at c1;grind
   .exfalso;have:=RG (D:=D) (i:=i) al;have bB:¬(48<=g D i/\g D i<=57):=λq=>s6 (rO q);omega
def CQ{cl:Nat}{V:Nat->Option (β×Nat)}{P:β->Prop}(eu:∀i a j,V i=J (a,j)->P a):∀{n:Nat} {fE:Bool} {acc l:List β} {i:Nat},(∀x∈acc,P x)->gseq D cl V n fE acc i=J (l,j)->∀x∈l,P x
 |0,_,_,_,_,_,h=>by cases h
 |n+1,fE,acc,l,i,bE,h=>by
  rw[gseq] at h;split at h
  .grind
  .split at h
   .exact CQ eu bE h
   .split at h
    .split at h
     .exact CQ eu bE h
     .cases h
    .split at h
     .cases aX:gcom D (a9 D i+1) with
      |none=>grind
      |some y=>rw[aX] at h;exact CQ eu bE h
     .split at h
      .split at h
       .exact CQ eu bE h
       .cases h
      .split at h
       .cases h
       .cases aD:V (a9 D i) with
        |none=>grind
        |some y=>
         obtain⟨a,y⟩:=y;rw[aD] at h;refine CQ eu (λx ae=>?_) h;grind
def arc(az:i<=U D)(h:gm D i=J (k,j)):Ck D i k j:=by
 have m_:=RI az h;have num:gnum D i=J (k,j)->Ck D i k j:=λaX=>by
  refine⟨λaq=>?_,λ_=>m_.1,λaq=>?_⟩
  .subst aq;exact(int_eq aX az).2
  .subst aq;by_cases aI:g D (bg D i)=105\/g D (bg D i)=110
   .exact bF ⟨aI,(TC aX aI).2.1⟩
   .obtain⟨bS,bc,bj,_⟩:=Rb aX aI;have aG:=js bj.ih.1;exact bt ⟨aG.1,aG.2,by have:=bj.Cx;omega,_,_,_,_,aqc bj⟩
 have kw:∀w (dq:Nat),dq=9\/(dq=10/\(g D i=105\/g D i=110)/\U w=3)->qh D w i dq=J (k,j)->Ck D i k j:=λw dq aq aX=>by
  obtain⟨rfl,aa,ad⟩:=adP aX;refine⟨λh=>I,λ_=>m_.1,λh=>?_⟩;rcases aq with aq|⟨_,aq,hw⟩
  .omega
  .have x5:bg D i=i:=by unfold bg;grind
   grind
 unfold gm at h;by_cases c1:g D i=116
 .grind
 rw[ak c1] at h;by_cases c2:g D i=102
 .grind
 rw[ak c2] at h;by_cases cy:g D i=105
 .grind
 rw[ak cy] at h;by_cases dQ:g D i=110
 .grind
 rw[ak dQ] at h;by_cases eX:g D i=43\/g D i=45
 .grind
 rw[ak eX] at h;by_cases c6:cT (g D i)=ai
 .rw[aA c6] at h;by_cases xz:mq D i=ai
  .rw[aA xz] at h;have:=aaK h;unfold hp at this;exact⟨λh=>I,λ_=>m_.1,λh=>I⟩
  grind
 grind
def arb(h:gm D i=J (k,j)):i<=U D:=by
 have:=RG (D:=D) (i:=i) al;exact KE (cu I)
def RN:∀{n i:Nat} {a:e'} {j:Nat},gval D n i=J (a,j)->tokA D n a
 |0,_,_,_,h=>by cases h
 |n+1,i,a,j,h=>by
  rw[gval] at h;split at h
  .cases aX:gseq D 93 (gval D n) (U D+1) av [] (i+1) with
   |none=>rw[aX] at h;cases h
   |some x=>
    obtain⟨l,k⟩:=x;rw[aX] at h;cases h;rw[tokA];exact CQ (λi a j h=>RN h) (λx ae=>by cases ae) aX
  .split at h
   .cases aX:gseq D 125 (gkv D (gval D n)) (U D+1) av [] (i+1) with
    |none=>rw[aX] at h;cases h
    |some x=>
     obtain⟨l,k⟩:=x;rw[aX] at h;cases h;rw[tokA];refine CQ (P:=λx=>tokA D n x.2) (λi q j h=>?_) (λx ae=>by cases ae) aX;cases aq:gkey D i [] with
     |none=>rw[aaS aq] at h;cases h
     |some y=>
      obtain⟨ks,dq⟩:=y;by_cases hq:g D dq=61
      .rw[Mg aq hq] at h;cases aD:gval D n (a9 D (dq+1)) with
       |none=>grind
       |some z=>
        obtain⟨a,z⟩:=z;rw[aD] at h;cases h;exact RN aD
      .rw[aaT aq hq] at h;cases h
   .cases aX:kA D i with
    |none=>rw[aX] at h;cases h
    |some x=>
     obtain⟨x,k⟩:=x;rw[aX] at h;cases x with
     |str s=>cases h;rw[tokA];trivial
     |tok kd=>
      cases h;rw[tokA];unfold kA at aX;split at aX
      .cases aL:mv D i with
       |none=>rw[aL] at aX;cases aX
       |some y=>obtain⟨a,b⟩:=y;rw[aL] at aX;cases aX
      .cases aL:gm D i with
       |none=>rw[aL] at aX;cases aX
       |some y=>obtain⟨a,b⟩:=y;rw[aL] at aX;cases aX;exact arc (arb aL) aL
def anf:yI D:=λn i a k h=>RN h
def PR(aM:U D<=400):K9 D:=anG (anZ aM) anf
end
def agZ(h:∀i,i<U D->g D i<128):dC D 0=ai:=by
 have:=ON (D:=D) (j:=0) (U D) (λk aq=>al) I;rw[tM] at this;rw[<-this,dC,e8 I]
def gu:word [49,10]=.ok (.mk 1 1 0 [] [] []) [10]:=by
 have aI:scN [49,10]=1:=aE
 have aG:¬nY [49]:=λh=>by have:=h.1;simp at this
 have au:iW [49,10]=1:=by
  unfold iW;rw[aI,ak (λh=>aG h.1)]
 have aL:scalar [49]=((1,1,0,[]),0):=by
  unfold scalar;rw[ak aE];rfl
 unfold word;have aP:List.take 1 ([49,10]:B)=[49]:=rfl;rw[aI,au,aP,ak aE,ak aE,aL,aA rfl];rfl
def BO:word [10]=.no 1:=by
 have aI:scN [10]=0:=aE
 have aG:¬nY []:=λh=>by have:=h.1;simp at this
 have au:iW [10]=0:=by
  unfold iW;rw[aI,ak (λh=>aG h.1)]
 have aL:scalar []=((0,0,0,[]),1):=by
  unfold scalar;rw[ak aE];rfl
 unfold word;have aP:List.take 0 ([10]:B)=[]:=rfl;rw[aI,au,aP,ak aE,ak aE,aL,ak aE]
def ayY:zO yV=.ok JJ []:=by
 have aD:valueF 7 7 [49,10]=.ok (.mk 1 1 0 [] [] []) [10]:=by
  rw[valueF,ak aE,ak aE,ak aE,ak aE,ak aE];exact gu
 unfold zO;rw[aA (agZ aE),ak aE];show docLoop (valueF 7 7) _ 7 7 _ _ _ _=_;generalize valueF 7 7=V at aD;have aq:key 7 [97,32,61,32,49,10]=.ok [[97]] [61,32,49,10]:=by rfl
 have aJ:pairP V 7 [97,32,61,32,49,10] [.bX []] [1] 0=.ok [.bX [([97],1)],.val (.mk 1 1 0 [] [] [])] [1,0] [10]:=by
  unfold pairP;rw[aq];simp only;rw[ak aE];have af:blanks ([61,32,49,10]:B).tail=[49,10]:=rfl;rw[af,aD];rfl
 have e_:rW V 7 [.bX []] [1] 0 (blanks yV)=.ok [.bX [([97],1)],.val (.mk 1 1 0 [] [] [])] [1,0] 0 [10]:=by
  unfold rW;show(if tX [97,32,61,32,49,10] then _ else if top [97,32,61,32,49,10]=91 then _ else curP 0 (pairP V 7 [97,32,61,32,49,10] [.bX []] [1] 0))=_;rw[ak aE,ak aE,aJ];rfl
 rw[docLoop,e_];rfl
def ayX:zO yU=.no 1:=by
 have aD:valueF 6 6 [10]=.no 1:=by
  rw[valueF,ak aE,ak aE,ak aE,ak aE,ak aE];exact BO
 unfold zO;rw[aA (agZ aE),ak aE];show docLoop (valueF 6 6) _ 6 6 _ _ _ _=_;generalize valueF 6 6=V at aD;have aq:key 6 [97,32,61,32,10]=.ok [[97]] [61,32,10]:=by rfl
 have aJ:pairP V 6 [97,32,61,32,10] [.bX []] [1] 0=.no 1:=by
  unfold pairP;rw[aq];simp only;rw[ak aE];have af:blanks ([61,32,10]:B).tail=[10]:=rfl;rw[af,aD]
 have e_:rW V 6 [.bX []] [1] 0 (blanks yU)=.no 1:=by
  unfold rW;show(if tX [97,32,61,32,10] then _ else if top [97,32,61,32,10]=91 then _ else curP 0 (pairP V 6 [97,32,61,32,10] [.bX []] [1] 0))=_;rw[ak aE,ak aE,aJ];rfl
 rw[docLoop,e_];rfl
def aq1:xI yV (λo=>o=J JJ):=by
 have:=(PR (D:=yV) aE).2;rw[ayY] at this;exact this
def aq0:xI yU (λo=>o=ab):=by
 have:=(PR (D:=yU) aE).2;rw[ayX] at this;exact this
def ajd(dn:jM h)(ad:2<=ag h)(q:∀h',aB h h'->R (aQ ai) h'):bo 3 [S D] h R:=ajc dn ad (λ_ aM=>PR aM) aq1 aq0 q
