/- A part of the proof of FnTomlReadCardSaid: for every string the law FnTomlRead returns true. Conditions: those of the given row and card, no others. -/
import Derived.Laws.Bits64b
import Derived.Test.YteonbmabmhoffaaGreatDoorA02
open Option renaming some->J,none->ab
open Bool renaming true->ai,false->av
open Go renaming Value->ao
open Go.Obj renaming cells->aO
open Go.Value renaming bool->aQ,slice->a5,int->ba,tuple->bA,pointer->bU,agg->cA,nilIface->cR,iface->cW,string->fo
open Or renaming inl->bF,inr->bt
open Go.BinOp renaming eql->cQ,lss->fG,neq->hF,geq->h0
open List renaming length->U,toArray->aZ,drop->ax,take->bf
open Array renaming size->ag,toList->bC,push->a6
namespace Go.Proofs.YteonbmabmhoffaaGreatDoor.F
set_option linter.all false
set_option autoImplicit true
set_option relaxedAutoImplicit true
set_option maxRecDepth 100000
set_option maxHeartbeats 4000000
noncomputable section
def ff(D:B)(i:Nat):Option Nat:=
 if g D i=9\/(32<=g D i/\g D i<127) then J 1 else if g D i<128 then ab else if jE (ax i D)=1 then ab else J (jE (ax i D))
def lR(h:ff D i=J n):0<n/\i+n<=U D:=by
 unfold ff at h;have au:g D i≠0->i<U D:=cu;have aF:=Ok (ax i D);simp only[ix] at aF;split at h
 .grind
 .split at h
  .cases h
  .split at h
   .cases h
   .cases h;have:=Ol (l:=ax i D) (by intro e;have:=mQ List.length e;grind);omega
inductive pw(D:B)(j:Nat):Nat->Prop|refl:pw D j j|step {i n:Nat}:128<=g D i->ff D i=J n->pw D j (i+n)->pw D j i
def pw.snoc(r:pw D j i)(h:128<=g D j)(ay:ff D j=J n):pw D (j+n) i:=by
 induction r with
 |refl=>exact .step h ay .refl
 |step aa ad _ bR=>exact .step aa ad bR
def pw.law{D:B}{α:Type}{f:Nat->α}(r:pw D j i)(bj:∀i n,128<=g D i->ff D i=J n->f i=f (i+n)):f i=f j:=by
 induction r with
 |refl=>rfl
 |step aa ad _ bR=>grind
def pw.le(r:pw D j i):i<=j:=by
 induction r with
 |refl=>omega
 |step aa ad _ bR=>omega
def pw.lt{D:B}{i j:Nat}(r:pw D j i)(h:128<=g D i)(aC:g D j<128\/U D<=j):i<j:=by
 cases r with
 |refl=>have:=cu (D:=D) (i:=i) I;omega
 |step aa ad r=>have:=r.le;have:=lR ad;omega
def ud:g (ax j D) k=g D (j+k):=by simp[g,iw,KA]
def afB{D:B}{j:Nat}(aC:j<U D)(h:128<=g D j):jE (ax j D)=
  if g D j<194 then 1 else if g D j<224 then(if U D-j<2 then 1 else if g D (j+1)<128\/191<g D (j+1) then 1 else 2)
  else if g D j<240 then(if U D-j<3 then 1 else if g D (j+1)<(if g D j=224 then 160 else 128)\/(if g D j=237 then 159 else 191)<g D (j+1) then 1 else if g D (j+2)<128\/191<g D (j+2) then 1 else 3)
  else if g D j<245 then(if U D-j<4 then 1 else if g D (j+1)<(if g D j=240 then 144 else 128)\/(if g D j=244 then 143 else 191)<g D (j+1) then 1 else if g D (j+2)<128\/191<g D (j+2) then 1 else if g D (j+3)<128\/191<g D (j+3) then 1 else 4)
  else 1:=by
 unfold jE;simp only[ud,ix,nm];have aX:=dZ D j;generalize g D j=c at h aX;generalize g D (j+1)=c1;generalize g D (j+2)=c2;generalize g D (j+3)=cy;rw[ak (I:¬U D-j=0)];generalize U D-j=n;have ay:(c<194/\fV c=241)\/(194<=c/\c<224/\fV c=2)\/(c=224/\fV c=19)\/(224<c/\c<237/\fV c=3)\/(c=237/\fV c=35)\/(237<c/\c<240/\fV c=3)\/(c=240/\fV c=52)\/(240<c/\c<244/\fV c=4)\/(c=244/\fV c=68)\/(244<c/\fV c=241):=by
  unfold fV;(repeat' split)<;>omega
 rcases ay with ⟨a,e⟩|⟨a,bM,e⟩|⟨a,e⟩|⟨a,bM,e⟩|⟨a,e⟩|⟨a,bM,e⟩|⟨a,e⟩|⟨a,bM,e⟩|⟨a,e⟩|⟨a,e⟩
 .simp only[e,tU,tT,Nat.reduceMod,Nat.reduceDiv,(I:c<194),(I:c<224),(I:c<240),(I:c<245),(I:(¬c=224)),(I:(¬c=237)),(I:(¬c=240)),(I:(¬c=244)),Nat.reduceLeDiff,Nat.reduceEqDiff,ei,lL,reduceCtorEq]
 .simp only[e,tU,tT,Nat.reduceMod,Nat.reduceDiv,(I:(¬c<194)),(I:c<224),(I:c<240),(I:c<245),(I:(¬c=224)),(I:(¬c=237)),(I:(¬c=240)),(I:(¬c=244)),Nat.reduceLeDiff,Nat.reduceEqDiff,ei,lL,reduceCtorEq]
 .subst a;simp[e,tU,tT]
 .simp only[e,tU,tT,Nat.reduceMod,Nat.reduceDiv,(I:(¬c<194)),(I:(¬c<224)),(I:c<240),(I:c<245),(I:(¬c=224)),(I:(¬c=237)),(I:(¬c=240)),(I:(¬c=244)),Nat.reduceLeDiff,Nat.reduceEqDiff,ei,lL,reduceCtorEq]
 .subst a;simp[e,tU,tT]
 .simp only[e,tU,tT,Nat.reduceMod,Nat.reduceDiv,(I:(¬c<194)),(I:(¬c<224)),(I:c<240),(I:c<245),(I:(¬c=224)),(I:(¬c=237)),(I:(¬c=240)),(I:(¬c=244)),Nat.reduceLeDiff,Nat.reduceEqDiff,ei,lL,reduceCtorEq]
 .subst a;simp[e,tU,tT]
 .simp only[e,tU,tT,Nat.reduceMod,Nat.reduceDiv,(I:(¬c<194)),(I:(¬c<224)),(I:(¬c<240)),(I:c<245),(I:(¬c=224)),(I:(¬c=237)),(I:(¬c=240)),(I:(¬c=244)),Nat.reduceLeDiff,Nat.reduceEqDiff,ei,lL,reduceCtorEq]
 .subst a;simp[e,tU,tT]
 .simp only[e,tU,tT,Nat.reduceMod,Nat.reduceDiv,(I:(¬c<194)),(I:(¬c<224)),(I:(¬c<240)),(I:(¬c<245)),(I:(¬c=224)),(I:(¬c=237)),(I:(¬c=240)),(I:(¬c=244)),Nat.reduceLeDiff,Nat.reduceEqDiff,ei,lL,reduceCtorEq]
section
variable{h:H}{R k:K}{b C i i0:Nat}{v:ao}{D:B}
def YQ{x:Nat}(ae:x<256):nr .and .u8 (x:Int) 192=((x/64*64:Nat):Int):=by
 have:∀x:Fin 256,nr .and .u8 ((x.val:Nat):Int) 192=((x.val/64*64:Nat):Int):=by decide+kernel
 exact this ⟨x,ae⟩
def B8(aM:db h b D C)(aD:bp b i0 (U D) C v)(az:i0+i<=U D)(bq:∀j,pw D (i0+j) (i0+i)->i<=j->i0+j<=U D->(g D (i0+j)<128\/U D<=i0+j)->R (.tuple #[.i (j:Int),.bool ai]) h)
  (bw:∀j,pw D (i0+j) (i0+i)->i<=j->i0+j<U D->128<=g D (i0+j)->ff D (i0+j)=ab->R (.tuple #[.i (j:Int),.bool av]) h):bo 98 [v,.i (i:Int)] h R:=by
 apply am7;obtain⟨e,rfl,aa,ad,an,aT,e0,hlen⟩:=aD.fL aM;refine eV (λm u h'=>∃j:Nat,u=.i j/\i<=j/\i0+j<=U D/\pw D (i0+j) (i0+i)/\h'=h/\m=U D-j) _ ⟨i,rfl,bQ _,az,.refl,rfl,rfl⟩ ?_;rintro m d u h' N ⟨j,rfl,eK,aC,aF,rfl,rfl⟩ a7;have cn:=dZ D (i0+j);have ct:=dZ D (i0+j+1);have bd:=dZ D (i0+j+2);have cb:=dZ D (i0+j+3);have bj:=@afB D (i0+j);have bad:i0+j<U D->128<=g D (i0+j)->jE (ax (i0+j) D)=1->R (.tuple #[.i j,.bool av]) h':=λa bM oL=>bw j aF eK a bM (by unfold ff;rw[ak I,ak I,aA oL]);have go:∀n,1<n->i0+j<U D->128<=g D (i0+j)->jE (ax (i0+j) D)=n->N (.i (j+n:Nat)) h':=λn aI a bM oL=>by
  have ay:ff D (i0+j)=J n:=by unfold ff;rw[ak I,ak I,ak I,oL]
  have:=lR ay;exact a7 (U D-(j+n)) _ _ I ⟨j+n,rfl,I,I,by rw[<-gL];exact aF.snoc bM ay,rfl,rfl⟩
 (simp-implicitDefEqProofs+contextual (disch:=omega) only[go_sem,qH aM aa,vN aM aa,YQ (dZ _ _)];try refine c8 ?_)
 simp only[<-gL];repeat' first|refine And.intro ?_ ?_|intro _
 all_goals first|exact bq j aF eK aC I|exact bad I I (by rw[bj I I];(repeat' split)<;>omega)|exact go _ I I I (by rw[bj I I];(repeat' split)<;>omega)|skip
 all_goals try refine hk (dI aM aa) (hA aM aa) (YQ (dZ _ _)) ?_
 all_goals try simp only[<-gL]
 repeat' first|refine And.intro ?_ ?_|intro _
end
def ns(x k:Nat):Nat:=x/256^k%256
def VF(x i:Nat):x.testBit i=decide (x/2^i%2=1):=by
 grind
def msb:Nat:=9259542123273814144
def P8(h:x&&&y=0)(a2:y/2^i%2=1):x/2^i%2=0:=by
 have:=mQ (λn=>n.testBit i) h;grind
def NT(h:x&&&msb=0):∀k,k<8->ns x k<128:=by
 intro k aq;have de:∀j,msb/2^j%2=1->x/2^j%2=0:=λj aC=>P8 h aC;unfold ns;match k,aq with
 |0,_=>have:=de 7 aE;omega
 |1,_=>have:=de 15 aE;omega
 |2,_=>have:=de 23 aE;omega
 |3,_=>have:=de 31 aE;omega
 |4,_=>have:=de 39 aE;omega
 |5,_=>have:=de 47 aE;omega
 |6,_=>have:=de 55 aE;omega
 |7,_=>have:=de 63 aE;omega
def AP(aV:z=r+2*Q*d)(aa:Q<=r)(ad:r<2*Q):z/Q=1+2*d:=by
 have e:z=(r-Q)+Q*(1+2*d):=by
  grind
 rw[e,aBX _ _ I,O7 I];omega
def Y2(ae:x<18446744073709551616)(aI:n<=127)(af:∀k,k<8->ns x k<128)(h:((x+(18446744073709551616-n*72340172838076673))%18446744073709551616)&&&(18446744073709551615-x)&&&msb=0):∀k,k<8->n<=ns x k:=by
 have de:∀j,msb/2^j%2=1->(18446744073709551615-x)/2^j%2=1->((x+(18446744073709551616-n*72340172838076673))%18446744073709551616)/2^j%2=0:=λj aC aq=>
  P8 (y:=(18446744073709551615-x)&&&msb) (by rw[<-Nat.and_assoc];exact h) (by
   have:=VF ((18446744073709551615-x)&&&msb) j;rw[Nat.testBit_and,VF,VF,aC,aq] at this;simpa using this.symm)
 have aV:∀k,k<8->ns x k<128:=af;clear h af;simp only[ns] at*;have s1:n<=x/1%256/\n*1<=x%256:=by
  have q:=de 7 aE;have z:=aV 0 aE;clear de aV;simp only[Nat.reducePow,h6,kR] at q z;obtain⟨a,b,c,g9,bE,af⟩:∃a b c,x=a+1*b+256*c/\a<1/\b<256:=⟨x%1,x/1%256,x/256,I,I,I⟩;have aw:x/1%256=b:=by clear q z;omega
  have ar:x%1=a:=by clear q z;omega
  have aS:x%256=a+1*b:=by clear q z;omega
  have bl:(18446744073709551615-x)/128%2=1:=I
  have sp:n*0<=a:=I
  skip
  rw[aw];rw[aS];suffices bO:n<=b by omega
  have j0:=q bl;clear q z aw ar aS bl;refine z0 λa'=>?_;have aL:x+(18446744073709551616-n*72340172838076673)=(a+1*(b+256)-n*0-1*n)+2*128*(c+72057594037927935-n*282578800148737):=I
  have aG:(x+(18446744073709551616-n*72340172838076673))/128=1+2*(c+72057594037927935-n*282578800148737):=AP aL I I;rw[show 18446744073709551616=128*144115188075855872 from rfl,GF,GD _ (I:2∣144115188075855872)] at j0;rw[show 128*144115188075855872=18446744073709551616 from rfl,aG] at j0;omega
 have s2:n<=x/256%256/\n*257<=x%65536:=by
  have q:=de 15 aE;have z:=aV 1 aE;clear de aV;simp only[Nat.reducePow,h6,kR] at q z;obtain⟨a,b,c,g9,bE,af⟩:∃a b c,x=a+256*b+65536*c/\a<256/\b<256:=⟨x%256,x/256%256,x/65536,I,I,I⟩;have aw:x/256%256=b:=by clear q z;omega
  have ar:x%256=a:=by clear q z;omega
  have aS:x%65536=a+256*b:=by clear q z;omega
  have bl:(18446744073709551615-x)/32768%2=1:=I
  have sp:n*1<=a:=by have:=s1.2;omega
  clear s1;rw[aw];rw[aS];suffices bO:n<=b by omega
  have j0:=q bl;clear q z aw ar aS bl;refine z0 λa'=>?_;have aL:x+(18446744073709551616-n*72340172838076673)=(a+256*(b+256)-n*1-256*n)+2*32768*(c+281474976710655-n*1103823438081):=I
  have aG:(x+(18446744073709551616-n*72340172838076673))/32768=1+2*(c+281474976710655-n*1103823438081):=AP aL I I;rw[show 18446744073709551616=32768*562949953421312 from rfl,GF,GD _ (I:2∣562949953421312)] at j0;rw[show 32768*562949953421312=18446744073709551616 from rfl,aG] at j0;omega
 have dB:n<=x/65536%256/\n*65793<=x%16777216:=by
  have q:=de 23 aE;have z:=aV 2 aE;clear de aV;simp only[Nat.reducePow,h6,kR] at q z;obtain⟨a,b,c,g9,bE,af⟩:∃a b c,x=a+65536*b+16777216*c/\a<65536/\b<256:=⟨x%65536,x/65536%256,x/16777216,I,I,I⟩;have aw:x/65536%256=b:=by clear q z;omega
  have ar:x%65536=a:=by clear q z;omega
  have aS:x%16777216=a+65536*b:=by clear q z;omega
  have bl:(18446744073709551615-x)/8388608%2=1:=I
  have sp:n*257<=a:=by have:=s2.2;omega
  clear s1;clear s2;rw[aw];rw[aS];suffices bO:n<=b by omega
  have j0:=q bl;clear q z aw ar aS bl;refine z0 λa'=>?_;have aL:x+(18446744073709551616-n*72340172838076673)=(a+65536*(b+256)-n*257-65536*n)+2*8388608*(c+1099511627775-n*4311810305):=I
  have aG:(x+(18446744073709551616-n*72340172838076673))/8388608=1+2*(c+1099511627775-n*4311810305):=AP aL I I;rw[show 18446744073709551616=8388608*2199023255552 from rfl,GF,GD _ (I:2∣2199023255552)] at j0;rw[show 8388608*2199023255552=18446744073709551616 from rfl,aG] at j0;omega
 have jf:n<=x/16777216%256/\n*16843009<=x%4294967296:=by
  have q:=de 31 aE;have z:=aV 3 aE;clear de aV;simp only[Nat.reducePow,h6,kR] at q z;obtain⟨a,b,c,g9,bE,af⟩:∃a b c,x=a+16777216*b+4294967296*c/\a<16777216/\b<256:=⟨x%16777216,x/16777216%256,x/4294967296,I,I,I⟩;have aw:x/16777216%256=b:=by clear q z;omega
  have ar:x%16777216=a:=by clear q z;omega
  have aS:x%4294967296=a+16777216*b:=by clear q z;omega
  have bl:(18446744073709551615-x)/2147483648%2=1:=I
  have sp:n*65793<=a:=by have:=dB.2;omega
  clear s1;clear s2;clear dB;rw[aw];rw[aS];suffices bO:n<=b by omega
  have j0:=q bl;clear q z aw ar aS bl;refine z0 λa'=>?_;have aL:x+(18446744073709551616-n*72340172838076673)=(a+16777216*(b+256)-n*65793-16777216*n)+2*2147483648*(c+4294967295-n*16843009):=I
  have aG:(x+(18446744073709551616-n*72340172838076673))/2147483648=1+2*(c+4294967295-n*16843009):=AP aL I I;rw[show 18446744073709551616=2147483648*8589934592 from rfl,GF,GD _ (I:2∣8589934592)] at j0;rw[show 2147483648*8589934592=18446744073709551616 from rfl,aG] at j0;omega
 have pI:n<=x/4294967296%256/\n*4311810305<=x%1099511627776:=by
  have q:=de 39 aE;have z:=aV 4 aE;clear de aV;simp only[Nat.reducePow,h6,kR] at q z;obtain⟨a,b,c,g9,bE,af⟩:∃a b c,x=a+4294967296*b+1099511627776*c/\a<4294967296/\b<256:=⟨x%4294967296,x/4294967296%256,x/1099511627776,I,I,I⟩;have aw:x/4294967296%256=b:=by clear q z;omega
  have ar:x%4294967296=a:=by clear q z;omega
  have aS:x%1099511627776=a+4294967296*b:=by clear q z;omega
  have bl:(18446744073709551615-x)/549755813888%2=1:=I
  have sp:n*16843009<=a:=by have:=jf.2;omega
  clear s1;clear s2;clear dB;clear jf;rw[aw];rw[aS];suffices bO:n<=b by omega
  have j0:=q bl;clear q z aw ar aS bl;refine z0 λa'=>?_;have aL:x+(18446744073709551616-n*72340172838076673)=(a+4294967296*(b+256)-n*16843009-4294967296*n)+2*549755813888*(c+16777215-n*65793):=I
  have aG:(x+(18446744073709551616-n*72340172838076673))/549755813888=1+2*(c+16777215-n*65793):=AP aL I I;rw[show 18446744073709551616=549755813888*33554432 from rfl,GF,GD _ (I:2∣33554432)] at j0;rw[show 549755813888*33554432=18446744073709551616 from rfl,aG] at j0;omega
 have q8:n<=x/1099511627776%256/\n*1103823438081<=x%281474976710656:=by
  have q:=de 47 aE;have z:=aV 5 aE;clear de aV;simp only[Nat.reducePow,h6,kR] at q z;obtain⟨a,b,c,g9,bE,af⟩:∃a b c,x=a+1099511627776*b+281474976710656*c/\a<1099511627776/\b<256:=⟨x%1099511627776,x/1099511627776%256,x/281474976710656,I,I,I⟩;have aw:x/1099511627776%256=b:=by clear q z;omega
  have ar:x%1099511627776=a:=by clear q z;omega
  have aS:x%281474976710656=a+1099511627776*b:=by clear q z;omega
  have bl:(18446744073709551615-x)/140737488355328%2=1:=I
  have sp:n*4311810305<=a:=by have:=pI.2;omega
  clear s1;clear s2;clear dB;clear jf;clear pI;rw[aw];rw[aS];suffices bO:n<=b by omega
  have j0:=q bl;clear q z aw ar aS bl;refine z0 λa'=>?_;have aL:x+(18446744073709551616-n*72340172838076673)=(a+1099511627776*(b+256)-n*4311810305-1099511627776*n)+2*140737488355328*(c+65535-n*257):=I
  have aG:(x+(18446744073709551616-n*72340172838076673))/140737488355328=1+2*(c+65535-n*257):=AP aL I I;rw[show 18446744073709551616=140737488355328*131072 from rfl,GF,GD _ (I:2∣131072)] at j0;rw[show 140737488355328*131072=18446744073709551616 from rfl,aG] at j0;omega
 have yl:n<=x/281474976710656%256/\n*282578800148737<=x%72057594037927936:=by
  have q:=de 55 aE;have z:=aV 6 aE;clear de aV;simp only[Nat.reducePow,h6,kR] at q z;obtain⟨a,b,c,g9,bE,af⟩:∃a b c,x=a+281474976710656*b+72057594037927936*c/\a<281474976710656/\b<256:=⟨x%281474976710656,x/281474976710656%256,x/72057594037927936,I,I,I⟩;have aw:x/281474976710656%256=b:=by clear q z;omega
  have ar:x%281474976710656=a:=by clear q z;omega
  have aS:x%72057594037927936=a+281474976710656*b:=by clear q z;omega
  have bl:(18446744073709551615-x)/36028797018963968%2=1:=I
  have sp:n*1103823438081<=a:=by have:=q8.2;omega
  clear s1;clear s2;clear dB;clear jf;clear pI;clear q8;rw[aw];rw[aS];suffices bO:n<=b by omega
  have j0:=q bl;clear q z aw ar aS bl;refine z0 λa'=>?_;have aL:x+(18446744073709551616-n*72340172838076673)=(a+281474976710656*(b+256)-n*1103823438081-281474976710656*n)+2*36028797018963968*(c+255-n*1):=I
  have aG:(x+(18446744073709551616-n*72340172838076673))/36028797018963968=1+2*(c+255-n*1):=AP aL I I;rw[show 18446744073709551616=36028797018963968*512 from rfl,GF,GD _ (I:2∣512)] at j0;rw[show 36028797018963968*512=18446744073709551616 from rfl,aG] at j0;omega
 have Vn:n<=x/72057594037927936%256/\n*72340172838076673<=x%18446744073709551616:=by
  have q:=de 63 aE;have z:=aV 7 aE;clear de aV;simp only[Nat.reducePow,h6,kR] at q z;obtain⟨a,b,c,g9,bE,af⟩:∃a b c,x=a+72057594037927936*b+18446744073709551616*c/\a<72057594037927936/\b<256:=⟨x%72057594037927936,x/72057594037927936%256,x/18446744073709551616,I,I,I⟩;have aw:x/72057594037927936%256=b:=by clear q z;omega
  have ar:x%72057594037927936=a:=by clear q z;omega
  have aS:x%18446744073709551616=a+72057594037927936*b:=by clear q z;omega
  have bl:(18446744073709551615-x)/9223372036854775808%2=1:=I
  have sp:n*282578800148737<=a:=by have:=yl.2;omega
  clear s1;clear s2;clear dB;clear jf;clear pI;clear q8;clear yl;rw[aw];rw[aS];suffices bO:n<=b by omega
  have j0:=q bl;clear q z aw ar aS bl;refine z0 λa'=>?_;have aL:x+(18446744073709551616-n*72340172838076673)=(a+72057594037927936*(b+256)-n*282578800148737-72057594037927936*n)+2*9223372036854775808*(c+0-n*0):=I
  have aG:(x+(18446744073709551616-n*72340172838076673))/9223372036854775808=1+2*(c+0-n*0):=AP aL I I;rw[show 18446744073709551616=9223372036854775808*2 from rfl,GF,GD _ (I:2∣2)] at j0;rw[show 9223372036854775808*2=18446744073709551616 from rfl,aG] at j0;omega
 intro k aq;match k,aq with
 |0,_=>simpa using s1.1
 |1,_=>simpa using s2.1
 |2,_=>simpa using dB.1
 |3,_=>simpa using jf.1
 |4,_=>simpa using pI.1
 |5,_=>simpa using q8.1
 |6,_=>simpa using yl.1
 |7,_=>simpa using Vn.1
def ahg(x y k:Nat):ns (x^^^y) k=ns x k^^^ns y k:=by
 unfold ns;rw[show 256^k=2^(8*k) by rw[Nat.pow_mul],show 256=2^8 by rfl,Nat.xor_div_two_pow,Nat.xor_mod_two_pow]
def aBl(bE:a<128)(af:b<128):a^^^b<128:=aB4 (n:=7) bE af
def afv(ay:c<128):∀k,k<8->ns (c*72340172838076673) k=c:=by
 intro k aq;unfold ns;match k,aq with
 |0,_=>simp only[Nat.reducePow,h6,kR];have e:c*72340172838076673/1=c*72340172838076673:=D8 I I;clear e;omega
 |1,_=>simp only[Nat.reducePow,h6,kR];have e:c*72340172838076673/256=c*282578800148737:=D8 I I;rw[e];omega
 |2,_=>simp only[Nat.reducePow,h6,kR];have e:c*72340172838076673/65536=c*1103823438081:=D8 I I;rw[e];omega
 |3,_=>simp only[Nat.reducePow,h6,kR];have e:c*72340172838076673/16777216=c*4311810305:=D8 I I;rw[e];omega
 |4,_=>simp only[Nat.reducePow,h6,kR];have e:c*72340172838076673/4294967296=c*16843009:=D8 I I;rw[e];omega
 |5,_=>simp only[Nat.reducePow,h6,kR];have e:c*72340172838076673/1099511627776=c*65793:=D8 I I;rw[e];omega
 |6,_=>simp only[Nat.reducePow,h6,kR];have e:c*72340172838076673/281474976710656=c*257:=D8 I I;rw[e];omega
 |7,_=>simp only[Nat.reducePow,h6,kR];have e:c*72340172838076673/72057594037927936=c*1:=D8 I I;rw[e];omega
def apQ(ae:x<18446744073709551616)(ay:c<128)(af:∀k,k<8->ns x k<128)(h:(((x^^^c*72340172838076673)+(18446744073709551616-1*72340172838076673))%18446744073709551616)&&&(18446744073709551615-(x^^^c*72340172838076673))&&&msb=0):∀k,k<8->ns x k≠c:=by
 have a2:x^^^c*72340172838076673<18446744073709551616:=aB4 (n:=64) ae I;have:=Y2 (n:=1) a2 aE (λk aq=>by rw[ahg,afv ay k aq];exact aBl (af k aq) ay) h;intro k aq e;have:=this k aq;rw[ahg,afv ay k aq,e,Nat.xor_self] at this;omega
section
variable{h:H}{R k:K}{b C i i0 a c x n:Nat}{v:ao}{D:B}
def yR(bE:a<18446744073709551616)(ay:c<18446744073709551616):bn .and (a4 (a:Int)) (a4 (c:Int))=J (a4 ((a&&&c:Nat):Int)):=by
 rw[YX,nr,bits_and_u64_nat a c bE ay]
def jY(bE:a<18446744073709551616)(ay:c<18446744073709551616):bn .or (a4 (a:Int)) (a4 (c:Int))=J (a4 ((a|||c:Nat):Int)):=by
 rw[EK,nr,bits_or_u64_nat a c bE ay]
def aBm(bE:a<18446744073709551616)(ay:c<18446744073709551616):bn .xor (a4 (a:Int)) (a4 (c:Int))=J (a4 ((a^^^c:Nat):Int)):=by
 simp only[bn,ei,nr,bits_xor_u64_nat a c bE ay]
def aeR(bE:a<18446744073709551616):un .xor (a4 (a:Int))=J (a4 ((18446744073709551615-a:Nat):Int)):=by
 have e:(18446744073709551615:Nat)^^^a=18446744073709551615-a:=by
  apply Nat.eq_of_testBit_eq;intro i;have aa:(18446744073709551615:Nat)=2^64-1:=rfl;rw[Nat.testBit_xor,aa,Nat.testBit_two_pow_sub_one];rw[(I:2^64-1-a=2^64-(a+1)),Nat.testBit_two_pow_sub_succ I];by_cases az:i<64
  .simp[az]
  .simp[az];exact Nat.testBit_lt_two_pow (cP bE (l4 (n:=2) aE (z0 az)))
 have:un .xor (a4 a)=J (a4 (bits .xor .u64 ((18446744073709551615:Nat):Int) (a:Int))):=rfl;rw[this,bits_xor_u64_nat _ a aE bE,e]
def agx(bE:a<18446744073709551616)(ay:c<18446744073709551616):bn .sub (a4 (a:Int)) (a4 (c:Int))=J (a4 (((a+(18446744073709551616-c))%18446744073709551616:Nat):Int)):=by
 simp only[bn,ei];congr 2;rw[IntKind.wrap_u64];omega
def He(a:Nat)(ay:c<18446744073709551616):a&&&c<18446744073709551616:=Nat.and_lt_two_pow (n:=64) a ay
def Py(ae:x<18446744073709551616)(aI:n<=127)(q:∀w:Nat,w<18446744073709551616->(w=0->(∀k,k<8->ns x k<128)->∀k,k<8->n<=ns x k)->R (a4 (w:Int)) h):bo 96 [a4 (x:Int),a4 (n:Int)] h R:=by
 apply am5;have aw:bn .mul (a4 n) (a4 72340172838076673)=J (a4 (n*72340172838076673:Nat)):=zB (b:=72340172838076673) I;have ar:=agx (a:=x) (c:=n*72340172838076673) ae I;have aS:=aeR ae;have bl:=yR (a:=(x+(18446744073709551616-n*72340172838076673))%18446744073709551616) (c:=18446744073709551615-x) I I;have dt:=yR (a:=(x+(18446744073709551616-n*72340172838076673))%18446744073709551616&&&(18446744073709551615-x)) (c:=msb) (He _ I) aE;rw[aw,bs,ar,bs,aS,bs,bl,bs];show Pu (bn .and _ (a4 msb)) h _;rw[dt,bs];exact q _ (He _ aE) λhw af=>Y2 ae aI af hw
def Ei(ae:x<18446744073709551616)(aI:n<=127)(q:∀w:Nat,w<18446744073709551616->(w=0->(∀k,k<8->ns x k<128)->∀k,k<8->ns x k≠n)->R (a4 (w:Int)) h):bo 97 [a4 (x:Int),a4 (n:Int)] h R:=by
 apply am6;have a2:x^^^n*72340172838076673<18446744073709551616:=aB4 (n:=64) ae I;have aw:bn .mul (a4 n) (a4 72340172838076673)=J (a4 (n*72340172838076673:Nat)):=zB (b:=72340172838076673) I;have bP:=aBm (a:=x) (c:=n*72340172838076673) ae I;have ar:=agx (a:=x^^^n*72340172838076673) (c:=1*72340172838076673) a2 I;have aS:=aeR a2;have bl:=yR (a:=((x^^^n*72340172838076673)+(18446744073709551616-1*72340172838076673))%18446744073709551616) (c:=18446744073709551615-(x^^^n*72340172838076673)) I I;have dt:=yR (a:=((x^^^n*72340172838076673)+(18446744073709551616-1*72340172838076673))%18446744073709551616&&&(18446744073709551615-(x^^^n*72340172838076673))) (c:=msb) (He _ I) aE;rw[aw,bs,bP,bs];show Pu (bn .sub _ (a4 (1*72340172838076673:Nat))) h _;rw[ar,bs,aS,bs,bl,bs];show Pu (bn .and _ (a4 msb)) h _;rw[dt,bs];exact q _ (He _ aE) λhw af=>apQ ae I af hw
def tE(ae:x<256){s:Nat}(aL:s<=56):bn .shl (a4 (x:Int)) (ba dq (s:Int))=J (a4 ((x*2^s:Nat):Int)):=by
 have e:bn .shl (a4 x) (ba dq (s:Int))=J (a4 (IntKind.u64.wrap ((x:Int)*2^(min s 64)))):=by
  show(if((s:Nat):Int)<0 then ab else J (Value.int .u64 (IntKind.u64.wrap ((x:Int)*2^(min ((s:Nat):Int).toNat 64)))))=_;rw[ak I,pU]
 rw[e,yy I];have ad:x*2^s<18446744073709551616:=cP (Nat.mul_lt_mul_of_lt_of_le ae (l4 (n:=2) aE aL) (pX 56)) aE;have an:((x:Int)*2^s)=((x*2^s:Nat):Int):=a1
 rw[an,BP ad]
def tz{P:Nat}(s:Nat)(aJ:P=2^s)(bE:a<P):a|||c*P=a+c*P:=by
 subst aJ;rw[Nat.or_comm,xh,<-aB3 bE,Nat.add_comm]
def Px(aM:db h b D C)(aD:bp b i (U D) C v)(az:i+8<=U D)(q:∀(x:Nat) h',aB h h'->x<18446744073709551616->(∀k,k<8->ns x k=g D (i+k))->R (a4 (x:Int)) h'):bo 95 [z,v] h R:=by
 apply am4;obtain⟨e,rfl,aa,ad,an,aT⟩:=aD;have Mv:=aM.ext (aB.push h (aO (aZ (cellsL z)) 170));have cn:=dZ D i;have ct:=dZ D (i+1);have bd:=dZ D (i+2);have cb:=dZ D (i+3);have eZ:=dZ D (i+4);have fW:=dZ D (i+5);have lV:=dZ D (i+6);have qO:=dZ D (i+7);have s1:bn .shl (a4 (g D (i+1):Int)) (a4 8)=J (a4 (g D (i+1)*256:Nat)):=tE (s:=8) ct aE;have eJ:bn .or (a4 (g D i:Nat)) (a4 (g D (i+1)*256:Nat))=J (a4 (g D i+g D (i+1)*256:Nat)):=by rw[jY I I,tz 8 rfl I]
 have s2:bn .shl (a4 (g D (i+2):Int)) (a4 16)=J (a4 (g D (i+2)*65536:Nat)):=tE (s:=16) bd aE;have o2:bn .or (a4 (g D i+g D (i+1)*256:Nat)) (a4 (g D (i+2)*65536:Nat))=J (a4 (g D i+g D (i+1)*256+g D (i+2)*65536:Nat)):=by rw[jY I I,tz 16 rfl I]
 have dB:bn .shl (a4 (g D (i+3):Int)) (a4 24)=J (a4 (g D (i+3)*16777216:Nat)):=tE (s:=24) cb aE;have o4:bn .or (a4 (g D i+g D (i+1)*256+g D (i+2)*65536:Nat)) (a4 (g D (i+3)*16777216:Nat))=J (a4 (g D i+g D (i+1)*256+g D (i+2)*65536+g D (i+3)*16777216:Nat)):=by rw[jY I I,tz 24 rfl I]
 have jf:bn .shl (a4 (g D (i+4):Int)) (a4 32)=J (a4 (g D (i+4)*4294967296:Nat)):=tE (s:=32) eZ aE;have zG:bn .or (a4 (g D i+g D (i+1)*256+g D (i+2)*65536+g D (i+3)*16777216:Nat)) (a4 (g D (i+4)*4294967296:Nat))=J (a4 (g D i+g D (i+1)*256+g D (i+2)*65536+g D (i+3)*16777216+g D (i+4)*4294967296:Nat)):=by rw[jY I I,tz 32 rfl I]
 have pI:bn .shl (a4 (g D (i+5):Int)) (a4 40)=J (a4 (g D (i+5)*1099511627776:Nat)):=tE (s:=40) fW aE;have Bt:bn .or (a4 (g D i+g D (i+1)*256+g D (i+2)*65536+g D (i+3)*16777216+g D (i+4)*4294967296:Nat)) (a4 (g D (i+5)*1099511627776:Nat))=J (a4 (g D i+g D (i+1)*256+g D (i+2)*65536+g D (i+3)*16777216+g D (i+4)*4294967296+g D (i+5)*1099511627776:Nat)):=by rw[jY I I,tz 40 rfl I]
 have q8:bn .shl (a4 (g D (i+6):Int)) (a4 48)=J (a4 (g D (i+6)*281474976710656:Nat)):=tE (s:=48) lV aE;have Jh:bn .or (a4 (g D i+g D (i+1)*256+g D (i+2)*65536+g D (i+3)*16777216+g D (i+4)*4294967296+g D (i+5)*1099511627776:Nat)) (a4 (g D (i+6)*281474976710656:Nat))=J (a4 (g D i+g D (i+1)*256+g D (i+2)*65536+g D (i+3)*16777216+g D (i+4)*4294967296+g D (i+5)*1099511627776+g D (i+6)*281474976710656:Nat)):=by rw[jY I I,tz 48 rfl I]
 have yl:bn .shl (a4 (g D (i+7):Int)) (a4 56)=J (a4 (g D (i+7)*72057594037927936:Nat)):=tE (s:=56) qO aE;have F2:bn .or (a4 (g D i+g D (i+1)*256+g D (i+2)*65536+g D (i+3)*16777216+g D (i+4)*4294967296+g D (i+5)*1099511627776+g D (i+6)*281474976710656:Nat)) (a4 (g D (i+7)*72057594037927936:Nat))=J (a4 (g D i+g D (i+1)*256+g D (i+2)*65536+g D (i+3)*16777216+g D (i+4)*4294967296+g D (i+5)*1099511627776+g D (i+6)*281474976710656+g D (i+7)*72057594037927936:Nat)):=by rw[jY I I,tz 56 rfl I]
 have ep:ci .u64 (bu (g D i:Nat))=J (a4 (g D i:Nat)):=Hv I;have fin:R (a4 (g D i+g D (i+1)*256+g D (i+2)*65536+g D (i+3)*16777216+g D (i+4)*4294967296+g D (i+5)*1099511627776+g D (i+6)*281474976710656+g D (i+7)*72057594037927936:Nat)) (a6 h (aO (aZ (cellsL z)) 170)):=by
  refine q _ _ (aB.push _ _) I λk aq=>?_;clear s1 s2 dB jf pI q8 yl eJ o2 o4 zG Bt Jh F2 ep;unfold ns;match k,aq with
  |0,_=>simp only[Nat.reducePow,h6,kR,nm];omega
  |1,_=>simp only[Nat.reducePow,h6,kR];omega
  |2,_=>simp only[Nat.reducePow,h6,kR];omega
  |3,_=>simp only[Nat.reducePow,h6,kR];omega
  |4,_=>simp only[Nat.reducePow,h6,kR];omega
  |5,_=>simp only[Nat.reducePow,h6,kR];omega
  |6,_=>simp only[Nat.reducePow,h6,kR];omega
  |7,_=>simp only[Nat.reducePow,h6,kR];omega
 unfold lh;refine ag9 (dI Mv aa) (hA Mv aa) s1 s2 dB jf pI q8 yl eJ o2 o4 zG Bt Jh F2 ?_;exact fin
end
def PI(Q:ao->H->Prop)(aa:X Q)(ad:∀v h,Q v h->k v h):fD 1 X (λ_=>k):=⟨Q,λ_ _ _ h=>ad _ _ h,aa⟩
def gcom(D:B)(i:Nat):Option Nat:=
 if U D<=i then J i else if g D i=10 then J i else if g D i=13 then(if g D (i+1)=10 then J i else ab)
 else match ay:ff D i with
  |none=>ab
  |some n=>gcom D (i+n)
termination_by (U D)-i
decreasing_by have:=lR ay;omega
def HN(ay:ff D i=J n)(aa:g D i≠10)(ad:g D i≠13):gcom D i=gcom D (i+n):=by
 have:=lR ay;rw[gcom,ak I,ak aa,ak ad];split
 .rename_i e;rw[ay] at e;cases e
 .rename_i e;rw[ay] at e;cases e;rfl
def Rm(az:i<U D)(ay:ff D i=ab)(aa:g D i≠10)(ad:g D i≠13):gcom D i=ab:=by
 rw[gcom,ak I,ak aa,ak ad];split
 .rfl
 .rename_i e;rw[ay] at e;cases e
def xC(h:32<=g D i)(h':g D i<127):ff D i=J 1:=by unfold ff;rw[aA (bt ⟨h,h'⟩)]
def CB(h:g D i=9):ff D i=J 1:=by unfold ff;rw[aA (bF h)]
def v3(h:g D i<32\/g D i=127)(h':g D i≠9):ff D i=ab:=by unfold ff;rw[ak I,aA I]
def VC{α:Type}{f:Nat->α}(bj:∀k,k<8->f (i+k)=f (i+k+1)):f i=f (i+8):=by
 have aW:=bj 0 aE;have aa:=bj 1 aE;have ad:=bj 2 aE;have an:=bj 3 aE;have aT:=bj 4 aE;have bN:=bj 5 aE;have cB:=bj 6 aE;have de:=bj 7 aE;rw[nm] at aW;exact aW.trans (aa.trans (ad.trans (an.trans (aT.trans (bN.trans (cB.trans de))))))
section
variable{h:H}{R k:K}{b C i i0 N:Nat}{v:ao}{D:B}
def or_zero(h:a|||c=0):a=0/\c=0:=Nat.or_eq_zero_iff.1 h
def ye(aa:a<18446744073709551616)(ad:c<18446744073709551616):a|||c<18446744073709551616:=Nat.or_lt_two_pow (n:=64) aa ad
@[go_sem] def aCm:cO 0 (bU (J a)) h k=k (cA #[]) h:=id rfl
def P6{x:Nat}(ae:x<18446744073709551616):bn .and (a4 (x:Int)) (a4 9259542123273814144)=J (a4 ((x&&&msb:Nat):Int)):=yR (c:=msb) ae aE
def Um(x:Nat):x&&&msb<18446744073709551616:=He x aE
def Pv(aM:db h b D C)(aD:bp b i0 (U D) C v)(az:i0<U D)
  (bq:∀j x y h',aB h h'->gcom D (i0+1)=J j->i0<j->j<=U D->bp b i0 j C x->bp b j (U D) C y->R (bA #[x,y,cR]) h')
  (bw:∀x y e h',gcom D (i0+1)=ab->aB h h'->e2 h' b (U D) C e->R (bA #[x,y,e]) h'):bo 68 [v] h R:=by
 apply amD;have cI:=aD;obtain⟨e,rfl,aa,ad,an,aT,e0,hlen⟩:=aD.fL aM;refine eV (λm u h'=>∃j:Nat,u=ah j/\1<=j/\i0+j<=U D/\gcom D (i0+j)=gcom D (i0+1)/\aB h h'/\m=U D-j) _ ⟨1,rfl,bQ _,az,rfl,aB.refl _,rfl⟩ ?_;rintro m d u h' N ⟨j,rfl,eK,aC,af,he,rfl⟩ a7;have fin:∀j h',1<=j->i0+j<=U D->aB h h'->gcom D (i0+1)=J (i0+j)->R (bA #[a5 (J ⟨b,e,ab⟩) j (C-i0),a5 (J ⟨b,cX (C-i0) j e,ab⟩) (U D-i0-j) (C-i0-j),cR]) h':=λj h' bx bH cq dT=>
  bq (i0+j) _ _ _ cq dT I I ck ck
 refine aR ?_;refine⟨λa'=>PI (λu h'=>∃bI:Nat,u=ah bI/\j<=bI/\i0+bI<=U D/\gcom D (i0+bI)=gcom D (i0+1)/\aB h h') ?_ ?_,λeg=>?_⟩
 .refine eV (λm u h'=>∃bI:Nat,u=ah bI/\j<=bI/\i0+bI<=U D/\gcom D (i0+bI)=gcom D (i0+1)/\aB h h'/\m=U D-bI) _ ⟨j,rfl,bQ _,aC,af,he,rfl⟩ ?_;clear a7 af he a' aC eK d N;rintro m d u h' N ⟨bI,rfl,eK,aC,af,he,rfl⟩ a7;refine aR ?_;refine⟨λhC=>?_,λhC=>⟨bI,rfl,eK,aC,af,he⟩⟩;refine aR ?_;refine Px (i:=i0+bI) (aM.ext he) ck I λx ad ar ae iC=>?_;have dK:=Um x;refine bG (P6 ae) ?_;refine Py (n:=32) ae aE λgu qs dz=>?_;refine bG (jY dK qs) ?_;refine Ei (n:=127) ae aE λgD ow cF=>?_;refine bG (jY (ye dK qs) ow) ?_;refine⟨λ_=>⟨bI,rfl,eK,aC,af,he.trans ar⟩,λaV=>?_⟩;obtain⟨oY,pT⟩:=or_zero (BU aV);obtain⟨fC,j6⟩:=or_zero oY;have eb:=NT fC;have gS:=dz j6 eb;have o5:=cF pT eb;have v8:gcom D (i0+bI)=gcom D (i0+bI+8):=VC λk aq=>by
   have bx:=eb k aq;have bH:=gS k aq;have cq:=o5 k aq;rw[iC k aq] at bx bH cq;exact HN (xC I I) I I
  exact a7 (U D-(bI+8)) _ _ I ⟨bI+8,rfl,I,I,by rw[<-gL,<-v8];exact af,he.trans ar,rfl⟩
 .rintro v cN ⟨bI,rfl,vn,g8,dN,iT⟩;have fX:=aM.ext iT;have two:∀n,ff D (i0+bI)=J n->g D (i0+bI)≠10->g D (i0+bI)≠13->N (ah (bI+n:Nat)) cN:=λn a bM oL=>by
   have:=lR a;exact a7 (U D-(bI+n)) _ _ I ⟨bI+n,rfl,I,I,by rw[<-gL,<-HN a bM oL];exact dN,iT,rfl⟩
  have bad:gcom D (i0+bI)=ab->∀s x,i0+bI<U D->∀(aL:U s<=1000:=by first|decide|assumption),bD 51 [a5 (J ⟨b,cX (C-i0) bI e,ab⟩) (bI+1-bI) (C-i0-bI),S s,x] cN λu h=>R (bA #[a5 ab 0 0,a5 ab 0 0,u]) h:=λa s x au aL=>
   gU (i:=i0+bI) (j:=i0+bI+1) (N:=U D) ck I λu ad ar er=>bw _ _ _ _ (dN▸a) (iT.trans ar) er
  refine dG (dI fX aa) (hA fX aa) ?_;simp only[<-gL];with_reducible repeat' first|refine⟨?_,?_⟩|intro
  all_goals first
   |exact two 1 (xC I I) I I
   |exact two 1 (CB I) I I
   |exact fin bI cN I g8 iT (dN▸(by rw[gcom,aA I]))
   |exact fin bI cN I g8 iT (dN▸(by rw[gcom,ak I,aA I]))
   |exact fin bI cN I g8 iT (dN▸(by rw[gcom,ak I,ak I,aA I,aA I]))
   |exact bad (Rm I (v3 I I) I I) _ _ I
   |exact bad (by rw[gcom,ak I,ak I,aA I,ak (by have:=@cu D (i0+bI+1);omega)]) _ _ I
   |skip
  refine B8 (i0:=i0) fX ⟨e,rfl,aa,ad,an,aT⟩ g8 (λk cc cK df gB=>?_) λk cc cK df gB hj=>?_
  .have:=cc.lt I gB;refine aR ?_;exact a7 (U D-k) _ _ I ⟨k,rfl,I,df,by rw[<-dN];exact(cc.law λi n a bM=>HN bM I I).symm,iT,rfl⟩
  .refine aR ?_;refine gU (i:=i0+k) (j:=i0+k+1) (N:=U D) ck I λu ad ar er=>bw _ _ _ _ ?_ (iT.trans ar) er;rw[<-dN,cc.law λi n a bM=>HN bM I I];exact Rm df hj I I
 .have aw:gcom D (i0+j)=J (i0+j):=by rw[gcom,aA I]
  exact fin j h' eK aC he (af▸aw)
end
def glit(D:B)(i:Nat):Option Nat:=
 if g D i=39 then J i else match ay:ff D i with
  |none=>ab
  |some n=>glit D (i+n)
termination_by (U D)-i
decreasing_by have:=lR ay;omega
def HT(ay:ff D i=J n)(aa:g D i≠39):glit D i=glit D (i+n):=by
 rw[glit,ak aa];split
 .rename_i e;rw[ay] at e;cases e
 .rename_i e;rw[ay] at e;cases e;rfl
def Ry(ay:ff D i=ab)(aa:g D i≠39):glit D i=ab:=by
 rw[glit,ak aa];split
 .rfl
 .rename_i e;rw[ay] at e;cases e
def EN(h:U D<=i):ff D i=ab:=by
 have:¬g D i≠0:=λe=>by have:=cu e;omega
 exact v3 I I
def hB(D:B)(i:Nat):Option (Nat×Nat):=
 if b5:g D i=39 then
  let n:=mcnt 39 (ax i D)
  if 3<=n then(if 5<n then ab else J (i+n-3,i+n)) else hB D (i+n)
 else if dh:g D i=10 then hB D (i+1)
 else if dx:g D i=13 then(if h:g D (i+1)=10 then hB D (i+2) else ab)
 else match ay:ff D i with
  |none=>ab
  |some n=>hB D (i+n)
termination_by (U D)-i
decreasing_by
 .have:=cu (D:=D) (i:=i) I;have:mcnt 39 (ax i D)=mcnt 39 (ax (i+1) D)+1:=by rw[wR aE,aA b5]
  omega
 .have:=cu (D:=D) (i:=i) I;omega
 .have:=cu (D:=D) (i:=i) I;omega
 .have:=lR ay;omega
def HV(ay:ff D i=J n)(aa:g D i≠39)(ad:g D i≠10)(an:g D i≠13):hB D i=hB D (i+n):=by
 rw[hB,e8 aa,e8 ad,e8 an];split
 .rename_i e;rw[ay] at e;cases e
 .rename_i e;rw[ay] at e;cases e;rfl
def HU(ay:ff D i=ab)(aa:g D i≠39)(ad:g D i≠10)(an:g D i≠13):hB D i=ab:=by
 rw[hB,e8 aa,e8 ad,e8 an];split
 .rfl
 .rename_i e;rw[ay] at e;cases e
def aa2(h:g D i=10):hB D i=hB D (i+1):=by
 rw[hB,e8 I,gw h]
def aqV(h:g D i=13)(h':g D (i+1)=10):hB D i=hB D (i+2):=by
 rw[hB,e8 I,e8 I,gw h,gw h']
def aa3(h:g D i=13)(h':g D (i+1)≠10):hB D i=ab:=by
 rw[hB,e8 I,e8 I,gw h,e8 h']
def aa4(h:g D i=39)(aI:mcnt 39 (ax i D)=n):hB D i=if 3<=n then(if 5<n then ab else J (i+n-3,i+n)) else hB D (i+n):=by
 rw[hB,gw h,<-aI]
def iU(D:B)(i:Nat):Nat:=if g D i=10 then i+1 else if g D i=13/\g D (i+1)=10 then i+2 else i
section
variable{h:H}{R k:K}{b C i i0 N:Nat}{v p:ao}{D:B}
def W1(aM:db h b D C)(aD:bp b i0 (U D) C v)(az:i0<U D)
  (bq:∀j x y z h',aB h h'->glit D (i0+1)=J j->i0<j->j<U D->bp b i0 (j+1) C x->bp b (i0+1) j C y->bp b (j+1) (U D) C z->R (bA #[x,y,z,cR]) h')
  (bw:∀x y z e h',glit D (i0+1)=ab->aB h h'->e2 h' b (U D) C e->R (bA #[x,y,z,e]) h'):bo 147 [p,v] h R:=by
 apply akZ;obtain⟨e,rfl,aa,ad,an,aT,e0,hlen⟩:=aD.fL aM;refine eV (λm u h'=>∃j:Nat,u=ah j/\1<=j/\i0+j<=U D/\glit D (i0+j)=glit D (i0+1)/\aB h h'/\m=U D-j) _ ⟨1,rfl,bQ _,az,rfl,aB.refl _,rfl⟩ ?_;rintro m d u h' N ⟨j,rfl,eK,aC,af,he,rfl⟩ a7;refine PI (λu h'=>∃bI:Nat,u=ah bI/\j<=bI/\i0+bI<=U D/\glit D (i0+bI)=glit D (i0+1)/\aB h h') ?_ ?_
 .refine eV (λm u h'=>∃bI:Nat,u=ah bI/\j<=bI/\i0+bI<=U D/\glit D (i0+bI)=glit D (i0+1)/\aB h h'/\m=U D-bI) _ ⟨j,rfl,bQ _,aC,af,he,rfl⟩ ?_;clear a7 af he aC eK d N;rintro m d u h' N ⟨bI,rfl,eK,aC,af,he,rfl⟩ a7;refine aR ?_;refine⟨λhC=>?_,λhC=>⟨bI,rfl,eK,aC,af,he⟩⟩;refine Px (i:=i0+bI) (aM.ext he) ck I λx ad ar ae iC=>?_;have dK:=Um x;refine bG (P6 ae) ?_;refine Py (n:=32) ae aE λgu qs dz=>?_;refine bG (jY dK qs) ?_;refine Ei (n:=39) ae aE λgD ow cF=>?_;refine bG (jY (ye dK qs) ow) ?_;refine Ei (n:=127) ae aE λpc vv eH=>?_;refine bG (jY (ye (ye dK qs) ow) vv) ?_;refine⟨λ_=>⟨bI,rfl,eK,aC,af,he.trans ar⟩,λaV=>?_⟩;obtain⟨gp,rp⟩:=or_zero (BU aV);obtain⟨oY,pT⟩:=or_zero gp;obtain⟨fC,j6⟩:=or_zero oY;have eb:=NT fC;have gS:=dz j6 eb;have o5:=cF pT eb;have Dz:=eH rp eb;have v8:glit D (i0+bI)=glit D (i0+bI+8):=VC λk aq=>by
   have bx:=eb k aq;have bH:=gS k aq;have cq:=o5 k aq;have dT:=Dz k aq;rw[iC k aq] at bx bH cq dT;exact HT (xC I I) I
  exact a7 (U D-(bI+8)) _ _ I ⟨bI+8,rfl,I,I,by rw[<-gL,<-v8];exact af,he.trans ar,rfl⟩
 .rintro v cN ⟨bI,rfl,vn,g8,dN,iT⟩;have fX:=aM.ext iT;have two:∀n,ff D (i0+bI)=J n->g D (i0+bI)≠39->N (ah (bI+n:Nat)) cN:=λn a bM=>by
   have:=lR a;exact a7 (U D-(bI+n)) _ _ I ⟨bI+n,rfl,I,I,by rw[<-gL,<-HT a bM];exact dN,iT,rfl⟩
  have bad:ff D (i0+bI)=ab->g D (i0+bI)≠39->∀i j u,bp b i j C u->j<=U D->∀s x,∀(aL:U s<=1000:=by first|decide|assumption),bD 51 [u,S s,x] cN λu h=>R (bA #[a5 ab 0 0,a5 ab 0 0,a5 ab 0 0,u]) h:=λa bM i j u hu aC s x aL=>
   gU hu aC λu ad ar er=>bw _ _ _ _ _ (dN▸Ry a bM) (iT.trans ar) er
  refine dG (dI fX aa) (hA fX aa) ?_;with_reducible repeat' first|refine⟨?_,?_⟩|intro
  all_goals first
   |exact two 1 (xC I I) I
   |exact two 1 (CB I) I
   |exact bad (v3 I I) I (i0+bI) (i0+bI+1) _ ck I _ _
   |exact bad (EN I) (by have:=@cu D (i0+bI);omega) (U D) (U D) _ ck I _ _
   |skip
  .exact bq (i0+bI) _ _ _ _ iT (dN▸(by rw[glit,aA I])) I I ck ck ck
  refine B8 (i0:=i0) fX ⟨e,rfl,aa,ad,an,aT⟩ g8 (λk cc cK df gB=>?_) λk cc cK df gB hj=>?_
  .have:=cc.lt I gB;refine aR ?_;exact a7 (U D-k) _ _ I ⟨k,rfl,I,df,by rw[<-dN];exact(cc.law λi n a bM=>HT bM I).symm,iT,rfl⟩
  .refine aR ?_;refine gU (i:=i0+k) (j:=i0+k+1) (N:=U D) ck I λu ad ar er=>bw _ _ _ _ _ ?_ (iT.trans ar) er;rw[<-dN,cc.law λi n a bM=>HT bM I];exact Ry hj I
def aeJ(az:i<=U D):i<=iU D i/\iU D i<=U D:=by
 unfold iU;have aa:=@cu D i;have ad:=@cu D (i+1);repeat' split
 all_goals omega
def ll(Q:ao->H->Prop)(aa:∀N:ao->H->Prop,(∀v h,Q v h->N v h)->X N)(ad:∀v h,Q v h->k v h):fD 1 X (λ_=>k):=⟨Q,λ_ _ _ h=>ad _ _ h,aa Q λ_ _ h=>h⟩
def aiw(aM:db h b D C)(aD:bp b i0 (U D) C v)(az:i0+3<=U D)
  (bq:∀c j x y z h',aB h h'->hB D (iU D (i0+3))=J (c,j)->iU D (i0+3)<=c->c<=U D->i0+3<=j->j<=U D->bp b i0 j C x->bp b (iU D (i0+3)) c C y->bp b j (U D) C z->R (bA #[x,y,z,cR]) h')
  (bw:∀x y z e h',hB D (iU D (i0+3))=ab->aB h h'->e2 h' b (U D) C e->R (bA #[x,y,z,e]) h'):bo 146 [p,v] h R:=by
 apply akY;obtain⟨e,rfl,aa,ad,an,aT,e0,hlen⟩:=aD.fL aM;have Ha:bn .add (ah 3) (ah 1)=J (ah 4):=qL (a:=3) (b:=1) aE;have G':bn .add (ah 3) (ah 2)=J (ah 5):=qL (a:=3) (b:=2) aE;refine ll (λu h'=>∃ep:Nat,u=ah ep/\i0+ep=iU D (i0+3)/\h'=h) (λM cM=>?_) ?_
 .have f:=@cu D (i0+3);have bm:=@cu D (i0+4);refine i_ (dI aM aa) (hA aM aa) Ha G' ?_;with_reducible repeat' first|refine⟨?_,?_⟩|intro
  all_goals first
   |exact cM _ _ ⟨3,rfl,by unfold iU;rw[ak I,ak (by simp only[gL,Nat.reduceAdd] at*;omega)],rfl⟩
   |exact cM _ _ ⟨4,rfl,by unfold iU;rw[aA I],rfl⟩
   |exact cM _ _ ⟨5,rfl,by unfold iU;rw[ak I,aA (by simp only[gL,Nat.reduceAdd] at*;omega)],rfl⟩
 rintro v cN ⟨ep,rfl,hL,rfl⟩;have kX:=aeJ az;rw[<-hL] at bq bw kX;clear hL Ha G';refine eV (λm u h'=>∃j:Nat,u=ah j/\ep<=j/\i0+j<=U D/\hB D (i0+j)=hB D (i0+ep)/\h'=cN/\m=U D-j) _ ⟨ep,rfl,bQ _,I,rfl,rfl,rfl⟩ ?_;rintro m d u h' N ⟨j,rfl,eK,aC,af,rfl,rfl⟩ a7;have two:∀n,hB D (i0+j)=hB D (i0+j+n)->0<n->i0+j+n<=U D->N (ah (j+n:Nat)) h':=λn a bM oL=>
  a7 (U D-(j+n)) _ _ I ⟨j+n,rfl,I,I,by rw[<-gL,<-a];exact af,rfl,rfl⟩
 have bad:hB D (i0+j)=ab->∀i j u,bp b i j C u->j<=U D->∀s x,∀(aL:U s<=1000:=by first|decide|assumption),bD 51 [u,S s,x] h' λu h=>R (bA #[a5 ab 0 0,a5 ab 0 0,a5 ab 0 0,u]) h:=λa i j u hu aC s x aL=>
  gU hu aC λu ad ar er=>bw _ _ _ _ _ (af▸a) ar er
 have ct:=@cu D (i0+j+1);refine dG (dI aM aa) (hA aM aa) ?_;simp only[<-gL];with_reducible repeat' first|refine⟨?_,?_⟩|intro
 all_goals first
  |exact two 1 (HV (xC I I) I I I) I I
  |exact two 1 (HV (CB I) I I I) I I
  |exact two 1 (aa2 I) I I
  |exact two 2 (aqV I I) I I
  |exact bad (HU (v3 I I) I I I) (i0+j) (i0+j+1) _ ck I _ _
  |exact bad (aa3 I I) (i0+j) (i0+j+1) _ ck I _ _
  |exact bad (HU (EN I) (by have:=@cu D (i0+j);omega) (by have:=@cu D (i0+j);omega) (by have:=@cu D (i0+j);omega)) (U D) (U D) _ ck I _ _
  |skip
 ·
  rename_i a' b5;refine eV (λm u cN=>∃k:Nat,u=ah (j+k:Nat)/\i0+j+k<=U D/\k+mcnt 39 (ax (i0+j+k) D)=mcnt 39 (ax (i0+j) D)/\cN=h'/\m=U D-k) _ ⟨0,rfl,I,a1,rfl,rfl⟩ ?_;rintro m d u cN xq ⟨k,rfl,aq,hm,rfl,rfl⟩ so;have tf:=wR (D:=D) (j:=i0+j+k) (m:=39) aE;have fin:g D (i0+j+k)≠39->mcnt 39 (ax (i0+j) D)=k:=λa=>by rw[ak a] at tf;omega
  have jb:g D (i0+j+k)≠39->1<=k:=λa=>by
   rcases zZ k with rfl|aq
   .exact absurd b5 a
   .exact aq
  have more:g D (i0+j+k)=39->i0+j+k<U D->xq (ah (j+k+1:Nat)) cN:=λa bM=>so (U D-(k+1)) _ _ I ⟨k+1,rfl,I,by rw[aA a] at tf;rw[<-gL];omega,rfl,rfl⟩;have f0:=@cu D (i0+j+k);have QW:g D (i0+j+k)≠39->hB D (i0+j)=if 3<=k then(if 5<k then ab else J (i0+j+k-3,i0+j+k)) else hB D (i0+j+k):=λa=>aa4 b5 (fin a);refine dG (dI aM aa) (hA aM aa) ?_;simp only[<-gL];with_reducible repeat' first|refine⟨?_,?_⟩|intro
  all_goals first
   |exact more I I
   |exact bad (by rw[QW I,aA I,aA I]) (i0+j) (i0+j+k) _ ck I _ _
   |exact bq (i0+j+k-3) (i0+j+k) _ _ _ _ (aB.refl _) (by rw[<-af,QW I,aA I,ak I]) I I I I ck ck ck
   |exact two k (by rw[QW I,ak I]) (jb I) I
 refine B8 (i0:=i0) aM ⟨e,rfl,aa,ad,an,aT⟩ aC (λk cc cK df gB=>?_) λk cc cK df gB hj=>?_
 .have:=cc.lt I gB;refine aR ?_;exact a7 (U D-k) _ _ I ⟨k,rfl,I,df,by rw[<-af];exact(cc.law λi n a bM=>HV bM I I I).symm,rfl,rfl⟩
 .refine aR ?_;refine gU (i:=i0+k) (j:=i0+k+1) (N:=U D) ck I λu ad ar er=>bw _ _ _ _ _ ?_ ar er;rw[<-af,cc.law λi n a bM=>HV bM I I I];exact HU hj I I I
end
def bv(c:UInt8):ao:=bu (c.toNat:Nat)
def vX(h:c<256):bv (UInt8.ofNat c)=bu (c:Int):=by simp[bv];omega
def u5:Z 5=[bu 0]:=b4
def UK:∀s:B,ones (s.map bv)=ai
 |[]=>rfl
 |c::s=>by simp[ones,one,bv,UK s]
def oc(h:H)(v:ao)(s:B)(r:Nat):Prop:=b2 h v 1 (s.map bv) (J r)
def bV.pre(e:aB aW h)(aw:bV ro h h'):bV ro aW h':=⟨dH e.1 aw.1,λb af aI=>by rw[aw.2 b (cP af e.1) aI,e.2 b af]⟩
def oc.lt(af:oc h v s r):r<ag h:=by
 obtain⟨len,cap,c,t,_,af,_⟩:=af;grind
def oc.ext(af:oc h v s r)(e:aB h h'):oc h' v s r:=af.at λcC aF=>by cases aF;exact e.2 r af.lt
def yC(h:H)(r:Nat)(s:B)(k:K):Prop:=∀v h' cC,bV (J r) h h'->(cC=r\/ag h<=cC)->oc h' v s cC->k v h'
section
variable{h:H}{k:K}{v x:ao}{s M:B}{r n:Nat}{arr:Array ao}
def Lq(af:oc h v s r)(ae:lenV x=J (U M))(aL:shown h 1 (U M) x=J arr)(bE:bC arr=M.map bv)(au:U s+U M<=1000000)(q:yC h r (s++M) k):Ap 5 1 1 (Z 5) v x h k:=by
 refine b2.append (M:=M.map bv) af aE (by rw[u5];rfl) ae aL bE (UK M) a1 (by simp;omega) λch h' b0 e aF dF=>?_;rw[<-rr] at aF;rcases dF with rfl|rfl
 .exact q ch h' r e (bF rfl) aF
 .exact q ch h' (ag h) e (bt (bQ _)) aF
def Hg(af:oc h v s r)(bE:bC arr=M.map bv)(au:U s+U M<=1000000)(q:yC h r (s++M) k)(aI:n=U M):Ap 5 1 1 (Z 5) v (a5 (J ⟨ag h,0,ab⟩) n n) (a6 h (aO arr 5)) k:=by
 subst aI;have c0:ag arr=U M:=by have:=mQ List.length bE;grind
 refine Lq (M:=M) (arr:=arr) (af.ext (aB.push _ _)) rfl ?_ bE au λch h' cC e aF dN=>q ch h' cC (bV.pre (aB.push _ _) e) ?_ dN
 .simp only[shown,dS];simp_all
 grind
def Hf{c:Nat}(af:oc h v s r)(ay:c<256)(au:U s<=900000)(q:yC h r (s++[UInt8.ofNat c]) k):ew 5 1 (Z 5) [(0,1,bu (c:Int))] h λx h=>Ap 5 1 1 (Z 5) v x h k:=by
 rw[u5,D_ rfl rfl,<-u5];exact Hg (M:=[UInt8.ofNat c]) af (by simp[vX ay]) (by simp;omega) q rfl
def Ao{c:Nat}(af:oc h v s r)(ay:OfNat.ofNat c<256)(au:U s<=900000)(q:yC h r (s++[UInt8.ofNat (OfNat.ofNat c)]) k):ew 5 1 (Z 5) [(0,1,bu (no_index (OfNat.ofNat c):Int))] h λx h=>Ap 5 1 1 (Z 5) v x h k:=Hf (c:=OfNat.ofNat c) af ay au q
def WL(bE:cellsL a=[a])(af:cellsL b=[b]):ew 5 2 (Z 5) [(0,1,a),(1,1,b)] h k=k (a5 (J ⟨ag h,0,ab⟩) 2 2) (a6 h (aO #[a,b] 5)):=by rw[u5];simp[ew,repL,fillL,bE,af,putL]
def ah0(bE:cellsL a=[a])(af:cellsL b=[b])(ay:cellsL c=[c]):ew 5 3 (Z 5) [(0,1,a),(1,1,b),(2,1,c)] h k=k (a5 (J ⟨ag h,0,ab⟩) 3 3) (a6 h (aO #[a,b,c] 5)):=by rw[u5];simp[ew,repL,fillL,bE,af,ay,putL]
def ah1(bE:cellsL a=[a])(af:cellsL b=[b])(ay:cellsL c=[c])(aG:cellsL d=[d]):ew 5 4 (Z 5) [(0,1,a),(1,1,b),(2,1,c),(3,1,d)] h k=k (a5 (J ⟨ag h,0,ab⟩) 4 4) (a6 h (aO #[a,b,c,d] 5)):=by rw[u5];simp[ew,repL,fillL,bE,af,ay,aG,putL]
def Gv(c:Nat):Prop:=c<55296\/(57344<=c/\c<1114112)
def E1(c:Nat):B:=if c<128 then[UInt8.ofNat c] else if c<2048 then[UInt8.ofNat (192+c/64),UInt8.ofNat (128+c%64)]
 else if c<65536 then[UInt8.ofNat (224+c/4096),UInt8.ofNat (128+c/64%64),UInt8.ofNat (128+c%64)]
 else[UInt8.ofNat (240+c/262144),UInt8.ofNat (128+c/4096%64),UInt8.ofNat (128+c/64%64),UInt8.ofNat (128+c%64)]
def apI(r:Int):xx (Utf8.encode r)=E1 (if Utf8.valid r=ai then r.toNat else Utf8.runeError):=by
 unfold Utf8.encode E1;generalize (if Utf8.valid r=ai then r.toNat else Utf8.runeError)=c;dsimp only;by_cases aa:c<128
 .rw[aA aa,aA aa];rfl
 .rw[ak aa,ak aa];by_cases ad:c<2048
  .rw[aA ad,aA ad];rfl
  .rw[ak ad,ak ad];by_cases an:c<65536
   .rw[aA an,aA an];rfl
   .rw[ak an,ak an];rfl
def Z1(h:Gv c):enc c=E1 c:=by
 have e:∀r:Int,r=c->xx (Utf8.encode r)=E1 c:=λr aF=>by
  rw[apI,aA,aF]
  .rfl
  .unfold Gv at h;simp[Utf8.valid];omega
 exact e _ rfl
def azo{a s:Nat}(aL:s<=32):bn .shr (dc (a:Int)) (a4 (s:Int))=J (dc ((a/2^s:Nat):Int)):=by
 show(if((s:Nat):Int)<0 then ab else J (Value.int .i32 ((a:Int).fdiv (2^(min ((s:Nat):Int).toNat 32)))))=_;grind
def Gx{a:Nat}:IntKind.u8.wrap (a:Int)=((a%256:Nat):Int):=by simp only[aBJ];omega
def JE{a s:Nat}(aL:OfNat.ofNat s<=32):bn .shr (dc (a:Int)) (a4 (no_index (OfNat.ofNat s):Int))=J (dc ((a/2^(OfNat.ofNat s):Nat):Int)):=azo (s:=OfNat.ofNat s) aL
def JP{a:Nat}(h:a<256):bn .and (bu (a:Int)) (bu 63)=J (bu ((a%64:Nat):Int)):=by
 rw[YX,nr,u8_and63 _ I I];rfl
def JQ{a:Nat}(h:a<64):bn .or (bu 128) (bu (a:Int))=J (bu ((128+a:Nat):Int)):=by
 rw[EK,nr,u8_or128 _ I I];rfl
def JR{a:Nat}(h:a<32):bn .or (bu 192) (bu (a:Int))=J (bu ((192+a:Nat):Int)):=by
 rw[EK,nr,u8_or192 _ I I];rfl
def JS{a:Nat}(h:a<16):bn .or (bu 224) (bu (a:Int))=J (bu ((224+a:Nat):Int)):=by
 rw[EK,nr,u8_or224 _ I I];rfl
def JT{a:Nat}(h:a<8):bn .or (bu 240) (bu (a:Int))=J (bu ((240+a:Nat):Int)):=by
 rw[EK,nr,u8_or240 _ I I];rfl
def Hu{a:Nat}:ci .u8 (ba dq (a:Int))=J (bu ((a%256:Nat):Int)):=by
 rw[Qs,Gx]
def CC{a:Nat}(h:a<4294967296):ci .u32 (ba dq (a:Int))=J (ba .u32 (a:Int)):=by
 rw[Qs];congr 2;simp only[ahr];omega
def ai6(af:oc h v s r)(ay:Gv c)(au:U s<=900000)(q:yC h r (s++enc c) k):bo 202 [v,dc (c:Int)] h k:=by
 apply alQ;have j':c<1114112:=by unfold Gv at ay;omega
 refine bG @CC ?_;refine⟨λaa=>?_,λaa=>?_⟩
 .rw[Z1 ay,E1,aA I] at q;exact Hf af I au q
 .apply alR;rw[Z1 ay,E1,ak I] at q;have dK:c/64%256%64=c/64%64:=I
  have uA:c%256%64=c%64:=I
  have gz:c/4096%256%64=c/4096%64:=I
  (simp-implicitDefEqProofs+contextual (disch:=omega) only[go_sem,CC,JE,Nat.reducePow,Hu,Gx,JP,JQ,JR,JS,JT,uA,dK,gz];try refine c8 ?_)
  refine⟨λad=>?_,λad=>ll (λu h'=>u=aQ (decide (c<65536))/\h'=h) (λN a7=>?_) ?_⟩
  .have k8:c/64%256=c/64:=I
   rw[aA I] at q;(simp-implicitDefEqProofs+contextual (disch:=omega) only[go_sem,CC,JE,Nat.reducePow,Hu,Gx,JP,JQ,JR,JS,JT,uA,dK,gz,k8];try refine c8 ?_)
   rw[WL rfl rfl];exact Hg af (by simp only[kp,ru];rw[vX I,vX I]) (by simp;omega) q rfl
  .unfold Gv at ay;(simp-implicitDefEqProofs+contextual (disch:=omega) only[go_sem,CC,JE,Nat.reducePow,Hu,Gx,JP,JQ,JR,JS,JT,uA,dK,gz];try refine c8 ?_)
   grind
  rintro _ _ ⟨rfl,rfl⟩;rw[ak I] at q;by_cases an:c<65536
  .have k8:c/4096%256=c/4096:=I
   rw[aA an] at q;(simp-implicitDefEqProofs+contextual (disch:=omega) only[go_sem,CC,JE,Nat.reducePow,Hu,Gx,JP,JQ,JR,JS,JT,uA,dK,gz,k8,j7 an];try refine c8 ?_)
   rw[ah0 rfl rfl rfl];exact Hg af (by simp only[kp,ru];rw[vX I,vX I,vX I]) (by simp;omega) q rfl
  .have k8:c/262144%256=c/262144:=I
   rw[ak an] at q;(simp-implicitDefEqProofs+contextual (disch:=omega) only[go_sem,CC,JE,Nat.reducePow,Hu,Gx,JP,JQ,JR,JS,JT,uA,dK,gz,k8,ig an];try refine c8 ?_)
   rw[ah1 rfl rfl rfl rfl];exact Hg af (by simp only[kp,ru];rw[vX I,vX I,vX I,vX I]) (by simp;omega) q rfl
end
def guni(D:B)(i n:Nat):Option (B×Nat):=match hexN n 0 (ax i D) with
 | .ok v _=>if 1114111<v\/(55296<=v/\v<=57343) then ab else J (enc v,i+n)
 | .no _=>ab
def jA(D:B)(i:Nat):Option (B×Nat):=
 if g D i=34 then J ([34],i+1) else if g D i=92 then J ([92],i+1) else if g D i=98 then J ([8],i+1) else if g D i=102 then J ([12],i+1)
 else if g D i=110 then J ([10],i+1) else if g D i=114 then J ([13],i+1) else if g D i=116 then J ([9],i+1) else if g D i=101 then J ([27],i+1)
 else if g D i=120 then guni D (i+1) 2 else if g D i=117 then guni D (i+1) 4 else if g D i=85 then guni D (i+1) 8 else ab
def ab1:∀(n v:Nat) (l:B),U l<n->∃c,hexN n v l=.no c
 |0,v,l,h=>I
 |n+1,v,l,h=>by
  rw[hexN];split
  .rename_i d aG;have:0<U l:=Gi (by intro e;rw[e] at aG;simp[fQ] at aG);exact ab1 n _ _ (by simp;omega)
  grind
def z8(res:Option (B×Nat))(h:H)(b N C i0 r:Nat)(s:B)(R:K):Prop:=match res with
 |J (t,j)=>yC h r (s++t) λv h'=>R (bA #[v,ah (j-i0:Nat),cR]) h'
 |none=>∀x y e h',aB h h'->e2 h' b N C e->R (bA #[x,y,e]) h'
section
variable{h:H}{R k:K}{b C i i0 N r n:Nat}{v p u:ao}{D s:B}
def af8{x:Nat}(h:x<268435456):bn .shl (ba .u32 (x:Int)) (a4 4)=J (ba .u32 ((x*16:Nat):Int)):=by
 simp[bn,IntKind.bits];simp only[ahr];omega
def ae1{x d:Nat}(h:x<268435456)(aG:d<16):bn .or (ba .u32 ((x*16:Nat):Int)) (ba .u32 (d:Int))=J (ba .u32 ((x*16+d:Nat):Int)):=by
 rw[EK,nr,bits_join .u32 32 aE (λn aW aa=>by rw[ahr];omega) 4 _ _ I I I I I I];norm_cast
@[go_sem] def aCH{a c:Nat}(h:a+OfNat.ofNat c<4294967296):bn .add (ba .u32 (a:Int)) (ba .u32 (no_index (OfNat.ofNat c):Int))=J (ba .u32 ((a+OfNat.ofNat c:Nat):Int)):=by
 have e:∀c:Nat,a+c<4294967296->bn .add (ba .u32 a) (ba .u32 c)=J (ba .u32 ((a+c:Nat):Int)):=λc ay=>by
  simp only[bn,ei];congr 2;simp only[ahr];omega
 exact e _ h
def ai4(aM:db h b D C)(aD:bp b i0 (U D) C v)(az:i0+i<=U D)(arn:2<=i)(aI:n<=8)(hu:oc h u s r)(au:U s<=900000)(q:z8 (guni D (i0+i) n) h b (U D) C i0 r s R):bo 199 [u,v,ah (i:Int),ah (n:Int)] h R:=by
 apply alM;obtain⟨e,rfl,aa,ad,an,aT,e0,hlen⟩:=aD.fL aM;unfold guni at q;have bad:z8 ab h b (U D) C i0 r s R->∀i j w,bp b i j C w->j<=U D->∀t x,∀(aL:U t<=1000:=by first|decide|assumption),bD 51 [w,S t,x] h λw h=>R (bA #[a5 ab 0 0,ah 0,w]) h:=λq i j w hw aC t x aL=>
  gU hw aC λw ad ar er=>q _ _ _ _ ar er
 refine aR ?_;refine⟨λbN=>?_,λbN=>?_⟩
 .obtain⟨c,ay⟩:=ab1 n 0 (ax (i0+i) D) (by simp;omega);rw[ay] at q;exact bad q (i0+(i-2)) (U D) _ ck I _ _
 .refine jn (λm w t h'=>∃(x k:Nat),k<=n/\x<16^k/\w=ba .u32 x/\t=ah k/\hexN (n-k) x (ax (i0+i+k) D)=hexN n 0 (ax (i0+i) D)/\h'=h/\m=n-k) n ⟨0,0,ed _,aE,rfl,rfl,rfl,rfl,rfl⟩ ?_;rintro m d w t h' N ⟨x,k,aq,ae,rfl,rfl,af,rfl,rfl⟩ a7;rw[<-af] at q;have Tw:k<8->x<268435456:=λaq=>cP ae (l4 (n:=16) aE (I:k<=7));have ac5:x<4294967296:=cP ae (l4 (n:=16) aE (I:k<=8));refine bG (dI aM aa) ?_;refine⟨λa'=>ll (λw cN=>∃d:Nat,fQ (g D (i0+i+k))=J d/\w=ba .u32 d/\cN=h') (λM cM=>?_) ?_,λeg=>?_⟩
  .obtain⟨e,he⟩:∃e,n-k=e+1:=⟨n-k-1,I⟩;rw[he,hexN,eF] at q;have Rw:=dZ D (i0+i+k);refine bG @CC ?_;simp only[<-gL];have no:fQ (g D (i0+i+k))=ab->z8 ab h' b (U D) C i0 r s R:=λae=>al
   unfold fQ at cM no;with_reducible repeat' first|refine⟨?_,?_⟩|intro
   all_goals first
    |exact cM _ _ ⟨_,aA I,rfl,rfl⟩
    |exact cM _ _ ⟨_,by rw[ak I,aA I],rfl,rfl⟩
    |exact cM _ _ ⟨_,by rw[ak I,ak I,aA I],rfl,rfl⟩
    |exact bad (no (by rw[ak I,ak I,ak I])) (i0+i+k) (i0+i+k+1) _ ck I _ _
  .rintro _ _ ⟨v5,gI,rfl,rfl⟩;have:=asU gI;have:=af8 (Tw I);have:=ae1 (d:=v5) (Tw I) I;refine dG @af8 @ae1 ?_;obtain⟨e,he⟩:∃e,n-k=e+1:=⟨n-k-1,I⟩;rw[he,hexN,eF,gI] at af;refine a7 e _ _ _ I ⟨x*16+v5,k+1,I,I,rfl,rfl,?_,rfl,I⟩;rw[(I:n-(k+1)=e),<-af,tail_drop];rfl
  .have bP:n-k=0:=I
   rw[bP,hexN] at q;have no:(1114111<x\/55296<=x/\x<=57343)->z8 ab h' b (U D) C i0 r s R:=λae=>al
   have yes:¬(1114111<x\/55296<=x/\x<=57343)->bD 202 [u,dc x] h' λkl h=>Pu (bn .add (ah i) (ah n)) h λlI h=>R (bA #[kl,lI,cR]) h:=λae=>by
    simp only[ak ae] at q;refine ai6 hu (by unfold Gv;omega) au λv cN cC aw ar aS=>?_;have:=q v cN cC aw ar aS;rw[(I:i0+i+n-i0=i+n)] at this;refine aR ?_;exact this
   with_reducible repeat' first|refine⟨?_,?_⟩|intro
   all_goals first
    |exact bad (no I) (i0+(i-2)) (i0+i+n) _ ck I _ _
    |grind
def pn(aV:Z t=[z])(oY:cellsL z=[z])(ae:cellsL x=[x]):ew t 1 (Z t) [(0,1,x)] h R=R (a5 (J ⟨ag h,0,ab⟩) 1 1) (a6 h (aO #[x] t)):=by rw[aV,D_ oY ae]
def oJ:Z 20=[cR]:=b4
def Xa(aM:db h b D C)(aD:bp b i0 (U D) C v)(az:i0+i<U D)(arn:1<=i)(hu:oc h u s r)(au:U s<=800000)(q:z8 (jA D (i0+i)) h b (U D) C i0 r s R):bo 192 [u,v,ah (i:Int)] h R:=by
 apply alH;have cI:=aD;obtain⟨e,rfl,aa,ad,an,aT,e0,hlen⟩:=aD.fL aM;unfold jA at q;have n9:∀c:Nat,c<256->z8 (J ([UInt8.ofNat c],i0+i+1)) h b (U D) C i0 r s R->yC h r (s++[UInt8.ofNat c]) λv h'=>R (bA #[v,ah (i+1:Nat),cR]) h':=λc ay q=>by
  unfold z8 at q;simp only at q;rw[(I:i0+i+1-i0=i+1)] at q;exact q
 have JU:∀n:Nat,n<=8->z8 (guni D (i0+i+1) n) h b (U D) C i0 r s R->bD 199 [u,a5 (J ⟨b,e,ab⟩) (U D-i0) (C-i0),ah (i+1:Nat),ah n] h λkN h=>Pu (exv 0 kN) h λkj h=>Pu (exv 1 kN) h λme h=>Pu (exv 2 kN) h λjI h=>R (bA #[kj,me,jI]) h:=λn aI q=>by
  refine ai4 aM cI I I aI hu I ?_;rw[<-gL];cases aX:guni D (i0+i+1) n with
  |none=>
   rw[aX] at q;intro x y z h' aw ar;refine aR ?_;exact q _ _ _ _ aw ar
  |some t=>
   rw[aX] at q;intro v h' cC aw ar aS;refine aR ?_;exact q v h' cC aw ar aS
 refine bG (dI aM aa) ?_;refine⟨λbO=>?_,λaev=>⟨λbO=>?_,λaGh=>⟨λbO=>?_,λaGi=>⟨λbO=>?_,λDq=>⟨λbO=>?_,λJb=>⟨λbO=>?_,λaF5=>⟨λbO=>?_,λBn=>⟨λbO=>?_,λawP=>⟨λbO=>?_,λaF7=>⟨λbO=>?_,λaF6=>⟨λbO=>?_,λaGg=>?_⟩⟩⟩⟩⟩⟩⟩⟩⟩⟩⟩
 ·(repeat first|rw[aA b8] at q|rw[ak b8] at q);exact Ao (c:=34) hu aE I (n9 34 aE q)
 ·(repeat first|rw[aA b8] at q|rw[ak b8] at q);exact Ao (c:=92) hu aE I (n9 92 aE q)
 ·(repeat first|rw[aA b8] at q|rw[ak b8] at q);exact Ao (c:=8) hu aE I (n9 8 aE q)
 ·(repeat first|rw[aA b8] at q|rw[ak b8] at q);exact Ao (c:=12) hu aE I (n9 12 aE q)
 ·(repeat first|rw[aA b8] at q|rw[ak b8] at q);exact Ao (c:=10) hu aE I (n9 10 aE q)
 ·(repeat first|rw[aA b8] at q|rw[ak b8] at q);exact Ao (c:=13) hu aE I (n9 13 aE q)
 ·(repeat first|rw[aA b8] at q|rw[ak b8] at q);exact Ao (c:=9) hu aE I (n9 9 aE q)
 ·(repeat first|rw[aA b8] at q|rw[ak b8] at q);exact Ao (c:=27) hu aE I (n9 27 aE q)
 ·(repeat first|rw[aA b8] at q|rw[ak b8] at q);grind
 ·(repeat first|rw[aA b8] at q|rw[ak b8] at q);grind
 ·(repeat first|rw[aA b8] at q|rw[ak b8] at q);grind
 (repeat first|rw[aA b8] at q|rw[ak b8] at q)
 rw[pn oJ rfl rfl];exact gU (i:=i0+(i-1)) (j:=i0+(i+1)) (N:=U D) ck I λw ad ar er=>q _ _ _ _ ((aB.push _ _).trans ar) er
end
def ab0{D:B}{r:B}(h:hexN n 0 (ax i D)=.ok v r)(aI:0<n):i+n<=U D:=by
 have:=SA h;grind
def y5(h:jA D i=J (t,j)):i<j/\j<=U D/\U t<=4:=by
 have au:=@cu D i;have JU:∀n,0<n->g D i≠0->guni D (i+1) n=J (t,j)->i<j/\j<=U D/\U t<=4:=λn aI aW h=>by
  unfold guni at h;split at h
  .rename_i v r aD;have:=ab0 aD aI;split at h
   .cases h
   .simp only[dg,hI] at h;obtain⟨rfl,rfl⟩:=h;exact⟨I,I,Q0 v⟩
  .cases h
 unfold jA at h;repeat' split at h
 all_goals grind
def gbas(D:B)(i:Nat)(acc:B):Option (B×Nat):=
 if g D i=34 then J (acc,i)
 else if g D i=92 then match he:jA D (i+1) with
  |none=>ab
  |J (t,j)=>gbas D j (acc++t)
 else match ay:ff D i with
  |none=>ab
  |some n=>gbas D (i+n) (acc++ax i (bf (i+n) D))
termination_by (U D)-i
decreasing_by
 .have:=y5 he;omega
 .have:=lR ay;omega
def E8(ay:ff D i=J n)(aa:g D i≠34)(ad:g D i≠92):gbas D i acc=gbas D (i+n) (acc++ax i (bf (i+n) D)):=by
 rw[gbas,ak aa,ak ad];grind
def E7(ay:ff D i=ab)(aa:g D i≠34)(ad:g D i≠92):gbas D i acc=ab:=by
 rw[gbas,ak aa,ak ad];grind
def aaG(h:g D i=92)(he:jA D (i+1)=J (t,j)):gbas D i acc=gbas D j (acc++t):=by
 rw[gbas,ak I,aA h];grind
def Rl(h:g D i=92)(he:jA D (i+1)=ab):gbas D i acc=ab:=by
 rw[gbas,ak I,aA h];grind
def zM{D:B}(aa:i<=j)(ad:j<=k):ax i (bf j D)++ax j (bf k D)=ax i (bf k D):=by
 have e:bf j (bf k D)=bf j D:=al
 have:=O4 j (bf k D);grind
def pw.acc{D:B}{f:Nat->B->Option (B×Nat)}(r:pw D j i)(bj:∀i n acc,128<=g D i->ff D i=J n->f i acc=f (i+n) (acc++ax i (bf (i+n) D)))(acc:B):f i acc=f j (acc++ax i (bf j D)):=by
 induction r generalizing acc with
 |refl=>
  grind
 |step aa ad r bR=>
  rw[bj _ _ _ aa ad,bR,Wm,zM I r.le]
section
variable{h:H}{R k:K}{b C i i0 N r n:Nat}{v p u:ao}{D s:B}
@[go_sem] def aCQ:beI ai (cW t x) cR=J (aQ ai):=id rfl
@[go_sem] def aCR:beI ai cR cR=J (aQ av):=id rfl
def gW(e:e2 h b N C v):beI ai v cR=J (aQ ai):=by
 obtain⟨x,au,msg,oy,i,j,rfl,_⟩:=e;rfl
def aaL(az:U D<=i):jA D i=ab:=by
 have:g D i=0:=by
  have:=@cu D i;omega
 unfold jA;rw[this];rfl
def aiY(aM:db h b D C)(aD:bp b i0 (U D) C v)(bq:∀k,i<=k->i0+k<U D->R (ah (k:Int)) h)(bw:R (ah (-1)) h)(az:i<=400):bo 193 [v,ah (i:Int)] h R:=by
 apply alI;obtain⟨e,rfl,aa,ad,an,aT,e0,hlen⟩:=aD.fL aM;refine eV (λm u h'=>∃j:Nat,u=ah j/\i<=j/\j<=402/\h'=h/\m=402-j) _ ⟨i,rfl,bQ _,I,rfl,rfl⟩ ?_;rintro m d u h' N ⟨j,rfl,eK,aC,rfl,rfl⟩ a7;refine bG (dI aM aa) ?_;with_reducible repeat' first|refine⟨?_,?_⟩|intro
 all_goals first
  |exact bq j eK I
  |exact a7 _ _ _ I ⟨j+2,rfl,I,I,rfl,rfl⟩
  |exact a7 _ _ _ I ⟨j+1,rfl,I,I,rfl,rfl⟩
  |exact bw
def JD(aM:db h b D C)(aD:bp b i j C v)(aC:j<=U D):∃arr,shown h 1 (j-i) v=J arr/\bC arr=(ax i (bf j D)).map bv:=by
 obtain⟨e,rfl,aa,ad,an,aT⟩:=aD;obtain⟨c,t,b3,af,ay,aX⟩:=aM.cells;simp only[shown,af,nn];by_cases az:i<C
 .have:=aa az;subst this;rw[aA (by simp;omega)];refine⟨_,rfl,?_⟩;apply Kz;intro k;rw[aBF,List.extract_eq_drop_take];simp only[D6,KA,D4,Ku];by_cases aq:k<j-e
  .rw[aA I,aX _ I,aA I];rw[h5 I];simp[bv,fu (I:e+k<U D)]
  grind
 .have:j-i=0:=I
  rw[this,aA (by simp;omega)];refine⟨_,rfl,?_⟩;have:ax i (bf j D)=[]:=iu (by simp;omega);simp_all
def Vz(aD:bp b i j C v):lenV v=J (j-i):=by
 obtain⟨e,rfl,_⟩:=aD;rfl
def Jo(aC:j<=U D):U (ax i (bf j D))=j-i:=by simp;omega
def aek(aI:n=j-i)(aM:db h b D C)(aD:bp b i j C v)(eK:i<=j)(aC:j<=U D)(ay:j-i<=jO)(eS:jO<=100000)(q:∀x h',aB h h'->oc h' x (ax i (bf j D)) (ag h)->k x h'):
  Ms 5 1 (Z 5) (ah (n:Int)) (ah (jO:Int)) h λx h=>vK 1 x v h λ_ h=>k x h:=by
 subst aI;simp only[Ms,u5,pU];refine⟨I,I,I,?_,rfl⟩;have fX:=aM.ext (aB.push h (aO (aZ (repL jO [Value.int .u8 0])) 5));obtain⟨arr,bE,jS⟩:=JD fX aD aC;have aD2:ag arr=j-i:=by have:=mQ List.length jS;grind
 simp only[vK,Vz aD,Nat.min_self,bE];refine⟨by rw[jS];exact UK _,I,?_⟩;have af:j-i<=U (repL jO [Value.int .u8 0]):=by rw[tC];simp;omega
 have fin:∀b6,ag b6=jO->bf (j-i) (bC b6)=(ax i (bf j D)).map bv->oc (a6 h (aO b6 5)) (a5 (J ⟨ag h,0,ab⟩) (j-i) jO) (ax i (bf j D)) (ag h):=λb6 aa ad=>
  ⟨j-i,jO,b6,5,rfl,dS _ _,ay,I,by simp;omega,al⟩
 split
 .rename_i aW;refine q _ _ (aB.push _ _) (fin _ (by simp[tC]) ?_);grind
 .simp only[dS];refine⟨trivial,al,bt (ed _),?_⟩;rw[ayl];refine q _ _ (aB.push _ _) (fin _ (by rw[zH];simp[tC]) ?_);have:=DC (bC arr) (aZ (repL jO [Value.int .u8 0])) 0 (by simp;omega);grind
end
def kt(h:H)(bb:Nat)(v:ao)(s:B):Prop:=∃e n cap c t b3,v=a5 (J ⟨bb,e,ab⟩) n cap/\n=U s/\h[bb]?=J (aO c t b3)/\e+n<=ag c/\bC (c.extract e (e+n))=s.map bv
def kt.at(af:kt h bb v s)(e:h'[bb]?=h[bb]?):kt h' bb v s:=by
 obtain⟨x,n,cap,c,t,b3,aa,ad,an,aT⟩:=af;exact⟨x,n,cap,c,t,b3,aa,ad,e.trans an,aT⟩
def kt.lt(af:kt h bb v s):bb<ag h:=by
 obtain⟨x,n,cap,c,t,b3,aa,ad,an,aT⟩:=af;grind
def kt.ext(af:kt h bb v s)(e:aB h h'):kt h' bb v s:=af.at (e.2 bb af.lt)
def bp.tY(aD:bp b i j C v)(aM:db h b D C)(aC:j<=U D):kt h b v (ax i (bf j D)):=by
 obtain⟨arr,bE,au⟩:=JD aM aD aC;obtain⟨e,rfl,aa,ad,an,aT⟩:=aD;obtain⟨c,t,b3,af,ay,aX⟩:=aM.cells;simp only[shown,af,nn] at bE;split at bE
 .rename_i ae;simp only[dg] at bE;exact⟨e,j-i,C-i,c,t,b3,rfl,(Jo aC).symm,af,ae.2,al⟩
 .cases bE
def oc.tY(af:oc h v s r):kt h r v s:=by
 obtain⟨len,cap,c,t,rfl,aa,ad,an,aT,bN⟩:=af;simp only[oE,nn] at an aT bN;refine⟨0,len,cap,c,t,_,rfl,aT.symm,aa,I,?_⟩;simp_all
section
variable{h:H}{R k:K}{b C i i0 N r n:Nat}{v p u:ao}{D s:B}
def StrQ(res:Option (B×Nat))(h:H)(b N C i0:Nat)(R:K):Prop:=match res with
 |J (s,j)=>i0<j->j<=N->∀x y z h',aB h h'->bp b i0 j C x->(∃bb,(bb=b\/ag h<=bb)/\kt h' bb y s)->bp b j N C z->R (bA #[x,y,z,cR]) h'
 |none=>∀x y z e h',aB h h'->e2 h' b N C e->R (bA #[x,y,z,e]) h'
def bump:Option (B×Nat)->Option (B×Nat)
 |J (s,j)=>J (s,j+1)
 |none=>ab
def aiK(aM:db h b D C)(aD:bp b i0 (U D) C v)(az:i0+i<U D)(aDO:1<=i)(q:StrQ (bump (gbas D (i0+i) (ax (i0+1) (bf (i0+i) D)))) h b (U D) C i0 R):bo 171 [p,v,ah (i:Int)] h R:=by
 apply alp;have cI:=aD;obtain⟨e,rfl,aa,ad,an,aT,e0,hlen⟩:=aD.fL aM;refine aR ?_;refine ll (λu h'=>∃jO:Nat,u=ah jO/\i-1<=jO/\jO<=400/\h'=h) (λM cM=>?_) ?_
 .refine aR ?_;refine aiY aM cI (λk aq ik=>?_) ?_ I
  .refine aR ?_;grind
  .have:bn h0 (ah (-1)) (ah 0)=J (aQ av):=rfl;refine bG this ?_;grind
 rintro _ _ ⟨jO,rfl,gH,j',rfl⟩;rename_i h;refine aR ?_;refine aek (i:=i0+1) (j:=i0+i) I aM ck I I I I λx xJ aw dz=>?_;refine jn (λm w t h'=>∃(j:Nat) (acc:B) (r:Nat),w=ah j/\i<=j/\i0+j<=U D/\aB h h'/\ag h<=r/\oc h' t acc r/\U acc<=4*j/\gbas D (i0+j) acc=gbas D (i0+i) (ax (i0+1) (bf (i0+i) D))/\m=U D-j) _ ⟨i,_,ag h,rfl,bQ _,I,aw,bQ _,dz,al,rfl,rfl⟩ ?_;rintro m d w t h' N ⟨j,acc,r,rfl,eK,aC,he,aF,sq,xM,af,rfl⟩ a7;have fX:=aM.ext he;have im:r≠b:=by
  obtain⟨c,t,b3,kB,_⟩:=aM.cells;grind
 have piece:∀t (k:Nat),0<k->i0+j+k<=U D->U t<=4*k->gbas D (i0+j) acc=gbas D (i0+j+k) (acc++t)->∀{K:K},(∀v cN,N (ah (j+k:Nat)) v cN->K v cN)->yC h' r (acc++t) K:=λt k aq ik aP aX K cE v cN cC aS fh dN=>
  cE v cN (a7 (U D-(j+k)) _ _ _ I ⟨j+k,acc++t,cC,rfl,I,I,bV.fe he aS (λx ae=>al),by have:=he.1;omega,dN,al,al,rfl⟩)
 have bad:gbas D (i0+j) acc=ab->∀i j u,bp b i j C u->j<=U D->∀s x,∀(aL:U s<=1000:=by first|decide|assumption),bD 51 [u,S s,x] h' λu h=>R (bA #[a5 ab 0 0,a5 ab 0 0,a5 ab 0 0,u]) h:=λa i j u hu aC s x aL=>
  gU hu aC λu ad ar er=>by rw[<-af,a] at q;exact q _ _ _ _ _ (he.trans ar) er
 have n9:i0+j<U D->ax (i0+j) (bf (i0+j+1) D)=[UInt8.ofNat (g D (i0+j))]:=λau=>by
  rw[BW,nt au,(I:i0+j+1-(i0+j)=1),fu au];simp only[ahE,Wv,ahJ]
 have F_:ff D (i0+j)=J 1->g D (i0+j)≠34->g D (i0+j)≠92->ew 5 1 (Z 5) [(0,1,bu (g D (i0+j):Int))] h' λkj h=>Ap 5 1 1 (Z 5) t kj h λme h=>N (ah (j+1:Nat)) me h:=λay gP jQ=>by
  have n1:=lR ay;have aX:=E8 (acc:=acc) ay gP jQ;rw[n9 I] at aX;exact Hf sq (dZ _ _) I (piece [UInt8.ofNat (g D (i0+j))] 1 I I a1 aX λ_ _ h=>h)
 have f0:=@cu D (i0+j);refine dG (dI fX aa) (hA fX aa) ?_;with_reducible repeat' first|refine⟨?_,?_⟩|intro
 all_goals first
  |with_reducible exact F_ (xC I I) I I
  |with_reducible exact bad (E7 (v3 I I) I I) (i0+j) (i0+j+1) _ ck I _ _
  |with_reducible exact bad (E7 (EN I) I I) (U D) (U D) _ ck I _ _
  |with_reducible exact bad (Rl I (aaL I)) (i0+(j+1-1)) (U D) _ ck I _ _
  |skip
 .rename_i gP;rw[<-af,gbas,aA gP] at q;exact q I I _ _ _ _ he ck ⟨r,bt aF,sq.tY⟩ ck
 .rename_i jQ _;refine Xa fX cI I I sq I ?_;rw[<-gL];cases aX:jA D (i0+j+1) with
  |none=>
   intro x y z an aS er;have:=gW er;refine bG this ?_;rw[<-af,Rl jQ aX] at q;exact q _ _ _ _ _ (he.trans aS) er
  |some VH=>
   obtain⟨eO,bI⟩:=VH;intro v an df aS lX eH;have Fm:=y5 aX;refine aR ?_;exact a7 (U D-(bI-i0)) _ _ _ I ⟨bI-i0,acc++eO,df,rfl,I,I,bV.fe he aS (λx ae=>al),by have:=he.1;omega,eH,al,by rw[(I:i0+(bI-i0)=bI),<-aaG jQ aX];exact af,rfl⟩
 .refine B8 (i0:=i0) fX cI I (λk cc cK df gB=>?_) λk cc cK df gB hj=>?_
  .have aq:=cc.lt I gB;have aX:=cc.acc (f:=gbas D) (λi n acc a bM=>E8 bM I I) acc;have k1:bp b (i0+j) (i0+k) C (a5 (J ⟨b,cX (C-i0) j e,ab⟩) (k-j) (C-i0-j)):=ck;obtain⟨arr,bE,jS⟩:=JD fX k1 df;have jV:=Jo (i:=i0+j) df;rw[(I:i0+k-(i0+j)=k-j)] at bE jV;refine aR ?_;refine Lq (M:=ax (i0+j) (bf (i0+k) D)) (arr:=arr) sq (by rw[jV];rfl) al jS I ?_;have:=piece (ax (i0+j) (bf (i0+k) D)) (k-j) I I I al (K:=λmi h=>N (ah k) mi h);grind
  .have aX:=cc.acc (f:=gbas D) (λi n acc a bM=>E8 bM I I) acc;refine aR ?_;exact bad (by rw[aX];exact E7 hj I I) (i0+j) (i0+(j+1)) _ ck I _ _
 .rename_i gg;have:=F_ (CB gg) I I;grind
end
section
variable{h:H}{R k:K}{b C i i0 N r n:Nat}{v p u:ao}{D s:B}
def oP(D:B)(i0 j:Nat):Option (B×Nat):=gbas D j (ax (i0+1) (bf j D))
def aaF(aC:i0+1<=j)(ay:ff D j=J n)(aa:g D j≠34)(ad:g D j≠92):oP D i0 j=oP D i0 (j+n):=by
 unfold oP;rw[E8 ay aa ad,zM aC I]
def aaE{j k:Nat}(aC:i0+1<=j)(r:pw D k j):oP D i0 j=oP D i0 k:=by
 unfold oP;rw[r.acc (f:=gbas D) (λi n acc a bM=>E8 bM I I),zM aC r.le]
def aaD(ay:ff D j=ab)(aa:g D j≠34)(ad:g D j≠92):oP D i0 j=ab:=E7 ay aa ad
def aqu:oP D i0 (i0+1)=gbas D (i0+1) []:=by
 unfold oP;grind
def B5(aM:db h b D C)(aD:bp b i0 (U D) C v)(az:i0<U D)(q:StrQ (bump (gbas D (i0+1) [])) h b (U D) C i0 R):bo 145 [p,v] h R:=by
 apply akX;have cI:=aD;obtain⟨e,rfl,aa,ad,an,aT,e0,hlen⟩:=aD.fL aM;rw[<-aqu] at q;refine eV (λm u h'=>∃j:Nat,u=ah j/\1<=j/\i0+j<=U D/\oP D i0 (i0+j)=oP D i0 (i0+1)/\aB h h'/\m=U D-j) _ ⟨1,rfl,bQ _,az,rfl,aB.refl _,rfl⟩ ?_;rintro m d u h' N ⟨j,rfl,eK,aC,af,he,rfl⟩ a7;refine PI (λu h'=>∃bI:Nat,u=ah bI/\j<=bI/\i0+bI<=U D/\oP D i0 (i0+bI)=oP D i0 (i0+1)/\aB h h') ?_ ?_
 .refine eV (λm u h'=>∃bI:Nat,u=ah bI/\j<=bI/\i0+bI<=U D/\oP D i0 (i0+bI)=oP D i0 (i0+1)/\aB h h'/\m=U D-bI) _ ⟨j,rfl,bQ _,aC,af,he,rfl⟩ ?_;clear a7 af he aC d N;rintro m d u h' N ⟨bI,rfl,vn,aC,af,he,rfl⟩ a7;refine aR ?_;refine⟨λhC=>?_,λhC=>⟨bI,rfl,vn,aC,af,he⟩⟩;refine Px (i:=i0+bI) (aM.ext he) ck I λx ad ar ae iC=>?_;have dK:=Um x;refine bG (P6 ae) ?_;refine Py (n:=32) ae aE λgu qs dz=>?_;refine bG (jY dK qs) ?_;refine Ei (n:=34) ae aE λgD ow cF=>?_;refine bG (jY (ye dK qs) ow) ?_;refine Ei (n:=92) ae aE λpc vv eH=>?_;refine bG (jY (ye (ye dK qs) ow) vv) ?_;refine Ei (n:=127) ae aE λsR No rG=>?_;refine bG (jY (ye (ye (ye dK qs) ow) vv) No) ?_;refine⟨λ_=>⟨bI,rfl,vn,aC,af,he.trans ar⟩,λaV=>?_⟩;obtain⟨Be,Ks⟩:=or_zero (BU aV);obtain⟨gp,rp⟩:=or_zero Be;obtain⟨oY,pT⟩:=or_zero gp;obtain⟨fC,j6⟩:=or_zero oY;have eb:=NT fC;have gS:=dz j6 eb;have o5:=cF pT eb;have Dz:=eH rp eb;have Jn:=rG Ks eb;have v8:oP D i0 (i0+bI)=oP D i0 (i0+bI+8):=VC λk aq=>by
   have bx:=eb k aq;have bH:=gS k aq;have cq:=o5 k aq;have dT:=Dz k aq;have e3:=Jn k aq;rw[iC k aq] at bx bH cq dT e3;exact aaF I (xC I I) I I
  exact a7 (U D-(bI+8)) _ _ I ⟨bI+8,rfl,I,I,al,he.trans ar,rfl⟩
 .rintro v cN ⟨bI,rfl,vn,g8,dN,iT⟩;have fX:=aM.ext iT;have f0:=@cu D (i0+bI);have two:∀n,ff D (i0+bI)=J n->g D (i0+bI)≠34->g D (i0+bI)≠92->N (ah (bI+n:Nat)) cN:=λn a bM oL=>by
   have:=lR a;exact a7 (U D-(bI+n)) _ _ I ⟨bI+n,rfl,I,I,by rw[<-gL,<-aaF I a bM oL];exact dN,iT,rfl⟩
  have bad:oP D i0 (i0+bI)=ab->∀i j u,bp b i j C u->j<=U D->∀s x,∀(aL:U s<=1000:=by first|decide|assumption),bD 51 [u,S s,x] cN λu h=>R (bA #[a5 ab 0 0,a5 ab 0 0,a5 ab 0 0,u]) h:=λa i j u hu aC s x aL=>
   gU hu aC λu ad ar er=>by rw[<-dN,a] at q;exact q _ _ _ _ _ (iT.trans ar) er
  refine dG (dI fX aa) (hA fX aa) ?_;with_reducible repeat' first|refine⟨?_,?_⟩|intro
  all_goals first
   |with_reducible exact two 1 (xC I I) I I
   |with_reducible exact two 1 (CB I) I I
   |with_reducible exact bad (aaD (v3 I I) I I) (i0+bI) (i0+bI+1) _ ck I _ _
   |with_reducible exact bad (aaD (EN I) I I) (U D) (U D) _ ck I _ _
   |skip
  .rename_i gP;rw[<-dN,oP,gbas,aA gP] at q;exact q I I _ _ _ _ iT ck ⟨b,bF rfl,bp.tY (i:=i0+1) (j:=i0+bI) ck fX I⟩ ck
  .rename_i jQ;refine aiK fX cI I I ?_;rw[<-dN,oP] at q;cases aX:gbas D (i0+bI) (ax (i0+1) (bf (i0+bI) D)) with
   |none=>
    rw[aX] at q;intro x y z e an aS er;refine aR ?_;exact q _ _ _ _ _ (iT.trans aS) er
   |some ym=>
    rw[aX] at q;intro a' hle x y z an aS s1 s2 dB;refine aR ?_;obtain⟨bb,kB,jU⟩:=s2;exact q a' hle _ _ _ _ (iT.trans aS) s1 ⟨bb,by rcases kB with kB|kB;exact bF kB;exact bt (dH iT.1 kB),jU⟩ dB
  .refine B8 (i0:=i0) fX cI g8 (λk cc cK df gB=>?_) λk cc cK df gB hj=>?_
   .have:=cc.lt I gB;refine aR ?_;exact a7 (U D-k) _ _ I ⟨k,rfl,I,df,by rw[<-dN];exact(aaE I cc).symm,iT,rfl⟩
   .refine aR ?_;exact bad (by rw[aaE I cc];exact E7 hj I I) (i0+k) (i0+(k+1)) _ ck I _ _
end
def a9(D:B)(i:Nat):Nat:=if h:i<U D/\(g D i=32\/g D i=9) then a9 D (i+1) else i
termination_by (U D)-i
def ki(D:B)(i:Nat):Nat:=
 if h:i<U D/\(g D i=32\/g D i=9\/g D i=10) then ki D (i+1) else if h:i<U D/\g D i=13/\g D (i+1)=10 then ki D (i+2) else i
termination_by (U D)-i
def qg(D:B)(i:Nat):Option Nat:=if g D (a9 D i)=10 then J (ki D (a9 D i+1)) else if g D (a9 D i)=13/\g D (a9 D i+1)=10 then J (ki D (a9 D i+2)) else ab
def o6:∀{i:Nat},i<=U D->i<=a9 D i/\a9 D i<=U D:=λ{i}=>by
 induction hm:U D-i using Nat.strongRecOn generalizing i with
 |ind m bR=>
  intro az;rw[a9];split
  .grind
  .omega
def agd:∀{i:Nat},i<=U D->i<=ki D i/\ki D i<=U D:=λ{i}=>by
 induction hm:U D-i using Nat.strongRecOn generalizing i with
 |ind m bR=>
  intro az;rw[ki];split
  .grind
  .split
   .have:=@cu D (i+1);grind
   .omega
def Me(az:i<=U D)(h:qg D i=J j):i<j/\j<=U D:=by
 unfold qg at h;have aa:=o6 az;have f0:=@cu D (a9 D i);have f1:=@cu D (a9 D i+1);split at h
 .cases h;have:=agd (D:=D) (i:=a9 D i+1) I;omega
 .split at h
  .cases h;have:=agd (D:=D) (i:=a9 D i+2) I;omega
  .cases h
def rn(c:Nat):Prop:=c=32\/c=9\/c=10\/c=13
instance(c:Nat):Decidable (rn c):=by unfold rn;infer_instance
def gmb(D:B)(i:Nat)(acc:B):Option (B×Nat):=
 if au:U D<=i then ab
 else if b5:g D i=34 then
  let n:=mcnt 34 (ax i D)
  if 3<=n then(if 5<n then ab else J (acc++ax i (bf (i+n-3) D),i+n)) else gmb D (i+n) (acc++ax i (bf (i+n) D))
 else if jQ:g D i=92 then
  if rn (g D (i+1)) then match aC:qg D (i+1) with
   |none=>ab
   |some j=>gmb D j acc
  else match he:jA D (i+1) with
   |none=>ab
   |J (t,j)=>gmb D j (acc++t)
 else if dh:g D i=10 then gmb D (i+1) (acc++ax i (bf (i+1) D))
 else if dx:g D i=13 then(if h:g D (i+1)=10 then gmb D (i+2) (acc++ax i (bf (i+2) D)) else ab)
 else match ay:ff D i with
  |none=>ab
  |some n=>gmb D (i+n) (acc++ax i (bf (i+n) D))
termination_by (U D)-i
decreasing_by
 .have:mcnt 34 (ax i D)=mcnt 34 (ax (i+1) D)+1:=by rw[wR aE,aA b5]
  omega
 .have:=Me I aC;omega
 .have:=y5 he;omega
 .omega
 .omega
 .have:=lR ay;omega
section
variable{D acc t:B}{i j n:Nat}
def CP(ay:ff D i=J n)(aa:g D i≠34)(ad:g D i≠92)(an:g D i≠10)(aT:g D i≠13):gmb D i acc=gmb D (i+n) (acc++ax i (bf (i+n) D)):=by
 have:=lR ay;rw[gmb,e8 I,e8 aa,e8 ad,e8 an,e8 aT];grind
def Mi(ay:ff D i=ab)(aa:g D i≠34)(ad:g D i≠92)(an:g D i≠10)(aT:g D i≠13):gmb D i acc=ab:=by
 by_cases au:U D<=i
 .rw[gmb,gw au]
 rw[gmb,e8 au,e8 aa,e8 ad,e8 an,e8 aT];grind
def RC(h:U D<=i):gmb D i acc=ab:=by rw[gmb,gw h]
def Rz(h:g D i=10):gmb D i acc=gmb D (i+1) (acc++ax i (bf (i+1) D)):=by
 have:=cu (D:=D) (i:=i) I;rw[gmb,e8 I,e8 I,e8 I,gw h]
def aaY(h:g D i=13)(h':g D (i+1)=10):gmb D i acc=gmb D (i+2) (acc++ax i (bf (i+2) D)):=by
 have:=cu (D:=D) (i:=i) I;rw[gmb,e8 I,e8 I,e8 I,e8 I,gw h,gw h']
def RA(h:g D i=13)(h':g D (i+1)≠10):gmb D i acc=ab:=by
 have:=cu (D:=D) (i:=i) I;rw[gmb,e8 I,e8 I,e8 I,e8 I,gw h,e8 h']
def RB(h:g D i=34)(aI:mcnt 34 (ax i D)=n):gmb D i acc=if 3<=n then(if 5<n then ab else J (acc++ax i (bf (i+n-3) D),i+n)) else gmb D (i+n) (acc++ax i (bf (i+n) D)):=by
 have:=cu (D:=D) (i:=i) I;rw[gmb,e8 I,gw h,<-aI]
def aa0(h:g D i=92)(hw:rn (g D (i+1)))(aC:qg D (i+1)=J j):gmb D i acc=gmb D j acc:=by
 have:=cu (D:=D) (i:=i) I;rw[gmb,e8 I,e8 I,gw h,aA hw];grind
def aa1(h:g D i=92)(hw:rn (g D (i+1)))(aC:qg D (i+1)=ab):gmb D i acc=ab:=by
 have:=cu (D:=D) (i:=i) I;rw[gmb,e8 I,e8 I,gw h,aA hw];grind
def aaZ(h:g D i=92)(hw:¬rn (g D (i+1)))(he:jA D (i+1)=J (t,j)):gmb D i acc=gmb D j (acc++t):=by
 have:=cu (D:=D) (i:=i) I;rw[gmb,e8 I,e8 I,gw h,ak hw];grind
def RD(h:g D i=92)(hw:¬rn (g D (i+1)))(he:jA D (i+1)=ab):gmb D i acc=ab:=by
 have:=cu (D:=D) (i:=i) I;rw[gmb,e8 I,e8 I,gw h,ak hw];grind
end
section
variable{h:H}{R k:K}{b C i i0 N r n:Nat}{v p u:ao}{D s:B}
def IY(a:B)(c:Nat):Prop:=∃m,m<U a/\c=g a m
def W9(aM:db h b D C)(aD:bp b i0 i1 C v)(ur:i1<=U D)(bE:U a<=100)(bq:∀k,i0+k<i1->IY a (g D (i0+k))->R (ah (k:Int)) h)(bw:(∀k,i0+k<i1->¬IY a (g D (i0+k)))->R (ah (-1)) h):bo 178 [v,S a] h R:=by
 apply alx;obtain⟨e,rfl,aa,ad,an,aT,e0,hlen⟩:=aD.fL aM;refine aR ?_;refine eV (λm u h'=>∃j:Nat,u=ah j/\j<=402/\(∀k,k<j->¬IY a (g D (i0+k)))/\h'=h/\m=402-j) _ ⟨0,rfl,I,λ_ h=>I,rfl,rfl⟩ ?_;rintro m d u h' N ⟨j,rfl,aC,fy,rfl,rfl⟩ a7;refine bG (dI aM aa) ?_;refine⟨λa'=>?_,λeg=>bw λk aq=>fy k I⟩;refine eV (λm u cN=>∃k:Nat,u=ah k/\k<=U a/\(∀t,t<k->g D (i0+j)≠g a t)/\cN=h'/\m=U a-k) _ ⟨0,rfl,I,λ_ h=>I,rfl,rfl⟩ ?_;rintro m d u cN xq ⟨k,rfl,aq,atX,rfl,rfl⟩ so;refine aR ?_;refine⟨λik=>⟨λhe=>bq j I ⟨k,ik,he⟩,λbk=>so _ _ _ I ⟨k+1,rfl,I,λt aP=>?_,rfl,rfl⟩⟩,λik=>a7 _ _ _ I ⟨j+1,rfl,I,λt aP=>?_,rfl,rfl⟩⟩
 .grind
 .by_cases e:t=j
  .subst e;rintro⟨x,ae,he⟩;grind
  grind
def avB(ay:IY [34,92] c):c=34\/c=92:=by
 obtain⟨m,hm,rfl⟩:=ay;match m,hm with
 |0,_=>exact bF rfl
 |1,_=>exact bt rfl
def bp.sub(aa:i0<C->e=i0)(an:U D<=C)(aT:e<=C)(au:i0+l<=U D)(bE:a=U D-i0-l):bp b (i0+l) (U D) C (a5 (J ⟨b,cX (C-i0) l e,ab⟩) a (C-i0-l)):=ck
def aiX(aM:db h b D C)(aD:bp b i0 (U D) C v)(az:i0+i<=U D)(bq:∀k,i<=k->i0+k<U D->R (ah (k:Int)) h)(bw:R (ah (-1)) h):bo 191 [v,ah (i:Int)] h R:=by
 apply alG;obtain⟨e,rfl,aa,ad,an,aT,e0,hlen⟩:=aD.fL aM;refine eV (λm u h'=>∃j:Nat,u=ah j/\i<=j/\i0+j<=U D/\h'=h/\m=U D-j) _ ⟨i,rfl,bQ _,az,rfl,rfl⟩ ?_;rintro m d u h' N ⟨j,rfl,eK,aC,rfl,rfl⟩ a7;refine aR ?_;refine W9 (i0:=i0+j) (i1:=U D) aM ck (bQ _) aE (λk aq ay=>?_) λ_=>?_
 .have ay:=avB ay;refine bG (dI aM aa) ?_;simp only[<-gL];refine⟨λjQ=>⟨λ_=>bw,λ_=>a7 _ _ _ I ⟨j+k+2,rfl,I,I,rfl,rfl⟩⟩,λjQ=>?_⟩;refine eV (λm u cN=>∃t:Nat,u=ah (j+k+t:Nat)/\i0+j+k+t<=U D/\(t=0->g D (i0+j+k+t)=34)/\cN=h'/\m=U D-t) _ ⟨0,rfl,I,λ_=>al,rfl,rfl⟩ ?_;rintro m d u cN xq ⟨t,rfl,aP,nI,rfl,rfl⟩ so;refine bG (dI aM aa) ?_;simp only[<-gL];with_reducible repeat' first|refine⟨?_,?_⟩|intro
  all_goals first
   |exact so _ _ _ I ⟨t+1,rfl,I,I,rfl,rfl⟩
   |grind
   |exact a7 _ _ _ I ⟨j+k+t,rfl,I,I,rfl,rfl⟩
 .have:bn fG (ah (-1)) (ah 0)=J (aQ ai):=awx;refine bG this ?_;exact bw
end
def DG(az:i<U D)(h:g D i=32\/g D i=9):a9 D i=a9 D (i+1):=by rw[a9,gw ⟨az,h⟩]
def Vv(h:i<U D->g D i≠32/\g D i≠9):a9 D i=i:=by rw[a9,e8 (λe=>I)]
def JF(az:i<U D)(h:g D i=32\/g D i=9\/g D i=10):ki D i=ki D (i+1):=by rw[ki,gw ⟨az,h⟩]
def agf(az:i<U D)(h:g D i=13)(h':g D (i+1)=10):ki D i=ki D (i+2):=by rw[ki,e8 I,gw ⟨az,h,h'⟩]
def Vw(h:i<U D->g D i≠32/\g D i≠9/\g D i≠10/\(g D i≠13\/g D (i+1)≠10)):ki D i=i:=by rw[ki,e8 (λe=>I),e8 (λe=>I)]
section
variable{h:H}{R k:K}{b C i i0 ep N r n j:Nat}{v p u:ao}{D s:B}
def g6(h:U D<=i):g D i=0:=by
 have:=@cu D i;omega
def azp{K:ao->H->Prop}{w:Nat}(aM:db h b D C)(aD:bp b i0 (U D) C v)(hw:i0+w<=U D)(q:K (ah ((ki D (i0+w)-i0:Nat):Int)) h):
 fD 1 (λuV=>iL 1 [(ah (w:Int))] h λGX _ ic h=>
 Pu (fb v) h λw7 h=>
 Pu (bn fG ic w7) h λie h=>
 a0 ie ai (λh k=>k v h) h λtG h=>
 a0 ie ai (λh k=>k ic h) h λuG h=>
 a0 ie ai (Pu (ia 1 tG uG)) h λw8 h=>
 a0 ie ai (cd w8) h λsO h=>
 a0 ie ai (Pu (bn cQ sO (bu 32))) h λr4 h=>
 a0 ie ai (λh k=>k r4 h) h λoz h=>
 a0 oz av (λh k=>k v h) h λw9 h=>
 a0 oz av (λh k=>k ic h) h λw_ h=>
 a0 oz av (Pu (ia 1 w9 w_)) h λre h=>
 a0 oz av (cd re) h λsP h=>
 a0 oz av (Pu (bn cQ sP (bu 9))) h λpO h=>
 a0 ie ai (Pu (pk oz (aQ ai) pO)) h λpP h=>
 a0 ie ai (λh k=>k pP h) h λpQ h=>
 a0 pQ av (λh k=>k v h) h λDU h=>
 a0 pQ av (λh k=>k ic h) h λJV h=>
 a0 pQ av (Pu (ia 1 DU JV)) h λJW h=>
 a0 pQ av (cd JW) h λJX h=>
 a0 pQ av (Pu (bn cQ JX (bu 10))) h λJY h=>
 a0 ie ai (Pu (pk pQ (aQ ai) JY)) h λGn h=>
 a0 ie ai (λh k=>k Gn h) h λrf h=>
 a0 rf av (λh k=>k v h) h λyr h=>
 a0 rf av (λh k=>k ic h) h λJZ h=>
 a0 rf av (Pu (ia 1 yr JZ)) h λJ0 h=>
 a0 rf av (cd J0) h λJ1 h=>
 a0 rf av (Pu (bn cQ J1 (bu 13))) h λJ2 h=>
 a0 ie ai (Pu (pk rf (aQ ai) J2)) h λJ3 h=>
 Pu (pk ie J3 (aQ av)) h λJ4 h=>
 b1 J4 (Pu (ia 1 v ic) h λBL h=>
 cd BL h λJ5 h=>
 Pu (bn cQ J5 (bu 13)) h λw' h=>
 b1 w' (Pu (bn .add ic (ah 1)) h λJ6 h=>
 Pu (fb v) h λJ7 h=>
 Pu (bn h0 J6 J7) h λrh h=>
 a0 rh av (λh k=>k v h) h λJ8 h=>
 a0 rh av (λh k=>k ic h) h λJ9 h=>
 a0 rh av (Pu (bn .add J9 (ah 1))) h λJ_ h=>
 a0 rh av (Pu (ia 1 J8 J_)) h λJ' h=>
 a0 rh av (cd J') h λKa h=>
 a0 rh av (Pu (bn hF Ka (bu 10))) h λKb h=>
 Pu (pk rh (aQ ai) Kb) h λKc h=>
 b1 Kc (uV ic h)<|
 Pu (bn .add ic (ah 1)) h λKd h=>
 Pu (bn .add Kd (ah 1)) h λGp h=>
 GX Gp h)<|
 Pu (bn .add ic (ah 1)) h λKe h=>
 GX Ke h)<|
 uV ic h) λ_ Gq h=>
 K Gq h:=by
 obtain⟨e,rfl,aa,ad,an,aT,e0,hlen⟩:=aD.fL aM;refine ll (λu an=>u=ah (ki D (i0+w)-i0:Nat)/\an=h) (λM cM=>?_) al;clear q;refine eV (λm u an=>∃k:Nat,u=ah k/\w<=k/\i0+k<=U D/\ki D (i0+k)=ki D (i0+w)/\an=h/\m=U D-k) _ ⟨w,rfl,bQ _,hw,rfl,rfl,rfl⟩ ?_;rintro m d u an Af ⟨cj,rfl,aFf,ik,acT,rfl,rfl⟩ rD;have Ul:ki D (i0+cj)=ki D (i0+cj+1)->cj<U D-i0->Af (ah (cj+1:Nat)) an:=λa bM=>rD (U D-(cj+1)) _ _ I ⟨cj+1,rfl,I,I,al,rfl,rfl⟩;have awM:g D (i0+cj)=13->g D (i0+cj+1)=10->cj+1<U D-i0->Af (ah (cj+1+1:Nat)) an:=λbx bH bM=>rD (U D-(cj+2)) _ _ I ⟨cj+1+1,rfl,I,I,by rw[<-acT,agf I bx bH,gL cj,gL i0 cj],rfl,rfl⟩;have stop:(i0+cj<U D->g D (i0+cj)≠32/\g D (i0+cj)≠9/\g D (i0+cj)≠10/\(g D (i0+cj)≠13\/g D (i0+cj+1)≠10))->M (ah cj) an:=λa=>cM _ _ ⟨by rw[<-acT,Vw a,(I:i0+cj-i0=cj)],rfl⟩;have azI:¬cj<U D-i0->M (ah cj) an:=λa=>stop λbM=>I
 have azH:¬g D (i0+cj)=32->¬g D (i0+cj)=9->¬g D (i0+cj)=10->¬g D (i0+cj)=13->M (ah cj) an:=λa b c d=>stop λ_=>⟨a,b,c,bF d⟩;have agu:g D (i0+cj)=13->¬g D (i0+cj+1)=10->M (ah cj) an:=λa b=>stop λ_=>⟨I,I,I,bt b⟩;have azG:g D (i0+cj)=13->U D-i0<=cj+1->M (ah cj) an:=λa b=>agu a (by rw[g6 I];decide);clear rD cM stop;refine bG (dI aM aa) ?_;simp only[<-gL];with_reducible repeat' first|refine⟨?_,?_⟩|intro
 all_goals first
  |with_reducible exact azI b8
  |with_reducible exact azH b8 b8 b8 b8
  |with_reducible exact agu b8 b8
  |with_reducible exact azG b8 b8
  |with_reducible exact awM b8 (BU b8) I
  |with_reducible exact Ul (JF I (bF b8)) b8
  |with_reducible exact Ul (JF I (bt (bF b8))) b8
  |with_reducible exact Ul (JF I (bt (bt b8))) b8
def avR{K:ao->H->Prop}(aM:db h b D C)(aD:bp b i0 (U D) C v)(aC:i0+j<U D)(aDP:1<=j)(bq:∀x,qg D (i0+j)=J x->K (ah ((x-i0:Nat):Int)) h)
 (bw:qg D (i0+j)=ab->∀e h',aB h h'->e2 h' b (U D) C e->R (bA #[a5 ab 0 0,a5 ab 0 0,a5 ab 0 0,e]) h'):
 iL 1 [(ah (j:Int))] h λsW _ kP h=>
 Pu (fb v) h λj3 h=>
 Pu (bn fG kP j3) h λld h=>
 a0 ld ai (λh k=>k v h) h λxa h=>
 a0 ld ai (λh k=>k kP h) h λr5 h=>
 a0 ld ai (Pu (ia 1 xa r5)) h λuH h=>
 a0 ld ai (cd uH) h λqz h=>
 a0 ld ai (Pu (bn cQ qz (bu 32))) h λmj h=>
 a0 ld ai (λh k=>k mj h) h λni h=>
 a0 ni av (λh k=>k v h) h λoB h=>
 a0 ni av (λh k=>k kP h) h λpb h=>
 a0 ni av (Pu (ia 1 oB pb)) h λiZ h=>
 a0 ni av (cd iZ) h λju h=>
 a0 ni av (Pu (bn cQ ju (bu 9))) h λoC h=>
 a0 ld ai (Pu (pk ni (aQ ai) oC)) h λnj h=>
 Pu (pk ld nj (aQ av)) h λl2 h=>
 b1 l2 (Pu (bn .add kP (ah 1)) h λko h=>
 sW ko h)<|
 fD 1 (λCa=>Pu (fb v) h λmN h=>
 Pu (bn fG kP mN) h λkQ h=>
 a0 kQ ai (λh k=>k v h) h λlg h=>
 a0 kQ ai (λh k=>k kP h) h λoa h=>
 a0 kQ ai (Pu (ia 1 lg oa)) h λnR h=>
 a0 kQ ai (cd nR) h λmO h=>
 a0 kQ ai (Pu (bn cQ mO (bu 13))) h λrk h=>
 Pu (pk kQ rk (aQ av)) h λpS h=>
 b1 pS (Pu (bn .add kP (ah 1)) h λrl h=>
 Ca rl h)<|
 Ca kP h) λ_ oD h=>
 Pu (fb v) h λrm h=>
 Pu (bn h0 oD rm) h λnk h=>
 a0 nk av (λh k=>k v h) h λml h=>
 a0 nk av (λh k=>k oD h) h λpN h=>
 a0 nk av (Pu (ia 1 ml pN)) h λo9 h=>
 a0 nk av (cd o9) h λr2 h=>
 a0 nk av (Pu (bn hF r2 (bu 10))) h λvC h=>
 Pu (pk nk (aQ ai) vC) h λuE h=>
 b1 uE (Pu (bn .sub (ah (j:Int)) (ah 1)) h λzR h=>
 Pu (bn .add (ah (j:Int)) (ah 1)) h λuF h=>
 Pu (sl 1 v (J zR) (J uF) ab) h λr3 h=>
 Pu (ia 1 v (ah (j:Int))) h λyq h=>
 cd yq h λzS h=>
 ew 20 1 (Z 20) [(0,1,(cW 5 zS))] h λzT h=>
 bD 51 [r3,(fo ⟨#[105,110,118,97,108,105,100,32,101,115,99,97,112,101,32,99,104,97,114,97,99,116,101,114,32,37,35,85]⟩),zT] h λDS h=>
 R (bA #[(a5 ab 0 0),(a5 ab 0 0),(a5 ab 0 0),DS]) h)<|
 Pu (bn .add oD (ah 1)) h λDT h=>
 fD 1 (λuV=>iL 1 [DT] h λGX _ ic h=>
 Pu (fb v) h λw7 h=>
 Pu (bn fG ic w7) h λie h=>
 a0 ie ai (λh k=>k v h) h λtG h=>
 a0 ie ai (λh k=>k ic h) h λuG h=>
 a0 ie ai (Pu (ia 1 tG uG)) h λw8 h=>
 a0 ie ai (cd w8) h λsO h=>
 a0 ie ai (Pu (bn cQ sO (bu 32))) h λr4 h=>
 a0 ie ai (λh k=>k r4 h) h λoz h=>
 a0 oz av (λh k=>k v h) h λw9 h=>
 a0 oz av (λh k=>k ic h) h λw_ h=>
 a0 oz av (Pu (ia 1 w9 w_)) h λre h=>
 a0 oz av (cd re) h λsP h=>
 a0 oz av (Pu (bn cQ sP (bu 9))) h λpO h=>
 a0 ie ai (Pu (pk oz (aQ ai) pO)) h λpP h=>
 a0 ie ai (λh k=>k pP h) h λpQ h=>
 a0 pQ av (λh k=>k v h) h λDU h=>
 a0 pQ av (λh k=>k ic h) h λJV h=>
 a0 pQ av (Pu (ia 1 DU JV)) h λJW h=>
 a0 pQ av (cd JW) h λJX h=>
 a0 pQ av (Pu (bn cQ JX (bu 10))) h λJY h=>
 a0 ie ai (Pu (pk pQ (aQ ai) JY)) h λGn h=>
 a0 ie ai (λh k=>k Gn h) h λrf h=>
 a0 rf av (λh k=>k v h) h λyr h=>
 a0 rf av (λh k=>k ic h) h λJZ h=>
 a0 rf av (Pu (ia 1 yr JZ)) h λJ0 h=>
 a0 rf av (cd J0) h λJ1 h=>
 a0 rf av (Pu (bn cQ J1 (bu 13))) h λJ2 h=>
 a0 ie ai (Pu (pk rf (aQ ai) J2)) h λJ3 h=>
 Pu (pk ie J3 (aQ av)) h λJ4 h=>
 b1 J4 (Pu (ia 1 v ic) h λBL h=>
 cd BL h λJ5 h=>
 Pu (bn cQ J5 (bu 13)) h λw' h=>
 b1 w' (Pu (bn .add ic (ah 1)) h λJ6 h=>
 Pu (fb v) h λJ7 h=>
 Pu (bn h0 J6 J7) h λrh h=>
 a0 rh av (λh k=>k v h) h λJ8 h=>
 a0 rh av (λh k=>k ic h) h λJ9 h=>
 a0 rh av (Pu (bn .add J9 (ah 1))) h λJ_ h=>
 a0 rh av (Pu (ia 1 J8 J_)) h λJ' h=>
 a0 rh av (cd J') h λKa h=>
 a0 rh av (Pu (bn hF Ka (bu 10))) h λKb h=>
 Pu (pk rh (aQ ai) Kb) h λKc h=>
 b1 Kc (uV ic h)<|
 Pu (bn .add ic (ah 1)) h λKd h=>
 Pu (bn .add Kd (ah 1)) h λGp h=>
 GX Gp h)<|
 Pu (bn .add ic (ah 1)) h λKe h=>
 GX Ke h)<|
 uV ic h) λ_ Gq h=>
 K Gq h:=by
 have cI:=aD;obtain⟨e,rfl,aa,ad,an,aT,e0,hlen⟩:=aD.fL aM;refine eV (λm u cN=>∃k:Nat,u=ah k/\j<=k/\i0+k<=U D/\a9 D (i0+k)=a9 D (i0+j)/\cN=h/\m=U D-k) _ ⟨j,rfl,bQ _,I,rfl,rfl,rfl⟩ ?_;rintro m d u cN N ⟨k,rfl,Fs,aq,wG,rfl,rfl⟩ a7;have more:k<U D-i0->(g D (i0+k)=32\/g D (i0+k)=9)->N (ah (k+1:Nat)) cN:=λa bM=>a7 (U D-(k+1)) _ _ I ⟨k+1,rfl,I,I,by rw[<-wG,DG I bM,gL],rfl,rfl⟩;have aqH:a9 D (i0+k)=i0+k->qg D (i0+j)=(if g D (i0+k)=10 then J (ki D (i0+k+1)) else if g D (i0+k)=13/\g D (i0+k+1)=10 then J (ki D (i0+k+2)) else ab):=λa=>by unfold qg;rw[<-wG,a]
 have rest:a9 D (i0+k)=i0+k->∀w:Nat,((g D (i0+k)=13/\w=k+1)\/(g D (i0+k)≠13/\w=k))->(g D (i0+w)=10->qg D (i0+j)=J (ki D (i0+w+1)))/\(g D (i0+w)≠10->qg D (i0+j)=ab):=λa w vu=>by
  grind
 clear a7 aqH;refine bG (dI aM aa) ?_;with_reducible repeat' first|refine⟨?_,?_⟩|intro
 all_goals first
  |with_reducible exact more b8 (bF b8)
  |with_reducible exact more b8 (bt b8)
  |skip
 all_goals
  have e_:a9 D (i0+k)=i0+k:=Vv I;have rest:=rest e_;clear more e_;refine ll (λu an=>∃w:Nat,u=ah w/\j<=w/\i0+w<=U D/\((g D (i0+k)=13/\w=k+1)\/(g D (i0+k)≠13/\w=k))/\an=cN) (λM cM=>?_) ?_
  .clear rest;refine bG (dI aM aa) ?_;with_reducible repeat' first|refine⟨?_,?_⟩|intro
   all_goals first
    |exact cM _ _ ⟨k+1,rfl,I,I,bF ⟨b8,rfl⟩,rfl⟩
    |exact cM _ _ ⟨k,rfl,I,I,bt ⟨b8,rfl⟩,rfl⟩
    |exact cM _ _ ⟨k,rfl,I,I,bt ⟨by rw[g6 I];decide,rfl⟩,rfl⟩
  rintro _ AK ⟨w,rfl,aEB,au9,vu,rfl⟩;obtain⟨aaO,aaP⟩:=rest w vu;clear rest vu;have err:g D (i0+w)≠10->∀x u,bp b (i0+(j-1)) (i0+(j+1)) C u->cellsL x=[x]->∀s,∀(aL:U s<=1000:=by first|decide|assumption),ew 20 1 (Z 20) [(0,1,x)] AK λzT h=>bD 51 [u,S s,zT] h λv h=>R (bA #[a5 ab 0 0,a5 ab 0 0,a5 ab 0 0,v]) h:=λa x u hu ae s aL=>by
   rw[pn oJ rfl ae];exact gU (N:=U D) hu I λw ad ar er=>bw (aaP a) _ _ ((aB.push _ _).trans ar) er
  have go:i0+w<U D->g D (i0+w)=10->K (ah ((ki D (i0+(w+1))-i0:Nat):Int)) AK:=λa bM=>bq _ (aaO bM);clear bq bw aaO aaP;refine bG (dI aM aa) ?_;with_reducible repeat' first|refine⟨?_,?_⟩|intro
  all_goals first
   |with_reducible exact err b8 _ _ ck rfl _
   |with_reducible exact err (by rw[g6 I];decide) _ _ ck rfl _
   |exact azp (w:=w+1) aM cI I (go I (BU b8))
end
section
variable{h:H}{R k:K}{b C i i0 ep N r n:Nat}{v p u:ao}{D s:B}
def aiJ(aM:db h b D C)(aD:bp b i0 (U D) C v)(az:i0+i<U D)(aDS:3<=ep)(AS:ep<=i)(q:StrQ (gmb D (i0+i) (ax (i0+ep) (bf (i0+i) D))) h b (U D) C i0 R):bo 170 [p,v,ah (ep:Int),ah (i:Int)] h R:=by
 apply alo;have cI:=aD;obtain⟨e,rfl,aa,ad,an,aT,e0,hlen⟩:=aD.fL aM;refine aR ?_;refine ll (λu h'=>∃jO:Nat,u=ah jO/\i-ep<=jO/\jO<=402/\h'=h) (λM cM=>?_) ?_
 .refine aR ?_;refine aiX aM cI I (λk aq ik=>?_) ?_
  .refine aR ?_;grind
  .have:bn h0 (ah (-1)) (ah 0)=J (aQ av):=rfl;refine bG this ?_;grind
 rintro _ _ ⟨jO,rfl,gH,j',rfl⟩;rename_i h;refine aR ?_;refine aek (i:=i0+ep) (j:=i0+i) I aM ck I I I I λx xJ aw dz=>?_;refine jn (λm w t h'=>∃(j:Nat) (acc:B) (r:Nat),w=ah j/\i<=j/\i0+j<=U D/\aB h h'/\ag h<=r/\oc h' t acc r/\U acc<=4*j/\gmb D (i0+j) acc=gmb D (i0+i) (ax (i0+ep) (bf (i0+i) D))/\m=U D-j) _ ⟨i,_,ag h,rfl,bQ _,I,aw,bQ _,dz,al,rfl,rfl⟩ ?_;rintro m d w t h' N ⟨j,acc,r,rfl,eK,aC,he,aF,sq,xM,af,rfl⟩ a7;have fX:=aM.ext he;have piece:∀t (k:Nat),0<k->i0+j+k<=U D->U t<=4*k->gmb D (i0+j) acc=gmb D (i0+j+k) (acc++t)->∀{K:K},(∀v cN,N (ah (j+k:Nat)) v cN->K v cN)->yC h' r (acc++t) K:=λt k aq ik aP aX K cE v cN cC aS fh dN=>
  cE v cN (a7 (U D-(j+k)) _ _ _ I ⟨j+k,acc++t,cC,rfl,I,I,bV.fe he aS (λx ae=>al),by have:=he.1;omega,dN,al,al,rfl⟩)
 have bad:gmb D (i0+j) acc=ab->∀i j u,bp b i j C u->j<=U D->∀s x,∀(aL:U s<=1000:=by first|decide|assumption),bD 51 [u,S s,x] h' λu h=>R (bA #[a5 ab 0 0,a5 ab 0 0,a5 ab 0 0,u]) h:=λa i j u hu aC s x aL=>
  gU hu aC λu ad ar er=>by rw[<-af,a] at q;exact q _ _ _ _ _ (he.trans ar) er
 have n9:i0+j<U D->ax (i0+j) (bf (i0+j+1) D)=[UInt8.ofNat (g D (i0+j))]:=λau=>by
  rw[BW,nt au,(I:i0+j+1-(i0+j)=1),fu au];simp only[ahE,Wv,ahJ]
 have F_:∀c:Nat,c=g D (i0+j)->i0+j<U D->gmb D (i0+j) acc=gmb D (i0+j+1) (acc++ax (i0+j) (bf (i0+j+1) D))->ew 5 1 (Z 5) [(0,1,bu c)] h' λkj h=>Ap 5 1 1 (Z 5) t kj h λme h=>N (ah (j+1:Nat)) me h:=λc ay au aX=>by
  subst ay;rw[n9 au] at aX;exact Hf sq (dZ _ _) I (piece [UInt8.ofNat (g D (i0+j))] 1 I I a1 aX λ_ _ h=>h)
 have part:∀k,j<k->i0+k<=U D->gmb D (i0+j) acc=gmb D (i0+k) (acc++ax (i0+j) (bf (i0+k) D))->∀u,bp b (i0+j) (i0+k) C u->Ap 5 1 1 (Z 5) t u h' λmi h=>N (ah k) mi h:=λk aq ik aX u k1=>by
  obtain⟨arr,bE,jS⟩:=JD fX k1 ik;have jV:=Jo (i:=i0+j) ik;refine Lq (M:=ax (i0+j) (bf (i0+k) D)) (arr:=arr) sq (by rw[jV];exact Vz k1) al jS I ?_;have:=piece (ax (i0+j) (bf (i0+k) D)) (k-j) I I I (by rw[(I:i0+j+(k-j)=i0+k)];exact aX) (K:=λmi h=>N (ah k) mi h);grind
 have f0:=@cu D (i0+j);have f1:=@cu D (i0+j+1);refine aR ?_;refine⟨λa'=>Eo ?_,λeg=>?_⟩
 .refine bG (dI fX aa) ?_;simp only[<-gL];with_reducible repeat' first|refine⟨?_,?_⟩|intro
  all_goals first
   |with_reducible exact F_ _ rfl I (CP (xC I I) I I I I)
   |with_reducible exact bad (Mi (v3 I I) I I I I) (i0+j) (i0+j+1) _ ck I _ _
   |with_reducible exact bad (RA I I) (i0+j) (i0+j+1) _ ck I _ _
   |with_reducible exact bad (RD I (by unfold rn;omega) (aaL I)) (i0+(j+1-1)) (U D) _ ck I _ _
   |skip
  ·
   rename_i b5;refine eV (λm u cN=>∃k:Nat,u=ah (j+k:Nat)/\i0+j+k<=U D/\k+mcnt 34 (ax (i0+j+k) D)=mcnt 34 (ax (i0+j) D)/\cN=h'/\m=U D-k) _ ⟨0,rfl,I,a1,rfl,rfl⟩ ?_;rintro m d u cN xq ⟨k,rfl,aq,hm,rfl,rfl⟩ so;have tf:=wR (D:=D) (j:=i0+j+k) (m:=34) aE;have fin:g D (i0+j+k)≠34->mcnt 34 (ax (i0+j) D)=k:=λa=>al
   have jb:g D (i0+j+k)≠34->1<=k:=λa=>by
    rcases zZ k with rfl|aq
    .grind
    .exact aq
   have more:g D (i0+j+k)=34->i0+j+k<U D->xq (ah (j+k+1:Nat)) cN:=λa bM=>so (U D-(k+1)) _ _ I ⟨k+1,rfl,I,al,rfl,rfl⟩;have f2:=@cu D (i0+j+k);have CI:g D (i0+j+k)≠34->gmb D (i0+j) acc=if 3<=k then(if 5<k then ab else J (acc++ax (i0+j) (bf (i0+j+k-3) D),i0+j+k)) else gmb D (i0+j+k) (acc++ax (i0+j) (bf (i0+j+k) D)):=λa=>RB b5 (fin a);have last:g D (i0+j+k)≠34->3<=k->¬5<k->∀u,bp b (i0+j) (i0+j+k-3) C u->∀x z,bp b i0 (i0+j+k) C x->bp b (i0+j+k) (U D) C z->Ap 5 1 1 (Z 5) t u cN λv h=>R (bA #[x,v,z,cR]) h:=λa arq art u k1 x z ae aV=>by
    obtain⟨arr,bE,jS⟩:=JD fX k1 I;have jV:=Jo (D:=D) (i:=i0+j) (j:=i0+j+k-3) I;refine Lq (M:=ax (i0+j) (bf (i0+j+k-3) D)) (arr:=arr) sq (by rw[jV];exact Vz k1) al jS I λv an df aS lX eH=>?_;rw[<-af,CI a,aA arq,ak art] at q;exact q I I _ _ _ _ (bV.fe he aS (λx ae=>al)) ae ⟨df,bt (by have:=he.1;omega),eH.tY⟩ aV
   refine bG (dI fX aa) ?_;simp only[<-gL];with_reducible repeat' first|refine⟨?_,?_⟩|intro
   all_goals first
    |with_reducible exact more I I
    |with_reducible exact bad (by rw[CI I,aA I,aA I]) (i0+j) (i0+j+k) _ ck I _ _
    |with_reducible exact last I I I _ ck _ _ ck ck
    |with_reducible exact part (j+k) (by have:=jb I;omega) I (by rw[CI I,ak I,<-gL]) _ ck
  iterate 4
   .have hw:rn (g D (i0+j+1)):=by unfold rn;omega
    have jQ:g D (i0+j)=92:=b8
    refine avR (j:=j+1) (K:=λv h=>N v t h) fX cI I I (λx ae=>?_) λae e ad ar er=>?_
    .rw[<-gL] at ae;have Fm:=Me I ae;exact a7 (U D-(x-i0)) _ _ _ I ⟨x-i0,acc,r,rfl,I,I,he,aF,sq,I,by rw[(I:i0+(x-i0)=x),<-aa0 jQ hw ae];exact af,rfl⟩
    .rw[<-gL] at ae;rw[<-af,aa1 jQ hw ae] at q;exact q _ _ _ _ _ (he.trans ar) er
  .have hw:¬rn (g D (i0+j+1)):=by unfold rn;omega
   have jQ:g D (i0+j)=92:=b8
   refine Xa fX cI I I sq I ?_;rw[<-gL];cases aX:jA D (i0+j+1) with
   |none=>
    intro x y z an aS er;have:=gW er;refine bG this ?_;rw[<-af,RD jQ hw aX] at q;exact q _ _ _ _ _ (he.trans aS) er
   |some VH=>
    obtain⟨eO,bI⟩:=VH;intro v an df aS lX eH;have Fm:=y5 aX;refine aR ?_;exact a7 (U D-(bI-i0)) _ _ _ I ⟨bI-i0,acc++eO,df,rfl,I,I,bV.fe he aS (λx ae=>al),by have:=he.1;omega,eH,al,by rw[(I:i0+(bI-i0)=bI),<-aaZ jQ hw aX];exact af,rfl⟩
  .refine B8 (i0:=i0) fX cI I (λk cc cK df gB=>?_) λk cc cK df gB hj=>?_
   .have aq:=cc.lt I gB;have aX:=cc.acc (f:=gmb D) (λi n acc a bM=>CP bM I I I I) acc;refine aR ?_;exact part k I df aX _ ck
   .have aX:=cc.acc (f:=gmb D) (λi n acc a bM=>CP bM I I I I) acc;refine aR ?_;exact bad (by rw[aX];exact Mi hj I I I I) (i0+j) (i0+(j+1)) _ ck I _ _
  .exact F_ 9 I I (CP (CB I) I I I I)
  .exact F_ 10 I I (Rz I)
  .have dx:g D (i0+j)=13:=b8
   have dh:g D (i0+j+1)=10:=b8
   have fF:=cu (D:=D) (i:=i0+j+1) I;have ar:ax (i0+j) (bf (i0+j+2) D)=[UInt8.ofNat 13,UInt8.ofNat 10]:=by
    rw[BW,nt I,nt fF,(I:i0+j+2-(i0+j)=2)];simp only[ahE,Wv];rw[<-dx,<-dh,fu I,fu fF,ahJ,ahJ]
   have aX:=aaY (acc:=acc) dx dh;rw[ar] at aX;rw[WL rfl rfl];exact Hg sq rfl (by simp;omega) (piece _ 2 I I a1 aX λ_ _ h=>h) rfl
 .exact bad (RC I) (U D) (U D) _ ck I _ _
end
section
variable{h:H}{R k:K}{b C i i0 ep N r n:Nat}{v p u:ao}{D s:B}
def lv(D:B)(c j:Nat):Option (B×Nat):=gmb D j (ax c (bf j D))
def aaX(aC:c<=j)(ay:ff D j=J n)(aa:g D j≠34)(ad:g D j≠92)(an:g D j≠10)(aT:g D j≠13):lv D c j=lv D c (j+n):=by
 unfold lv;rw[CP ay aa ad an aT,zM aC I]
def aqO(aC:c<=j)(aa:g D j=10):lv D c j=lv D c (j+1):=by
 unfold lv;rw[Rz aa,zM aC I]
def aqP(aC:c<=j)(aa:g D j=13)(ad:g D (j+1)=10):lv D c j=lv D c (j+2):=by
 unfold lv;rw[aaY aa ad,zM aC I]
def aaW{c j k:Nat}(aC:c<=j)(r:pw D k j):lv D c j=lv D c k:=by
 unfold lv;rw[r.acc (f:=gmb D) (λi n acc a bM=>CP bM I I I I),zM aC r.le]
def aaV(ay:ff D j=ab)(aa:g D j≠34)(ad:g D j≠92)(an:g D j≠10)(aT:g D j≠13):lv D c j=ab:=Mi ay aa ad an aT
def aqQ(aa:g D j=13)(ad:g D (j+1)≠10):lv D c j=ab:=RA aa ad
def aqS(aa:U D<=j):lv D c j=ab:=RC aa
def aqR(aC:c<=j)(h:g D j=34)(aI:mcnt 34 (ax j D)=n):lv D c j=if 3<=n then(if 5<n then ab else J (ax c (bf (j+n-3) D),j+n)) else lv D c (j+n):=by
 unfold lv;rw[RB h aI];split
 .split
  .rfl
  .rw[zM aC I]
 .rw[zM aC I]
def aqN:lv D c c=gmb D c []:=by
 unfold lv;rw[iu (by simp;omega)]
def WZ(aM:db h b D C)(aD:bp b i0 (U D) C v)(az:i0+3<=U D)(q:StrQ (gmb D (iU D (i0+3)) []) h b (U D) C i0 R):bo 144 [p,v] h R:=by
 apply akW;have cI:=aD;obtain⟨e,rfl,aa,ad,an,aT,e0,hlen⟩:=aD.fL aM;have Ha:bn .add (ah 3) (ah 1)=J (ah 4):=qL (a:=3) (b:=1) aE;have G':bn .add (ah 3) (ah 2)=J (ah 5):=qL (a:=3) (b:=2) aE;refine ll (λu h'=>∃ep:Nat,u=ah ep/\i0+ep=iU D (i0+3)/\h'=h) (λM cM=>?_) ?_
 .have f:=@cu D (i0+3);have bm:=@cu D (i0+4);refine i_ (dI aM aa) (hA aM aa) Ha G' ?_;with_reducible repeat' first|refine⟨?_,?_⟩|intro
  all_goals first
   |exact cM _ _ ⟨3,rfl,by unfold iU;rw[ak I,ak (by simp only[gL,Nat.reduceAdd] at*;omega)],rfl⟩
   |exact cM _ _ ⟨4,rfl,by unfold iU;rw[aA I],rfl⟩
   |exact cM _ _ ⟨5,rfl,by unfold iU;rw[ak I,aA al],rfl⟩
 rintro v cN ⟨ep,rfl,hL,rfl⟩;have kX:=aeJ az;rw[<-hL] at q kX;rw[<-aqN] at q;clear hL Ha G';refine eV (λm u h'=>∃j:Nat,u=ah j/\ep<=j/\i0+j<=U D/\lv D (i0+ep) (i0+j)=lv D (i0+ep) (i0+ep)/\h'=cN/\m=U D-j) _ ⟨ep,rfl,bQ _,I,rfl,rfl,rfl⟩ ?_;rintro m d u h' N ⟨j,rfl,eK,aC,af,rfl,rfl⟩ a7;rw[<-af] at q;have two:∀n,lv D (i0+ep) (i0+j)=lv D (i0+ep) (i0+j+n)->0<n->i0+j+n<=U D->N (ah (j+n:Nat)) h':=λn a bM oL=>
  a7 (U D-(j+n)) _ _ I ⟨j+n,rfl,I,I,al,rfl,rfl⟩
 have bad:lv D (i0+ep) (i0+j)=ab->∀i j u,bp b i j C u->j<=U D->∀s x,∀(aL:U s<=1000:=by first|decide|assumption),bD 51 [u,S s,x] h' λu h=>R (bA #[a5 ab 0 0,a5 ab 0 0,a5 ab 0 0,u]) h:=λa i j u hu aC s x aL=>
  gU hu aC λu ad ar er=>by rw[a] at q;exact q _ _ _ _ _ ar er
 have ct:=@cu D (i0+j+1);refine dG (dI aM aa) (hA aM aa) ?_;simp only[<-gL];with_reducible repeat' first|refine⟨?_,?_⟩|intro
 all_goals first
  |with_reducible exact two 1 (aaX I (xC I I) I I I I) I I
  |with_reducible exact two 1 (aaX I (CB I) I I I I) I I
  |with_reducible exact two 1 (aqO I I) I I
  |with_reducible exact two 2 (aqP I I I) I I
  |with_reducible exact bad (aaV (v3 I I) I I I I) (i0+j) (i0+j+1) _ ck I _ _
  |with_reducible exact bad (aqQ I I) (i0+j) (i0+j+1) _ ck I _ _
  |with_reducible exact bad (aqS I) (U D) (U D) _ ck I _ _
  |skip
 ·
  rename_i a' b5;refine eV (λm u cN=>∃k:Nat,u=ah (j+k:Nat)/\i0+j+k<=U D/\k+mcnt 34 (ax (i0+j+k) D)=mcnt 34 (ax (i0+j) D)/\cN=h'/\m=U D-k) _ ⟨0,rfl,I,a1,rfl,rfl⟩ ?_;rintro m d u cN xq ⟨k,rfl,aq,hm,rfl,rfl⟩ so;have tf:=wR (D:=D) (j:=i0+j+k) (m:=34) aE;have fin:g D (i0+j+k)≠34->mcnt 34 (ax (i0+j) D)=k:=λa=>al
  have jb:g D (i0+j+k)≠34->0<k:=λa=>by
   rcases zZ k with rfl|aq
   .grind
   .exact aq
  have more:g D (i0+j+k)=34->i0+j+k<U D->xq (ah (j+k+1:Nat)) cN:=λa bM=>so (U D-(k+1)) _ _ I ⟨k+1,rfl,I,al,rfl,rfl⟩;have f0:=@cu D (i0+j+k);have CI:g D (i0+j+k)≠34->lv D (i0+ep) (i0+j)=if 3<=k then(if 5<k then ab else J (ax (i0+ep) (bf (i0+j+k-3) D),i0+j+k)) else lv D (i0+ep) (i0+j+k):=λa=>aqR I b5 (fin a);have last:g D (i0+j+k)≠34->3<=k->¬5<k->∀x y z,bp b i0 (i0+j+k) C x->bp b (i0+ep) (i0+j+k-3) C y->bp b (i0+j+k) (U D) C z->R (bA #[x,y,z,cR]) cN:=λa bx bH x y z ae a2 aV=>by
   rw[CI a,aA bx,ak bH] at q;exact q I I _ _ _ _ (aB.refl _) ae ⟨b,bF rfl,a2.tY aM I⟩ aV
  clear ct;refine dG (dI aM aa) (hA aM aa) ?_;simp only[<-gL];with_reducible repeat' first|refine⟨?_,?_⟩|intro
  all_goals first
   |with_reducible exact more I I
   |with_reducible exact bad (by rw[CI I,aA I,aA I]) (i0+j) (i0+j+k) _ ck I _ _
   |with_reducible exact last I I I _ _ _ ck ck ck
   |with_reducible exact two k (by rw[CI I,ak I]) (jb I) I
 .refine aiJ aM cI I I eK ?_;unfold lv at q;cases aX:gmb D (i0+j) (ax (i0+ep) (bf (i0+j) D)) with
  |none=>
   rw[aX] at q;intro x y z e an aS er;refine aR ?_;exact q _ _ _ _ _ aS er
  |some ym=>
   rw[aX] at q;intro a' hle x y z an aS s1 s2 dB;refine aR ?_;exact q a' hle _ _ _ _ aS s1 s2 dB
 .refine B8 (i0:=i0) aM ⟨e,rfl,aa,ad,an,aT⟩ aC (λk cc cK df gB=>?_) λk cc cK df gB hj=>?_
  .have:=cc.lt I gB;refine aR ?_;exact a7 (U D-k) _ _ I ⟨k,rfl,I,df,by rw[<-af];exact(aaW I cc).symm,rfl,rfl⟩
  .refine aR ?_;exact bad (by rw[aaW I cc];exact aaV hj I I I I) (i0+k) (i0+(k+1)) _ ck I _ _
end
def oQ(D:B)(i:Nat):Option Nat:=if U D<=i then J i else if g D i=10 then J (i+1) else if g D i=13/\g D (i+1)=10 then J (i+2) else ab
def gfin(D:B)(i:Nat):Option Nat:=if g D (a9 D i)=35 then(match gcom D (a9 D i+1) with|some j=>oQ D j|none=>ab) else oQ D (a9 D i)
def HP(az:i<=U D)(h:oQ D i=J j):i<=j/\j<=U D:=by
 have aa:=@cu D i;have ad:=@cu D (i+1);unfold oQ at h;grind
def HM:∀{i:Nat},i<=U D->gcom D i=J j->i<=j/\j<=U D:=λ{i}=>by
 induction hm:U D-i using Nat.strongRecOn generalizing i with
 |ind m bR=>
  intro az h;rw[gcom] at h;split at h
  .grind
  .split at h
   .grind
   .split at h
    .grind
    .split at h
     .cases h
     .rename_i n ay;have:=lR ay;grind
def o7{D:B}:∀{i:Nat},ax (a9 D i) D=blanks (ax i D):=λ{i}=>by
 induction hm:U D-i using Nat.strongRecOn generalizing i with
 |ind m bR=>
  rw[a9];split
  .rename_i h;rw[bR (U D-(i+1)) I rfl,Qk h.2]
  .rename_i h;rcases jw i (U D) with au|au
   .exact(Qj I I).symm
   .rw[iu au];rfl
section
variable{h:H}{R k:K}{b C i i0 N r n c:Nat}{v p u fn b_ cp:ao}{D s:B}
def apn(az:i<=U D)(aC:j<=U D)(h:ax i D=ax j D):i=j:=by
 simp_all
def Eh(aM:db h b D C)(aD:bp b i (U D) C v)(q:∀ch,bp b (a9 D i) (U D) C ch->R ch h):bo 50 [v] h R:=
 ajt aM aD λj ch aa ad an=>by
  have az:i<=U D:=by obtain⟨e,_,_,h,_⟩:=aD;exact h
  have aC:j<=U D:=by obtain⟨e,_,_,h,_⟩:=ad;exact h
  have:j=a9 D i:=apn aC (o6 az).2 (an.trans o7.symm);grind
def B3(aM:db h b D C)(aD:bp b i (U D) C v)(q:∀ch,bp b (a9 D i) (U D) C ch->R ch h):bo 126 [v] h R:=by
 have:=Eh (R:=R) aM aD q;apply akD;have az:i<=U D:=by obtain⟨e,_,_,h,_⟩:=aD;exact h
 refine eV (λm ch h'=>∃j,i<=j/\bp b j (U D) C ch/\a9 D j=a9 D i/\h'=h/\m=U D-j) (U D-i) ⟨i,bQ _,aD,rfl,rfl,rfl⟩ ?_;rintro m d ch h' N ⟨j,eK,k2,af,rfl,rfl⟩ a7;obtain⟨e,rfl,aa,ad,an⟩:=k2;have au:=aM.mH;have step:j<U D->(g D j=32\/g D j=9)->N (a5 (J ⟨b,cX (C-j) 1 e,ab⟩) (U D-j-1) (C-j-1)) h':=λa' ay=>
  a7 (U D-(j+1)) _ _ I ⟨j+1,I,bp.of I I ⟨λ_=>by unfold cX;grind,I,I,by unfold cX;grind⟩,by rw[<-DG a' ay];exact af,rfl,rfl⟩
 have fin:(j<U D->g D j≠32/\g D j≠9)->R (a5 (J ⟨b,e,ab⟩) (U D-j) (C-j)) h':=λay=>by
  have aw:=Vv ay;rw[af] at aw;exact q _ (by rw[aw];exact⟨e,rfl,aa,ad,an⟩)
 clear a7;refine dG (dI aM aa) (hA aM aa) ?_;with_reducible repeat' first|refine⟨?_,?_⟩|intro
 all_goals grind
def Xo(aD:bp b i (U D) C v)(Fc:C<9223372036854775808)(q:∀u j,bp b i j C u->j<=U D->R u h):bo 70 [v] h R:=by
 apply amG;obtain⟨e,rfl,aa,ad,an,aT⟩:=aD;refine aR ?_;exact⟨λau=>q _ (i+1) ck I,λau=>q _ (U D) ck I⟩
def W8(aD:bp b i (U D) C v)(Fc:C<9223372036854775808)(q:∀u j,bp b i j C u->j<=U D->R u h):bo 177 [v] h R:=by
 apply alw;obtain⟨e,rfl,aa,ad,an,aT⟩:=aD;refine aR ?_;exact⟨λau=>q _ (i+1) ck I,λau=>q _ (U D) ck I⟩
def Ps(aM:db h b D C)(aD:bp b i (U D) C v)(bq:∀j x,oQ D i=J j->bp b j (U D) C x->R (bA #[x,cR]) h) (bw:oQ D i=ab->∀x e h',aB h h'->e2 h' b (U D) C e->R (bA #[x,e]) h'):bo 53 [v] h R:=by
 apply amq;obtain⟨e,rfl,aa,ad,an,aT,e0,hlen⟩:=aD.fL aM;refine aR ?_;refine⟨λaW=>bq i _ (by unfold oQ;grind) ck,λaW=>?_⟩;have bk:¬U D<=i:=I
 unfold oQ at bq bw;rw[ak bk] at bq bw;refine yJ ?_;have err:(if g D i=10 then J (i+1) else if g D i=13/\g D (i+1)=10 then J (i+2) else ab)=ab->∀x u,bp b i (i+1) C u->cellsL x=[x]->∀s,∀(aL:U s<=1000:=by first|decide|assumption),ew 20 1 (Z 20) [(0,1,x)] h λh4 h=>bD 51 [u,S s,h4] h λv20 h=>R (bA #[(a5 ab 0 0),v20]) h:=λaI x u hu ae s aL=>by
  rw[pn oJ rfl ae];exact gU (N:=U D) hu I λw ad ar er=>bw aI _ _ _ ((aB.push _ _).trans ar) er
 have ct:=@cu D (i+1);refine dG (dI aM aa) (hA aM aa) ?_;with_reducible repeat' first|refine⟨?_,?_⟩|intro
 all_goals first
  |with_reducible exact bq (i+1) _ al ck
  |with_reducible exact bq (i+2) _ al ck
  |with_reducible exact err al _ _ ck rfl _
end
