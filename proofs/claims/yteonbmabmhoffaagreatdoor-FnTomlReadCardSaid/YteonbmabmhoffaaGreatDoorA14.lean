/- A part of the proof of FnTomlReadCardSaid: for every string the law FnTomlRead returns true. Conditions: those of the given row and card, no others. -/
import Derived.Test.YteonbmabmhoffaaGreatDoorA13
open Option renaming some->J,none->ab
open Bool renaming true->ai,false->av
open Or renaming inl->bF,inr->bt
open List renaming length->U,drop->ax,take->bf
namespace Go.Proofs.YteonbmabmhoffaaGreatDoor.F
set_option linter.all false
set_option autoImplicit true
set_option relaxedAutoImplicit true
set_option maxRecDepth 100000
set_option maxHeartbeats 4000000
noncomputable section
section
variable{D:B}{i j k n m:Nat}{s l:B}{aj:List (bW bL)}{M:List Nat}
def aq8(h:gsk D i≠ab):g D i=39\/g D i=34\/jN (g D i):=by
 unfold gsk at h;by_cases c1:g D i=39
 .omega
 by_cases c2:g D i=34
 .omega
 rw[ak c1,ak c2] at h;by_cases cy:bareN (ax i D)=0
 .grind
 .have:=Qe (ax i D) 0 I;rw[ud] at this;grind
def aaR(h:g D i=13\/g D i=44):gkey D i acc=ab:=by
 refine E' ?_;cases aX:gsk D i with
 |none=>rfl
 |some x=>have:=aq8 (D:=D) (i:=i) al;unfold jN at this;omega
def aaS(h:gkey D i []=ab):gkv D V i=ab:=by unfold gkv;rw[h]
def aaT(h:gkey D i []=J (ks,k))(ad:g D k≠61):gkv D V i=ab:=by unfold gkv;grind
def Mg(h:gkey D i []=J (ks,k))(ad:g D k=61):gkv D V i=(V (a9 D (k+1))).map λx=>((ks,x.1),x.2):=by
 unfold gkv;grind
def aqJ(h:g D i=13\/g D i=44):gkv D V i=ab:=by
 unfold gkv;rw[aaR h]
def Aj(D:B)(n:Nat)(ha:List (List B×e'))(aj:List (bW bL))(M:List Nat):Prop:=okPs (okV n) ha (aj.map shN) M=av\/∀K:Option (List (bW bL))->Prop,K ab->decT (decQ D n) ha aj M K
def Aj.cons(bE:Cm D n a t)(aJ:pairS t ks aj M 0=.ok a8 bK x)(h:Aj D n ha a8 bK):Aj D n ((ks,a)::ha) aj M:=by
 have dV:pairS () ks (aj.map shN) M 0=.ok (a8.map shN) bK x:=by rw[pairS_sh (t:=t),aJ]
 rcases h with h|h
 .left;rw[okPs];grind
 .right
  intro K cE;rw[decT];refine bE.2 _ ?_;grind
def Aj.head(bE:PM D n a):Aj D n ((ks,a)::ha) aj M:=by
 rcases bE with h|h
 .left;rw[okPs];grind
 .right
  intro K cE;rw[decT];exact h _ cE
def Aj.pair(aJ:pairS t ks aj M 0=.no c):Aj D n ((ks,a)::ha) aj M:=by
 have dV:pairS () ks (aj.map shN) M 0=.no c:=by rw[pairS_sh (t:=t),aJ]
 left;rw[okPs];grind
def Ys(D:B)(n:Nat)(aj:List (bW bL))(M:List Nat)(acc:List (List B×e'))(r:Option (List (List B×e')×Nat)):Prop:=r=ab\/∃ha j,r=J (acc++ha,j)/\Aj D n ha aj M
def pair_g{F id:Nat}(eu:Lh D F n)(az:i<=U D)(hu:dC D i=ai):match pairP (valueF F n) F (ax i D) aj M id with
  | .ok a8 bK l=>∃ks t x,pairS t ks aj M id=.ok a8 bK x/\((∃a j k,gkey D i []=J (ks,k)/\g D k=61/\gval D n (a9 D (k+1))=J (a,j)/\l=ax j D/\Cm D n a t)\/
   (∃k,gkey D i []=J (ks,k)/\g D k=61/\xo D n (a9 D (k+1))/\OD D l))
  | .no c=>c=1->gkey D i []=ab\/∃ks k,gkey D i []=J (ks,k)/\(g D k≠61\/(g D k=61/\(xo D n (a9 D (k+1))\/∃a j t,gval D n (a9 D (k+1))=J (a,j)/\pairS t ks aj M id=.no c))):=by
 unfold pairP;have aq:=adD (D:=D) (i:=i) (F:=F) hu;cases ae:key F (ax i D) with
 |no c=>rw[ae] at aq;exact λe=>bF (aq e)
 |ok ks l=>
  rw[ae] at aq;obtain⟨k,aw,rfl⟩:=aq;simp only;rw[eF,tail_drop];have a:=CO aw;by_cases hq:g D k=61
  .have s1:=cD.one (D:=D) (i:=k) I I;have s2:=cD.a9 (D:=D) s1.2.1;have aD:=eu (a9 D (k+1)) s2.2.1 (by rw[s2.2.2,s1.2.2,a.2.2.2,hu]);rw[ak I,<-o7];cases a2:valueF F n (ax (a9 D (k+1)) D) with
   |no c=>rw[a2] at aD;exact λe=>bt ⟨ks,k,aw,bt ⟨hq,bF (aD e)⟩⟩
   |ok t l=>
    rw[a2] at aD;simp only;cases aJ:pairS t ks aj M id with
    |no c=>
     simp only;grind
    |ok a8 bK x=>
     simp only;grind
  .rw[aA hq];exact λ_=>bt ⟨ks,k,aw,bF hq⟩
def NF:qt (ax i D)↔g D i=35\/g D i=10\/(g D i=13/\g D (i+1)=10):=by
 unfold qt;rw[eF,crlf]
def tab_g{F:Nat}(eu:Lh D F n):∀{p m i:Nat} {aj:List (bW bL)} {M:List Nat} {acc:List (List B×e')},i<=U D->dC D i=ai->U D<m+i->BC D (a9 D i)->g D (a9 D i)≠125->match inLoop (valueF F n) F p aj M (ax i D) with
  | .ok t l=>∃ha j a8,gseq D 125 (gkv D (gval D n)) m av acc i=J (acc++ha,j)/\l=ax j D/\okPs (okV n) ha (aj.map shN) M=ai/\t=tomlS a8 (U a8) 0/\∀K:Option (List (bW bL))->Prop,K (J a8)->decT (decQ D n) ha aj M K
  | .no c=>c=1->Ys D n aj M acc (gseq D 125 (gkv D (gval D n)) m av acc i)
 |0,m,i,aj,M,acc,az,hu,hm,st,ug=>by rw[inLoop];intro e;cases e
 |p+1,m,i,aj,M,acc,az,hu,hm,st,ug=>by
  have aL:=cD.a9 (D:=D) az;have iD:=aL.1;obtain⟨gz,rfl⟩:∃gz,m=gz+1:=⟨m-1,I⟩;rw[inLoop,<-o7,HX,abb st ug aqJ];have aJ:=pair_g (aj:=aj) (M:=M) (id:=0) eu aL.2.1 (aL.2.2.trans hu);have F0:∀{ks k},gkey D (a9 D i) []=J (ks,k)->g D k=61->xo D n (a9 D (k+1))->Ys D n aj M acc ((gkv D (gval D n) (a9 D i)).bind λx=>gseq D 125 (gkv D (gval D n)) gz ai (acc++[x.1]) x.2):=λ{ks k} aw hq h=>by
   rw[Mg aw hq];rcases h with h|⟨a,y,e,h⟩
   .rw[h];exact bF rfl
   .rw[e,jl,GG];simp only;rcases h with h|h
    .exact bF (aba (bt rfl) h)
    .cases aF:gseq D 125 (gkv D (gval D n)) gz ai (acc++[(ks,a)]) y with
     |none=>exact bF rfl
     |some z=>
      obtain⟨l,z⟩:=z;obtain⟨hP,rfl⟩:=AI aF;exact bt ⟨(ks,a)::hP,z,a1,.head h⟩
  cases ae:pairP (valueF F n) F (ax (a9 D i) D) aj M 0 with
  |no c=>
   rw[ae] at aJ;simp only;intro e;rcases aJ e with h|⟨ks,k,aw,h⟩
   .rw[aaS h];exact bF rfl
   .rcases h with h|⟨hq,h⟩
    .rw[aaT aw h];exact bF rfl
    .rcases h with h|⟨a,y,t,ar,h⟩
     .grind
     .rw[Mg aw hq,ar,jl,GG];simp only;cases aF:gseq D 125 (gkv D (gval D n)) gz ai (acc++[(ks,a)]) y with
      |none=>exact bF rfl
      |some z=>
       obtain⟨l,z⟩:=z;obtain⟨hP,rfl⟩:=AI aF;exact bt ⟨(ks,a)::hP,z,a1,.pair h⟩
  |ok a8 bK l=>
   rw[ae] at aJ;simp only;obtain⟨ks,t,x,IA,aJ⟩:=aJ;rcases aJ with ⟨a,y,k,aw,hq,ar,rfl,r7⟩|⟨k,aw,hq,fy,y,rfl,dd,dr,fq⟩
   .have DF:=CO aw;have s1:=cD.one (D:=D) (i:=k) I I;have s2:=cD.a9 (D:=D) s1.2.1;have dB:=HZ s2.2.1 ar;have qw:cD D i y:=(((aL.trans DF.2).trans s1).trans s2).trans dB.2;have a2:i<y:=by have:=DF.2.1;have:=s1.1;have:=s2.1;omega
    have jf:=cD.a9 (D:=D) qw.2.1;have auO:=jf.1;have acQ:=jf.2.1;have apG:gkv D (gval D n) (a9 D i)=J ((ks,a),y):=by
     rw[Mg aw hq,ar];rfl
    have dV:pairS () ks (aj.map shN) M 0=.ok (a8.map shN) bK x:=by rw[pairS_sh (t:=t),IA]
    rw[apG,GG,<-o7];simp only;by_cases au:qt (ax (a9 D y) D)
    .rw[aA au];intro e;cases e
    rw[ak au,eF,tail_drop];have hr:¬_:=λe=>au (NF.2 e);have azy:BC D (a9 D y):=⟨sL,λe=>hr (bF e),λe=>hr (bt (bF e)),λe=>hr (bt (bt e))⟩;obtain⟨k8,rfl⟩:∃k8,gz=k8+1:=⟨gz-1,I⟩;rw[HX];by_cases aa:g D (a9 D y)=125
    .rw[aA aa,Mm sL aa];refine⟨[(ks,a)],_,a8,rfl,rfl,?_,rfl,λK cE=>?_⟩
     .rw[okPs];simp only;rw[dV];simp only;rw[r7.1];rfl
     .rw[decT];refine r7.2 _ ?_;simp only;rw[IA];exact cE
    rw[ak aa];by_cases mw:g D (a9 D y)=44
    .have a':=cu (D:=D) (i:=a9 D y) I;have pI:=cD.one (D:=D) (i:=a9 D y) I I;have q8:=cD.a9 (D:=D) pI.2.1;have auP:=q8.1;rw[aA mw,aa9 sL aE mw,<-o7,HX];by_cases fF:qt (ax (a9 D (a9 D y+1)) D)
     .rw[aA fF];intro e;cases e
     rw[ak fF,eF];by_cases xJ:g D (a9 D (a9 D y+1))=125
     .rw[aA xJ];intro e;cases e
     rw[ak xJ];have Is:¬_:=λe=>fF (NF.2 e);have azz:BC D (a9 D (a9 D y+1)):=⟨sL,λe=>Is (bF e),λe=>Is (bt (bF e)),λe=>Is (bt (bt e))⟩;have:=tab_g eu (p:=p) (m:=k8) (i:=a9 D (a9 D y+1)) (aj:=a8) (M:=bK) (acc:=acc++[(ks,a)]) q8.2.1 (by rw[q8.2.2,pI.2.2,jf.2.2,qw.2.2,hu]) I (by rw[sL];exact azz) (by rw[sL];exact xJ);cases aF:inLoop (valueF F n) F p a8 bK (ax (a9 D (a9 D y+1)) D) with
     |no c=>
      rw[aF] at this;intro e;rcases this e with h|⟨ha,j,h,af⟩
      .exact bF h
      .exact bt ⟨(ks,a)::ha,j,by rw[h];simp,af.cons r7 IA⟩
     |ok tt l=>
      rw[aF] at this;obtain⟨ha,j,hy,cg,cJ,eP,hc,l6⟩:=this;refine⟨(ks,a)::ha,j,hy,al,cJ,?_,hc,λK cE=>?_⟩
      .rw[okPs];simp only;rw[dV];simp only;rw[r7.1,eP];rfl
      .rw[decT];refine r7.2 _ ?_;grind
    .rw[ak mw];exact λ_=>bF (RE azy aa mw)
   .have au:=cu (D:=D) (i:=y) I;rw[<-o7,DG au (bF dd),zK I I,ak (by rw[NF];omega),eF,ak I,ak I];exact λ_=>F0 aw hq fy
def azm:Gd m F (ax i D)=sevLoop m F (ax (iU D i) D):=by
 unfold Gd;rw[aw3]
def Yt(iR:U D<F)(W:WordLaw D):∀n,Lh D F n
 |0=>λi az hu=>by rw[valueF];omega
 |n+1=>λi az hu=>by
  have bR:=Yt iR W n;have str:∀r,(∀s l,r=.ok s l->∃j,kA D i=J (.str s,j)/\l=ax j D)->(r=.no 1->kA D i=ab)->g D i=34\/g D i=39->match strR r with
    | .ok t l=>(∃a j,gval D (n+1) i=J (a,j)/\l=ax j D/\Cm D (n+1) a t)\/(xo D (n+1) i/\OD D l)
    | .no c=>c=1->xo D (n+1) i:=λr aa ad b5=>by
   cases aF:r with
   |no c=>
    intro e;left
    rw[gval,ak I,ak I,ad (by rw[aF,e])];rfl
   |ok s l=>
    obtain⟨j,aw,ar⟩:=aa s l aF;refine bF ⟨.str s,j,?_,ar,by rw[okV],λQ q=>by rw[decQ];exact q⟩;rw[gval,ak I,ak I,aw];rfl
  have BA:(g D i=34\/g D i=39)->kA D i=scaS (mv D i):=λh=>by unfold kA;grind
  have ae4:=afc (D:=D) (i:=i) (a:=34) (b:=34) (c:=34) aE aE aE;have ae5:=afc (D:=D) (i:=i) (a:=39) (b:=39) (c:=39) aE aE aE;rw[valueF,eF,tail_drop];by_cases dn:[34,34,34]<+:ax i D\/[39,39,39]<+:ax i D
  .rw[aA dn,tI,azm];have dn:(g D i=34/\g D (i+1)=34/\g D (i+2)=34)\/(g D i=39/\g D (i+1)=39/\g D (i+2)=39):=dn.imp ae4.1 ae5.1;have sJ:g D i=34\/g D i=39:=I
   have s1:=cD.one (D:=D) (i:=i) I I;have s2:=cD.one (D:=D) (i:=i+1) I I;have dB:=cD.one (D:=D) (i:=i+2) I I;have jf:=aeK (D:=D) dB.2.1;have ac1:dC D (iU D (i+3))=ai:=by
    have:=jf.2.2.trans (dB.2.2.trans (s2.2.2.trans s1.2.2));grind
   rcases dn with h|h
   .have:=Vq (D:=D) (n:=F) (acc:=[]) ac1;have aX:mv D i=gmb D (iU D (i+3)) []:=by unfold mv;rw[aA h.1,aA h.2]
    rw[h.1];refine str _ (λs l e=>?_) (λe=>?_) sJ
    .rw[e] at this;obtain⟨j,a,b⟩:=this;exact⟨j,by rw[BA sJ,aX,a];rfl,b⟩
    .rw[e] at this;rw[BA sJ,aX,this rfl];rfl
   .have:=af1 (D:=D) (n:=F) (i0:=iU D (i+3)) (bQ _) ac1;have aX:mv D i=y6 D (iU D (i+3)):=by unfold mv;rw[ak I,aA h.2]
    rw[h.1];refine str _ (λs l e=>?_) (λe=>?_) sJ
    .rw[e] at this;obtain⟨c,j,a,b,d⟩:=this;refine⟨j,?_,d⟩;rw[BA sJ,aX];unfold y6;rw[a];simp only[scaS];grind
    .rw[e] at this;rw[BA sJ,aX];unfold y6;rw[this rfl];rfl
  rw[ak dn];have dn:¬((g D i=34/\g D (i+1)=34/\g D (i+2)=34)\/(g D i=39/\g D (i+1)=39/\g D (i+2)=39)):=λe=>dn (e.imp ae4.2 ae5.2);by_cases gP:g D i=34
  .have s1:=cD.one (D:=D) (i:=i) I I;have:=Lv (D:=D) (n:=F) (acc:=[]) (s1.2.2.trans hu);have aX:mv D i=bump (gbas D (i+1) []):=by unfold mv;rw[aA gP,ak I]
   rw[aA gP];refine str _ (λs l e=>?_) (λe=>?_) (bF gP)
   .rw[e] at this;obtain⟨j,a,b⟩:=this;exact⟨j+1,by rw[BA (bF gP),aX,a];rfl,b⟩
   .rw[e] at this;rw[BA (bF gP),aX,this rfl];rfl
  rw[ak gP];by_cases iA:g D i=39
  .have s1:=cD.one (D:=D) (i:=i) I I;have:=T8 (D:=D) (n:=F) (s1.2.2.trans hu);have aX:mv D i=glitS D (i+1):=by unfold mv;rw[ak gP,ak I]
   rw[aA iA];refine str _ (λs l e=>?_) (λe=>?_) (bt iA)
   .rw[e] at this;obtain⟨j,a,b,c,_⟩:=this;refine⟨j+1,?_,c⟩;rw[BA (bt iA),aX];unfold glitS;rw[a,b];rfl
   .rw[e] at this;rw[BA (bt iA),aX];unfold glitS;rw[this rfl];rfl
  rw[ak iA];by_cases hK:g D i=91
  .have s1:=cD.one (D:=D) (i:=i) I I;have aL:=s1.2.1;have:=list_g iR bR (p:=F) (m:=U D+1) (i:=i+1) (ta:=[]) (acc:=[]) s1.2.1 (s1.2.2.trans hu) I;rw[aA hK];have aX:gval D (n+1) i=Hh (gseq D 93 (gval D n) (U D+1) av [] (i+1)):=by rw[gval,aA hK]
   cases aF:listL (valueF F n) F F [] (ax (i+1) D) with
   |no c=>
    rw[aF] at this;intro e;rcases this e with h|⟨hP,j,h,af⟩
    .left;rw[aX,h];rfl
    .right
     refine⟨.arr hP,j,by rw[aX,h];rfl,bt ?_⟩;rcases af with af|af
     .left;rw[okV];exact af
     .right;intro Q eR;rw[decQ];grind
   |ok w5 l=>
    rw[aF] at this;obtain⟨hP,j,JN,bx,bH,cq,dT,e3⟩:=this;refine bF ⟨.arr hP,j,by rw[aX,bx];rfl,bH,by rw[okV];exact dT,λQ eR=>?_⟩;rw[decQ];grind
  rw[ak hK];by_cases uf:g D i=123
  .have s1:=cD.one (D:=D) (i:=i) I I;have s2:=cD.a9 (D:=D) s1.2.1;have gQ:=s2.1;have aX:gval D (n+1) i=JL (gseq D 125 (gkv D (gval D n)) (U D+1) av [] (a9 D (i+1))):=by rw[gval,ak hK,aA uf,HX]
   rw[aA uf];unfold tr;rw[<-o7];by_cases au:qt (ax (a9 D (i+1)) D)
   .rw[aA au];omega
   rw[ak au,eF,tail_drop];have hr:¬_:=λe=>au (NF.2 e);have st:BC D (a9 D (i+1)):=⟨sL,λe=>hr (bF e),λe=>hr (bt (bF e)),λe=>hr (bt (bt e))⟩;by_cases aa:g D (a9 D (i+1))=125
   .rw[aA aa];refine bF ⟨.qx [],_,by rw[aX,Mm sL aa];rfl,rfl,by rw[okV];rfl,λQ eR=>?_⟩;rw[decQ,decT];exact eR
   .rw[ak aa];have:=tab_g bR (p:=F) (m:=U D+1) (i:=a9 D (i+1)) (aj:=[.bX []]) (M:=[1]) (acc:=[]) s2.2.1 (by rw[s2.2.2,s1.2.2,hu]) I (by rw[sL];exact st) (by rw[sL];exact aa);cases aF:inLoop (valueF F n) F F [.bX []] [1] (ax (a9 D (i+1)) D) with
    |no c=>
     rw[aF] at this;intro e;rcases this e with h|⟨hP,j,h,af⟩
     .left;rw[aX,h];rfl
     .right
      refine⟨.qx hP,j,by rw[aX,h];rfl,bt ?_⟩;rcases af with af|af
      .left;rw[okV];exact af
      .right;intro Q eR;rw[decQ];grind
    |ok t l=>
     rw[aF] at this;obtain⟨hP,j,a8,bx,bH,cq,dT,e3⟩:=this;refine bF ⟨.qx hP,j,by rw[aX,bx];rfl,bH,by rw[okV];exact cq,λQ eR=>?_⟩;rw[decQ];grind
  rw[ak uf];have:=W i az hu gP iA hK uf;have aX:gval D (n+1) i=scA i (scaT (gm D i)):=by rw[gval,ak hK,ak uf];unfold kA;grind
  have fy:PN D i->xo D (n+1) i:=λh=>by
   rcases h with h|⟨k,j,h,af⟩
   .left;rw[aX,h];rfl
   .right
    refine⟨.tok k i j,j,by rw[aX,h];rfl,?_⟩;rcases af with af|af
    .grind
    .refine bt (bt λQ eR=>?_);rw[decQ];grind
  cases aF:word (ax i D) with
  |no c=>grind
  |ok t l=>
   rw[aF] at this;rcases this with ⟨k,j,a,b,c⟩|⟨h,sp⟩
   .refine bF ⟨.tok k i j,j,by rw[aX,a];rfl,b,by rw[okV],λQ eR=>?_⟩;rw[decQ];exact c Q eR
   grind
end
section
variable{D:B}{i j k n m:Nat}{s l:B}{aj:List (bW bL)}{M:List Nat}{id:Nat}
def aqD(h:Hl D i):gfin D i=ab:=by
 obtain⟨aW,aa,ad,an,aT,bN,cB,de,hC⟩:=h;unfold gfin oQ;rw[zK aa ad,ak bN,ak I,ak an,ak I]
def ay3(az:i<=U D)(hu:dC D i=ai):
  (∃z,gfin D i=J z/\((U D<=z/\restS fin next (.ok aj M id (ax i D))=.ok (fin aj) [])\/restS fin next (.ok aj M id (ax i D))=next aj M id (ax z D)))\/
  (gfin D i=ab/\restS fin next (.ok aj M id (ax i D))=.no 1)\/∃c,c≠1/\restS fin next (.ok aj M id (ax i D))=.no c:=by
 have aL:=cD.a9 (D:=D) az;have aai:∀x,x<=U D->comment (ax (a9 D i) D)=.ok () (ax x D)->gfin D i=oQ D x->
   (∃z,gfin D i=J z/\((U D<=z/\restS fin next (.ok aj M id (ax i D))=.ok (fin aj) [])\/restS fin next (.ok aj M id (ax i D))=next aj M id (ax z D)))\/
   (gfin D i=ab/\restS fin next (.ok aj M id (ax i D))=.no 1)\/∃c,c≠1/\restS fin next (.ok aj M id (ax i D))=.no c:=λx ae ay aX=>by
  rw[restS,<-o7,ay,aX];simp only;unfold oQ;by_cases au:x<U D
  .rw[ak (LL au),zE,ak I];by_cases dh:g D x=10
   .rw[aA dh,aA dh];exact bF ⟨_,rfl,bt rfl⟩
   rw[ak dh,ak dh];by_cases dx:g D x=13/\g D (x+1)=10
   .rw[aA dx,aA dx];exact bF ⟨_,rfl,bt rfl⟩
   .rw[ak dx,ak dx];grind
  .rw[aA (BV I),aA I];grind
 by_cases pB:g D (a9 D i)=35
 .have s1:=cD.one (D:=D) (i:=a9 D i) I I;have au:=cu (D:=D) (i:=a9 D i) I;have AT:comment (ax (a9 D i) D)=comLoop (ax (a9 D i+1) D):=by
   unfold comment;rw[eF,ak I,Hx au,ak I,ak (by rw[crlf];omega),ak I,ak I]
  have aX:=com_g (D:=D) (i:=a9 D i+1) (by rw[s1.2.2,aL.2.2,hu]);cases ae:comLoop (ax (a9 D i+1) D) with
  |no c=>
   rw[ae] at aX;have aF:restS fin next (.ok aj M id (ax i D))=.no c:=by rw[restS,<-o7,AT,ae]
   by_cases ay:c=1
   .subst ay;exact bt (bF ⟨by unfold gfin;grind,aF⟩)
   grind
  |ok u l=>
   rw[ae] at aX;obtain⟨j,aC,rfl,he⟩:=aX;exact aai j (HM s1.2.1 aC).2 (AT.trans ae) (by unfold gfin;grind)
 .exact aai _ aL.2.1 (by unfold comment;rw[eF,aA pB]) (by unfold gfin;grind)
def ZV(az:U D<=i)(q:Q (J (tomlS aj (U aj) 0))):gdocQ D (n+1) i aj M id Q:=by
 have:a9 D i=i:=by rw[a9,e8 I]
 rw[gdocQ,this,aA az];exact q
def adM(aw:gkey D i []=J (ks,k))(hq:g D k=61)(h:xo D (U D+1) (a9 D (k+1))\/∃a j t c,gval D (U D+1) (a9 D (k+1))=J (a,j)/\pairS t ks aj M id=G6.no c)(aW:K2 ab):kvQ D i aj M id K2:=by
 unfold kvQ;rw[aw];simp only;rw[aA hq];rcases h with h|⟨a,j,t,c,ar,aJ⟩
 .rcases h with h|⟨a,j,ar,af⟩
  .grind
  .rw[ar];simp only;rcases af with af|af
   .rw[aqD af];exact aW
   .cases bj:gfin D j with
    |none=>exact aW
    |some l=>
     simp only;unfold putQ;cases pairS () ks (aj.map shN) M id with
     |no c=>exact aW
     |ok a8 bK x=>
      simp only;rcases af with af|af
      .grind
      grind
 .rw[ar];simp only;cases bj:gfin D j with
  |none=>exact aW
  |some l=>
   simp only;unfold putQ;rw[pairS_sh (t:=t),aJ];exact aW
def kv_yes(aw:gkey D i []=J (ks,k))(hq:g D k=61)(ar:gval D (U D+1) (a9 D (k+1))=J (a,j))(r7:Cm D (U D+1) a t)(aJ:pairS t ks aj M id=.ok a8 bK x)(q:match gfin D j with|none=>K2 ab|some l=>K2 (J (a8,bK,l))):kvQ D i aj M id K2:=by
 unfold kvQ;rw[aw];simp only;rw[aA hq,ar];simp only;cases bj:gfin D j with
 |none=>grind
 |some l=>
  rw[bj] at q;simp only at q⊢;unfold putQ;rw[pairS_sh (t:=t),aJ];simp only;rw[aA r7.1];refine r7.2 _ ?_;grind
def name_g(az:i<=U D)(hu:dC D i=ai):match nameT dU F (ax i D) aj M with
  | .ok a8 bK cY l=>∃y,l=ax y D/\cD D i y/\hdK D dU (a9 D i) aj M=(gfin D y).map λl=>(a8,bK,cY,l)
  | .no c=>c=1->hdK D dU (a9 D i) aj M=ab:=by
 have aL:=cD.a9 (D:=D) az;unfold nameT;rw[<-o7];have aq:=adD (D:=D) (i:=a9 D i) (F:=F) (aL.2.2.trans hu);cases ae:key F (ax (a9 D i) D) with
 |no c=>rw[ae] at aq;intro e;unfold hdK;rw[aq e]
 |ok ks r=>
  rw[ae] at aq;obtain⟨k,aw,rfl⟩:=aq;have a:=CO aw;simp only;have aya:=afb (D:=D) (i:=k) (a:=93) (b:=93) aE aE;by_cases ay:(dU=ai/\¬[93,93]<+:ax k D)\/top (ax k D)≠93
  .rw[aA ay];intro _;unfold hdK;rw[aw];simp only;rw[ak];rintro⟨aa,ad⟩;rcases ay with h|h
   .grind
   .rw[eF] at h;exact h aa
  .rw[ak ay];have aa:g D k=93:=by
    rw[<-eF];omega
   have ad:dU=ai->g D (k+1)=93:=λaG=>(aya.1 (aG8 λe=>ay (bF ⟨aG,e⟩))).2;have s1:=cD.one (D:=D) (i:=k) I I;have s2:cD D k (if dU=ai then k+2 else k+1):=by
    split
    .rename_i aG;exact s1.trans (.one (i:=k+1) al al)
    .exact s1
   have abm:hdK D dU (a9 D i) aj M=match gfin D (if dU then k+2 else k+1) with
     |none=>ab
     |some l=>match nameS dU ks aj M with
      | .ok a8 bK cY=>J (a8,bK,cY,l)
      | .no _=>ab:=by
    unfold hdK;rw[aw];simp only;rw[aA ⟨aa,ad⟩];rfl
   rw[abm];cases aI:nameS dU ks aj M with
   |no c=>
    intro _;grind
   |ok a8 bK cY=>
    refine⟨if dU=ai then k+2 else k+1,?_,(aL.trans a.2).trans s2,?_⟩
    .split<;>simp
    .cases gfin D (if dU=ai then k+2 else k+1)<;>rfl
def Qf:tX (ax i D)↔U D<=i\/g D i=35\/g D i=10\/(g D i=13/\g D (i+1)=10):=by
 unfold tX;rw[eF,crlf,List.drop_eq_nil_iff]
def doc_g(W:WordLaw D):∀{p n i:Nat} {aj:List (bW bL)} {M:List Nat} {id:Nat},i<=U D->dC D i=ai->U D<n+i->
  match docLoop (valueF (U D+1) (U D+1)) (λaj=>tomlS aj (U aj) 0) (U D+1) p aj M id (ax i D) with
  | .ok t _=>∀Q:Option bL->Prop,Q (J t)->gdocQ D n i aj M id Q
  | .no c=>c=1->∀Q:Option bL->Prop,Q ab->gdocQ D n i aj M id Q
 |0,n,i,aj,M,id,az,hu,aI=>by rw[docLoop];omega
 |p+1,0,i,aj,M,id,az,hu,aI=>I
 |p+1,n+1,i,aj,M,id,az,hu,aI=>by
  have eu:=Yt (D:=D) (F:=U D+1) (Nat.lt_succ_self _) W (U D+1);have aL:=cD.a9 (D:=D) az;have iD:=aL.1;rw[docLoop,<-o7];have go:∀(y:Nat) (a8:List (bW bL)) (bK:List Nat) (cY:Nat),cD D i y->(∀z,gfin D y=J z->i<z\/U D<=z)->(∀Q:Option bL->Prop,(match gfin D y with|none=>Q ab|some z=>gdocQ D n z a8 bK cY Q\/(U D<=z/\Q (J (tomlS a8 (U a8) 0))))->gdocQ D (n+1) i aj M id Q)->
    match restS (λaj=>tomlS aj (U aj) 0) (docLoop (valueF (U D+1) (U D+1)) (λaj=>tomlS aj (U aj) 0) (U D+1) p) (.ok a8 bK cY (ax y D)) with
    | .ok t _=>∀Q:Option bL->Prop,Q (J t)->gdocQ D (n+1) i aj M id Q
    | .no c=>c=1->∀Q:Option bL->Prop,Q ab->gdocQ D (n+1) i aj M id Q:=λy a8 bK cY qw aV q=>by
   rcases ay3 (aj:=a8) (M:=bK) (id:=cY) (fin:=λaj=>tomlS aj (U aj) 0) (next:=docLoop (valueF (U D+1) (U D+1)) (λaj=>tomlS aj (U aj) 0) (U D+1) p) qw.2.1 (qw.2.2.trans hu) with ⟨z,aw,ar⟩|⟨aw,ar⟩|⟨c,ay,ar⟩
   .have s2:=qw.trans (E_ qw.2.1 aw);rcases ar with ⟨au,ar⟩|ar
    .grind
    .rw[ar];by_cases au:U D<=z
     .cases p with
      |zero=>rw[docLoop];omega
      |succ p=>
       have IV:a9 D z=z:=by rw[a9,e8 I]
       have aG:ax z D=[]:=BV au;rw[docLoop,<-o7,IV];unfold rW;rw[aA (.inl aG),aG];exact λQ eR=>q Q al
     .have oY:i<z:=(aV z aw).resolve_right au;have:=doc_g W (p:=p) (n:=n) (i:=z) (aj:=a8) (M:=bK) (id:=cY) s2.2.1 (s2.2.2.trans hu) I;grind
   .grind
   grind
  unfold rW;by_cases af:tX (ax (a9 D i) D)
  .rw[aA af];refine go _ _ _ _ aL (λz aV=>?_) λQ q=>?_
   .have:=E_ aL.2.1 aV;unfold gfin at aV;rw[sL] at aV;rcases Qf.1 af with h|h|h|h
    .have:=this.1;omega
    .rw[aA h] at aV;have s1:=cD.one (D:=D) (i:=a9 D i) I I;cases ay:gcom D (a9 D i+1) with
     |none=>grind
     |some j=>
      rw[ay] at aV;have ad:=HM s1.2.1 ay;have:=HP ad.2 aV;omega
    .rw[ak I] at aV;unfold oQ at aV;grind
    .rw[ak I] at aV;unfold oQ at aV;grind
   ·
    unfold gfin at q;rw[sL] at q;rw[gdocQ];by_cases au:U D<=a9 D i
    .rw[aA au];rw[ak (by rw[g6 au];decide)] at q;unfold oQ at q;rw[aA au] at q;simp only at q;rcases q with q|q
     .cases n with
      |zero=>exact absurd q (λh=>h)
      |succ n=>
       rw[gdocQ,sL,aA au] at q;exact q
     .exact q.2
    rw[ak au];have LY:∀z,i<z->(gdocQ D n z aj M id Q\/(U D<=z/\Q (J (tomlS aj (U aj) 0))))->gdocQ D n z aj M id Q:=λz aV h=>by
     rcases h with h|⟨aa,ad⟩
     .exact h
     .cases n with
      |zero=>omega
      |succ n=>exact ZV aa ad
    rcases Qf.1 af with h|h|h|h
    .exact absurd h au
    .rw[ak I,ak I,aA h];grind
    .rw[aA h];rw[ak I] at q;unfold oQ at q;grind
    .rw[ak I,aA h.1,aA h.2];rw[ak I] at q;unfold oQ at q;grind
  rw[ak af,eF];have dN:¬_:=λe=>af (Qf.2 e);have au:a9 D i<U D:=by
   omega
  have LP:g D (a9 D i)≠35:=λe=>dN (.inr (.inl e));have CH:g D (a9 D i)≠10:=λe=>dN (.inr (.inr (.inl e)));have oN:¬(g D (a9 D i)=13/\g D (a9 D i+1)=10):=λe=>dN (.inr (.inr (.inr e)));have LY:∀z a8 bK cY Q,i<z->(gdocQ D n z a8 bK cY Q\/(U D<=z/\Q (J (tomlS a8 (U a8) 0))))->gdocQ D n z a8 bK cY Q:=λz a8 bK cY Q aV h=>by
   rcases h with h|⟨aa,ad⟩
   .exact h
   .cases n with
    |zero=>omega
    |succ n=>exact ZV aa ad
  by_cases hK:g D (a9 D i)=91
  .rw[aA hK];have s1:=cD.one (D:=D) (i:=a9 D i) I I;have aG:∀dU (x:Nat),cD D (a9 D i) x->a9 D i<x->decide (g D (a9 D i+1)=91)=dU->(if g D (a9 D i+1)=91 then a9 D i+2 else a9 D i+1)=x->match restS (λaj=>tomlS aj (U aj) 0) (docLoop (valueF (U D+1) (U D+1)) (λaj=>tomlS aj (U aj) 0) (U D+1) p) (nameT dU (U D+1) (ax x D) aj M) with
     | .ok t _=>∀Q,Q (J t)->gdocQ D (n+1) i aj M id Q
     | .no c=>c=1->∀Q,Q ab->gdocQ D (n+1) i aj M id Q:=λdU x q' ae gX ex=>by
    have Fe:∀Q,(match hdK D dU (a9 D x) aj M with|none=>Q ab|J (a8,bK,cY,l)=>gdocQ D n l a8 bK cY Q)->gdocQ D (n+1) i aj M id Q:=λQ q=>by
     rw[gdocQ,ak I,ak CH,ak I,ak LP,aA hK,gX,ex];exact q
    have a7:=name_g (D:=D) (i:=x) (F:=U D+1) (dU:=dU) (aj:=aj) (M:=M) q'.2.1 (by rw[q'.2.2,aL.2.2,hu]);cases aF:nameT dU (U D+1) (ax x D) aj M with
    |no c=>
     rw[aF] at a7;intro e Q eR;grind
    |ok a8 bK cY l=>
     rw[aF] at a7;obtain⟨y,rfl,qw,aq⟩:=a7;have agB:=(aL.trans q').trans qw;refine go y a8 bK cY agB (λz aV=>?_) λQ q=>?_
     .have:=E_ agB.2.1 aV;have:=this.1;have:=qw.1;omega
     grind
   unfold zD;rw[tail_drop,eF];by_cases ad:g D (a9 D i+1)=91
   .rw[aA ad,tail_drop];exact aG ai _ (s1.trans (.one (i:=a9 D i+1) I I)) I (by simp[ad]) al
   .rw[ak ad];grind
  rw[ak hK];have Fe:∀Q,(kvQ D (a9 D i) aj M id λo=>match o with
    |none=>Q ab
    |J (a8,bK,l)=>gdocQ D n l a8 bK id Q)->gdocQ D (n+1) i aj M id Q:=λQ q=>by
   by_cases dx:g D (a9 D i)=13
   .rw[gdocQ,ak I,ak CH,aA dx,ak (λe=>oN ⟨dx,e⟩)];unfold kvQ at q;rw[aaR (.inl dx)] at q;exact q
   .rw[gdocQ,ak I,ak CH,ak dx,ak LP,ak hK];exact q
  have aJ:=pair_g (aj:=aj) (M:=M) (id:=id) eu aL.2.1 (aL.2.2.trans hu);cases ae:pairP (valueF (U D+1) (U D+1)) (U D+1) (ax (a9 D i) D) aj M id with
  |no c=>
   rw[ae] at aJ;intro e Q eR;refine Fe Q ?_;rcases aJ e with h|⟨ks,k,aw,h⟩
   .unfold kvQ;rw[h];exact eR
   .rcases h with h|⟨hq,h⟩
    .unfold kvQ;rw[aw];simp only;grind
    .refine adM aw hq ?_ eR;grind
  |ok a8 bK l=>
   rw[ae] at aJ;obtain⟨ks,t,x,IA,aJ⟩:=aJ;rcases aJ with ⟨a,y,k,aw,hq,ar,rfl,r7⟩|⟨k,aw,hq,fy,y,rfl,dd,dr,fq⟩
   .have DF:=CO aw;have s1:=cD.one (D:=D) (i:=k) I I;have s2:=cD.a9 (D:=D) s1.2.1;have dB:=HZ s2.2.1 ar;have qw:cD D i y:=(((aL.trans DF.2).trans s1).trans s2).trans dB.2;have a2:i<y:=by have:=DF.2.1;have:=s1.1;have:=s2.1;omega
    refine go y a8 bK id qw (λz aV=>?_) λQ q=>?_
    .have:=E_ qw.2.1 aV;have:=this.1;omega
    .refine Fe Q (kv_yes aw hq ar r7 IA ?_);grind
   .have atK:=cu (D:=D) (i:=y) I;have atL:=cu (D:=D) (i:=y+1) I;simp only[curP];rw[restS,<-o7,DG atK (.inl dd),zK I I];unfold comment;rw[eF,aA I];simp only;rw[ak (LL atL),zE,ak I,ak I];exact λ_ Q eR=>Fe Q (adM aw hq (.inl fy) eR)
def anG(W:WordLaw D)(T:yI D):K9 D:=by
 refine⟨T,?_⟩;unfold zO xI;have aGN:∀Q,(∀o,Q o)->gdocQ D (U D+1) 0 [.bX []] [1] 0 Q:=λQ h=>Rp (n:=U D+1) (i:=0) (h _) (bF h) (ed _) I;by_cases hu:dC D 0=ai
 .rw[aA hu];by_cases af:[239,187,191]<+:D
  .rw[aA af];grind
  .rw[ak af];have:=doc_g W (p:=U D+1) (n:=U D+1) (i:=0) (aj:=[.bX []]) (M:=[1]) (id:=0) (ed _) hu I;rw[Ky] at this;cases aF:docLoop (valueF (U D+1) (U D+1)) (λaj=>tomlS aj (U aj) 0) (U D+1) (U D+1) [.bX []] [1] 0 D with
   |ok t l=>grind
   |no c=>
    grind
 .rw[ak hu];simp only;rw[aA trivial];exact Rp (Q:=λo=>o=ab) (n:=U D+1) (i:=0) rfl (bt al) (ed _) I
end
section
variable{D:B}{i j e k n m b:Nat}{p:Nat->Bool}{s l o:B}
def sY(p:Nat->Bool)(b:Nat):Prop:=∀c,p c=ai↔∃d,fQ c=J d/\d<b
def tO:sY cT 10:=λc=>by
 simp only[cT,r_];constructor
 .intro h;exact⟨c-48,by unfold fQ;rw[aA h],I⟩
 .rintro⟨d,h,aG⟩;have:=rH h;omega
def Yd:sY zt 8:=λc=>by
 simp only[zt,r_];constructor
 .intro h;exact⟨c-48,by unfold fQ;rw[aA I],I⟩
 .rintro⟨d,h,aG⟩;have:=rH h;omega
def Yc:sY zr 2:=λc=>by
 simp only[zr,r_];constructor
 .intro h;exact⟨c-48,by unfold fQ;rw[aA I],I⟩
 .rintro⟨d,h,aG⟩;have:=rH h;omega
def Yb:sY zs 16:=λc=>by
 simp only[zs,r_];constructor
 .intro h;rcases h with h|h|h
  .exact⟨c-48,by unfold fQ;rw[aA h],I⟩
  .exact⟨c-97+10,by unfold fQ;rw[ak I,aA h],I⟩
  .exact⟨c-65+10,by unfold fQ;rw[ak I,ak I,aA h],I⟩
 .rintro⟨d,h,aG⟩;have:=rH h;omega
def sY.aw9(aJ:sY p b):p 95=av:=by
 cases h:p 95 with
 |false=>rfl
 |true=>obtain⟨d,h,_⟩:=(aJ 95).1 h;have:=rH h;omega
def QR{pv:Bool}(h:c.toNat=95):dig b pv (c::l)=if pv=ai/\(fQ (top l)).isSome=ai then dig b av l else ab:=by rw[dig,aA h]
def QN{pv:Bool}{d:Nat}(h:fQ c.toNat=J d)(aG:d<b):dig b pv (c::l)=(dig b ai l).map (c::·):=by
 have:=rH h;rw[dig,ak I,h];grind
def ZO{pv:Bool}{o:B}(h:dig b pv (c::l)=J o)(ay:c.toNat≠95):∃d fc,fQ c.toNat=J d/\d<b/\dig b ai l=J fc/\o=c::fc:=by
 rw[dig,ak ay] at h;cases ae:fQ c.toNat with
 |none=>grind
 |some d=>
  rw[ae] at h;simp only at h;by_cases aG:b<=d
  .grind
  .rw[ak aG] at h;cases aH:dig b ai l with
   |none=>grind
   |some fc=>grind
def aeN(h:c.toNat=95):du (c::l)=du l:=by unfold du;grind
def sH(h:c.toNat≠95):du (c::l)=c::du l:=by unfold du;grind
def hX(h:i<U D):(D[i]).toNat=g D i:=(fu h).symm
def Ro(aJ:sY p b)(he:e<=U D):∀{i:Nat},i<=e->gF p D i=J e->dig b ai (aU D i e)=J (du (aU D i e)):=λ{i}=>by
 induction hm:e-i using Nat.strongRecOn generalizing i with
 |ind m bR=>
  intro az h;rw[gF] at h;by_cases au:i<U D
  .rw[gw au] at h;by_cases aa:p (g D i)=ai
   .rw[aA aa] at h;have af:=HO I h;obtain⟨d,ae,aG⟩:=(aJ _).1 aa;have gh:fQ (D[i]).toNat=J d:=by rw[hX au];exact ae
    rw[iV I he,QN gh aG,bR _ I rfl I h,sH (by have:=rH gh;omega)];rfl
   rw[ak aa] at h;by_cases hg:g D i=95
   .rw[aA hg] at h;by_cases ad:i+1<U D/\p (g D (i+1))=ai
    .rw[gw ad] at h;have af:=HO I h;obtain⟨d,ae,aG⟩:=(aJ _).1 ad.2;have gh:fQ (D[i+1]).toNat=J d:=by rw[hX ad.1];exact ae
     rw[iV I he,QR (by rw[hX au];exact hg),iV I he,aA ⟨rfl,by simp only[top,List.headD_cons];grind⟩,QN gh aG,bR (e-(i+2)) I rfl I h,aeN (by rw[hX au];exact hg),sH (by have:=rH gh;omega)];rfl
    grind
   .rw[ak hg] at h;cases h;rw[m7 (bQ _)];rfl
  .rw[e8 au] at h;cases h;rw[m7 (bQ _)];rfl
def Vm(aJ:sY p b)(he:e<=U D)(aI:e<U D->p (g D e)=av/\g D e≠95):∀{i:Nat} {pv:Bool} {o:B},i<=e->dig b pv (aU D i e)=J o->(pv=ai->gF p D i=J e)/\(pv=av->i<e->p (g D i)=ai/\gF p D (i+1)=J e):=λ{i}=>by
 induction hm:e-i using Nat.strongRecOn generalizing i with
 |ind m bR=>
  intro pv o az h;by_cases h1:i<e
  .have au:i<U D:=I
   rw[iV h1 he] at h;by_cases hg:g D i=95
   .rw[QR (by rw[hX au];exact hg)] at h;by_cases ay:pv=ai/\(fQ (top (aU D (i+1) e))).isSome=ai
    .rw[aA ay] at h;have aa:i+1<e:=by
      rcases jw (i+1) e with aa|aa
      .exact aa
      .have:=ay.2;rw[m7 aa] at this;simp[top,fQ] at this
     have:=(bR (e-(i+1)) I rfl I h).2 rfl aa;refine⟨λ_=>?_,λe=>al⟩;rw[gF,gw au,ak (by rw[hg,aJ.aw9];decide),aA hg,gw ⟨I,this.1⟩];exact this.2
    grind
   .obtain⟨d,fc,ae,aG,aa,_⟩:=ZO h (by rw[hX au];exact hg);rw[hX au] at ae;have S7:=(aJ (g D i)).2 ⟨d,ae,aG⟩;have:=(bR (e-(i+1)) I rfl I aa).1 rfl;refine⟨λ_=>?_,λ_ _=>⟨S7,this⟩⟩;rw[gF,gw au,aA S7];exact this
  .have:i=e:=I
   subst this;refine⟨λ_=>?_,λ_ h=>absurd h h1⟩;rw[gF];by_cases au:i<U D
   .have:=aI au;rw[gw au,ak al,ak this.2]
   .rw[e8 au]
def Rv(he:e<=U D):∀{i n:Nat},gint r m D n i e=whole r m n (du (aU D i e)):=λ{i}=>by
 induction hm:e-i using Nat.strongRecOn generalizing i with
 |ind q bR=>
  intro n;by_cases h1:i<e
  .have au:i<U D:=I
   rw[iV h1 he];by_cases hg:g D i=95
   .rw[HS h1 hg,aeN (by rw[hX au];exact hg)];grind
   .rw[sH (by rw[hX au];exact hg),whole,hX au];rw[gint,gw h1,ak hg];grind
  .rw[HR h1,m7 I];rfl
def Jk(aJ:sY p b)(he:e<=U D)(aW:p (g D i)=ai)(az:i<U D)(h:gF p D (i+1)=J e):i<e/\dig b av (aU D i e)=J (du (aU D i e))/\∃r,du (aU D i e)=D[i]::r:=by
 have af:=HO I h;obtain⟨d,ae,aG⟩:=(aJ _).1 aW;have gh:fQ (D[i]).toNat=J d:=by rw[hX az];exact ae
 have:=rH gh;refine⟨I,?_,du (aU D (i+1) e),?_⟩
 .rw[iV I he,QN gh aG,Ro aJ he af.1 h,sH I];rfl
 .rw[iV I he,sH I]
def Rn(aJ:sY p b):∀{i:Nat},gF p D i=J e->∀x,i<=x->x<e->g D x=95\/∃d,fQ (g D x)=J d/\d<b:=λ{i}=>by
 induction hm:U D-i using Nat.strongRecOn generalizing i with
 |ind m bR=>
  intro h x aa ad;rw[gF] at h;by_cases au:i<U D
  .rw[gw au] at h;by_cases ay:p (g D i)=ai
   .rw[aA ay] at h;by_cases ae:x=i
    .subst ae;exact bt ((aJ _).1 ay)
    .exact bR _ I rfl h x I ad
   rw[ak ay] at h;by_cases hg:g D i=95
   .rw[aA hg] at h;by_cases j':i+1<U D/\p (g D (i+1))=ai
    .rw[gw j'] at h;by_cases ae:x=i
     .grind
     .by_cases ae:x=i+1
      .subst ae;exact bt ((aJ _).1 j'.2)
      .exact bR (U D-(i+2)) I rfl h x I ad
    grind
   grind
  grind
def kH(h:i+a<=e):bf a (aU D i e)=aU D i (i+a):=by
 unfold aU;rw[GA,Wu,yy h]
def m6:ax a (aU D i e)=aU D (i+a) e:=by
 unfold aU;simp_all
def axl(h:numTail D i=J (11,e)):e=i/\g D i≠46/\g D i≠101/\g D i≠69:=by
 unfold numTail at h;cases bj:rS D i with
 |none=>grind
 |some x=>
  obtain⟨bc,cj⟩:=x;rw[bj] at h;simp only at h;cases he:rR D bc cj with
  |none=>grind
  |some x=>
   obtain⟨eL,eI⟩:=x;rw[he] at h;simp only[zF] at h;split at h
   .cases h
   .simp only[dg,hI] at h;obtain⟨rfl,rfl⟩:=h;have dh:∀(o:Option Nat) (y:Nat×Nat),(o.map λj=>(j,10))=J y->y.2=10:=λo y e=>by
     cases o with
     |none=>cases e
     |some z=>cases e;rfl
    unfold rR at he;split at he
    .grind
    .cases he;unfold rS at bj;grind
def U0(ad:i+2<=e)(he:e<=U D)(bx:g D i=48)(bH:g D (i+1)=c)(ay:c<256):bf 2 (aU D i e)=[48,UInt8.ofNat c]:=by
 rw[kH I,iV I I,iV I I,m7 I];have aw:D[i]'I=48:=oF.1 (by rw[hX I,bx];rfl);have ar:D[i+1]'I=UInt8.ofNat c:=oF.1 (by rw[hX I,bH];simp;omega);rw[aw,ar]
def aff(he:e<=U D)(h:2<U (aU D i e)/\bf 2 (aU D i e)=[48,x]):i+2<e/\g D i=48/\g D (i+1)=x.toNat:=by
 have au:=hi (i:=i) he;have ad:i+2<e:=I
 have an:=h.2;rw[kH I,iV I I,iV I I,m7 I] at an;simp only[Wn,and_true] at an;refine⟨ad,?_,?_⟩
 .rw[<-hX I,an.1];rfl
 .rw[<-hX I,an.2]
def int_eq(h:gnum D i=J (11,e))(az:i<=U D):integer (aU D i e)=AG D i e/\GZ D i e:=by
 have m_:=Mj az h;have he:=m_.2.2.1;have a':=m_.1;have h':=h;unfold gnum at h;by_cases aa:g D (bg D i)=105\/g D (bg D i)=110
 .rw[aA aa] at h;grind
 rw[ak aa] at h;by_cases ad:cT (g D (bg D i))=av
 .grind
 rw[ak ad] at h;have nw:cT (g D (bg D i))=ai:=al
 have mA:=js nw;by_cases an:g D (bg D i)=48/\(g D (bg D i+1)=120\/g D (bg D i+1)=111\/g D (bg D i+1)=98)
 .rw[aA an] at h;by_cases aT:bg D i≠i
  .grind
  rw[ak aT] at h;have aT:bg D i=i:=OY.1 aT;rw[aT] at an;by_cases bN:n_ (g D (i+1)) (g D (i+2))=ai
  .rw[aA bN] at h;cases aX:gF (n_ (g D (i+1))) D (i+3) with
   |none=>grind
   |some y=>
    rw[aX] at h;simp only[jl,dg,hI,GH] at h;subst h;have fF:=cu (D:=D) (i:=i+2) (by have:=Oe bN;omega);have base:∀(b:Nat) (p:Nat->Bool),sY p b->n_ (g D (i+1))=p->(∀x:B,integer (aU D i y)=based b (ax 2 (aU D i y)))->(if g D (i+1)=120 then 16 else if g D (i+1)=98 then 2 else 8)=b->integer (aU D i y)=AG D i y/\(i+2<y/\vL b D (i+2) y):=λb p aJ mr AD t'=>by
     rw[mr] at bN aX;obtain⟨bx,bH,r,cq⟩:=Jk aJ he bN fF aX;refine⟨?_,bx,λx kc k3=>?_⟩
     .rw[AD [],m6];unfold based AG;rw[bH];simp only;rw[ak al,aA ⟨bx,an.1⟩,t',Rv he]
     .by_cases ae:x=i+2
      .subst ae;exact .inr ((aJ _).1 bN)
      .exact Rn aJ aX x I k3
    have au:=hi (i:=i) he;have cJ:i+2<y:=(HO I aX).1;have ok:∀(b c:Nat),g D (i+1)=c->(i+2<y/\vL b D (i+2) y)->(c=120/\b=16)\/(c=98/\b=2)\/(c=111/\b=8)->GZ D i y:=λb c ay aG n1=>by
     refine⟨I,λ_=>?_,λaI=>absurd ⟨aG.1,an.1⟩ aI⟩;grind
    rcases an.2 with ay|ay|ay
    .have:=base 16 zs Yb (by unfold n_;grind) (λ_=>by
      unfold integer;rw[aA ⟨I,U0 I he an.1 ay aE⟩]) al
     grind
    .have:=base 8 zt Yd (by unfold n_;grind) (λ_=>by
      have t2:=U0 I he an.1 ay aE;unfold integer;rw[t2,ak (by simp[iF]),aA ⟨I,aE⟩]) al
     grind
    .have:=base 2 zr Yc (by unfold n_;grind) (λ_=>by
      have t2:=U0 I he an.1 ay aE;unfold integer;rw[t2,ak (by simp[iF]),ak (by simp[iF]),aA ⟨I,aE⟩]) al
     grind
  grind
 .rw[ak an] at h;cases aX:gF cT D (bg D i+1) with
  |none=>grind
  |some bS=>
   rw[aX] at h;simp only at h;by_cases cB:g D (bg D i)=48/\bg D i+1<bS
   .grind
   rw[ak cB] at h;obtain⟨rfl,aGa,awP,aGe⟩:=axl h;have h_:=cu (D:=D) (i:=bg D i) I;obtain⟨bx,bH,r,cq⟩:=Jk tO he nw h_ aX;have hlen:=hi (i:=i) he;have agr:bg D i=if g D i=45\/g D i=43 then i+1 else i:=by unfold bg;grind
   have nb:¬(i+2<e/\g D i=48):=by
    grind
   have cr:integer (aU D i e)=EU (aU D i e):=by
    unfold integer;have no:∀x:UInt8,x=120\/x=111\/x=98->¬(2<U (aU D i e)/\bf 2 (aU D i e)=[48,x]):=λx ae bO=>by
     have:=aff he bO;omega
    rw[ak (show¬(2<U (aU D i e)/\bf 2 (aU D i e)=iF 0) from no 120 a1),ak (show¬(2<U (aU D i e)/\bf 2 (aU D i e)=iF 1) from no 111 a1),ak (show¬(2<U (aU D i e)/\bf 2 (aU D i e)=iF 2) from no 98 a1)]
   have Bb:top (aU D i e)=g D i:=BI I he;have tn:(if top (aU D i e)=43\/top (aU D i e)=45 then(aU D i e).tail else aU D i e)=aU D (bg D i) e:=by
    rw[Bb];unfold bg;split
    .rw[iV I he];rfl
    .rfl
   refine⟨?_,I,λaI=>absurd aI nb,λ_=>?_⟩
   .rw[cr];unfold EU AG;rw[tn,bH,ak nb];simp only;have aV:¬(du (aU D (bg D i) e)=[]\/(1<U (du (aU D (bg D i) e))/\g (du (aU D (bg D i) e)) 0=48)):=by
     rintro(q|⟨bq,bw⟩)
     .grind
     .rw[cq] at bw;have fm:g D (bg D i)=48:=by rw[fu h_];simpa[g] using bw
      have jt:=Dv (aU D (bg D i) e);grind
    rw[ak aV,Bb];unfold L7;rw[<-agr];by_cases l8:g D i=45
    .simp only[aA l8];rw[Rv he]
    .simp only[ak l8];rw[Rv he]
   .rw[<-agr];intro x kc k3;by_cases ae:x=bg D i
    .subst ae;exact .inr ((tO _).1 nw)
    .exact Rn tO aX x I k3
def QP:∀{l o:B} {pv:Bool},dig b pv l=J o->l≠[]->o≠[]
 |[],_,_,_,h=>absurd rfl h
 |c::l,o,pv,h,_=>by
  by_cases ay:c.toNat=95
  .rw[QR ay] at h;split at h
   .rename_i aL;cases l with
    |nil=>have:=aL.2;simp[top,fQ] at this
    |cons c2 dA=>exact QP h (λe=>by cases e)
   .cases h
  .obtain⟨d,fc,_,_,aa,rfl⟩:=ZO h ay;grind
def sY.end(aJ:sY p b)(aI:¬fH (g D e)):p (g D e)=av/\g D e≠95:=by
 unfold fH jN at aI;refine⟨?_,I⟩;cases h:p (g D e) with
 |false=>rfl
 |true=>obtain⟨d,ae,_⟩:=(aJ _).1 h;have:=rH ae;omega
def rO(h:48<=g D i/\g D i<=57):cT (g D i)=ai:=by simpa[cT] using h
def ape(he:e<=U D)(aI:¬fH (g D e))(bE:a<=e)(h:dig 10 av (aU D a e)=J o)(aH:o≠[]):a<e/\cT (g D a)=ai/\gF cT D (a+1)=J e:=by
 have H_:a<e:=by
  rcases jw a e with aa|aa
  .exact aa
  .rw[m7 aa] at h;cases h;grind
 have:=(Vm tO he (λ_=>tO.end aI) bE h).2 rfl H_;grind
def avI(he:e<=U D)(aI:¬fH (g D e))(az:i<=e)(h:integer (aU D i e)=J z):gnum D i=J (11,e)/\(cT (g D i)=ai\/g D i=43\/g D i=45):=by
 have base:∀(b:Nat) p x,sY p b->(2<U (aU D i e)/\bf 2 (aU D i e)=[48,x])->x.toNat=120\/x.toNat=111\/x.toNat=98->n_ x.toNat=p->based b (ax 2 (aU D i e))=J z->gnum D i=J (11,e)/\(cT (g D i)=ai\/g D i=43\/g D i=45):=λb p x aJ ay ae er af=>by
  obtain⟨bq,bw,fm⟩:=aff he ay;rw[m6] at af;unfold based at af;cases aG:dig b av (aU D (i+2) e) with
  |none=>grind
  |some o=>
   have:=(Vm aJ he (λ_=>aJ.end aI) I aG).2 rfl bq;have aL:bg D i=i:=by unfold bg;grind
   refine⟨?_,bF (rO I)⟩;unfold gnum;rw[aL,ak I,ak (by rw[rO I];decide),aA ⟨bw,I⟩,ak a1,fm,er,aA this.1,this.2];rfl
 unfold integer at h;by_cases ep:2<U (aU D i e)/\bf 2 (aU D i e)=iF 0
 .rw[aA ep] at h;exact base 16 zs 120 Yb ep aE (by unfold n_;grind) h
 rw[ak ep] at h;by_cases c1:2<U (aU D i e)/\bf 2 (aU D i e)=iF 1
 .rw[aA c1] at h;exact base 8 zt 111 Yd c1 aE (by unfold n_;grind) h
 rw[ak c1] at h;by_cases c2:2<U (aU D i e)/\bf 2 (aU D i e)=iF 2
 .rw[aA c2] at h;exact base 2 zr 98 Yc c2 aE (by unfold n_;grind) h
 rw[ak c2] at h;unfold EU at h;have h1:i<e:=by
  rcases jw i e with aa|aa
  .exact aa
  .rw[m7 aa] at h;simp[top,dig] at h
 have Bb:top (aU D i e)=g D i:=BI h1 he;have tn:(if top (aU D i e)=43\/top (aU D i e)=45 then(aU D i e).tail else aU D i e)=aU D (bg D i) e:=by
  rw[Bb];unfold bg;split
  .rw[iV I he];rfl
  .rfl
 rw[tn] at h;have x5:bg D i<=e:=by unfold bg;grind
 cases aG:dig 10 av (aU D (bg D i) e) with
 |none=>grind
 |some o=>
  rw[aG] at h;simp only at h;by_cases aV:o=[]\/(1<U o/\g o 0=48)
  .grind
  obtain⟨bx,bH,cq⟩:=ape he aI x5 aG (λe=>aV (bF e));have h_:bg D i<U D:=I
  have c:=js bH;obtain⟨cg,cJ,r,eP⟩:=Jk tO he bH h_ cq;rw[cJ] at aG;cases aG;unfold fH jN at aI;constructor
  .have hQ:¬(g D (bg D i)=48/\(g D (bg D i+1)=120\/g D (bg D i+1)=111\/g D (bg D i+1)=98)):=by
    rintro⟨_,q⟩;have fg:=cu (D:=D) (i:=bg D i+1) I;rw[gF,gw fg,ak (by intro e;have:=js e;omega),ak I] at cq;grind
   have n7:¬(g D (bg D i)=48/\bg D i+1<e):=by
    rintro⟨bq,bw⟩;have af:=Ro tO he I cq;have bk:=QP af (by rw[iV bw he];grind);have ar:du (aU D (bg D i) e)=D[bg D i]::du (aU D (bg D i+1) e):=by
     rw[iV cg he,sH (by rw[hX h_];omega)]
    rw[ar] at aV;refine aV (bt ⟨?_,?_⟩)
    .cases b5:du (aU D (bg D i+1) e) with
     |nil=>grind
     |cons x y=>simp
    .rw[fu h_] at bq;simpa[g] using bq
   unfold gnum;rw[ak I,ak al,ak hQ,cq];simp only;rw[ak n7];unfold numTail rS;rw[ak I];simp only;unfold rR;rw[ak I];simp only[zF];rw[ak (by unfold si;omega)]
  .unfold bg at bH;grind
end
section
variable{D:B}{i j e k n m b p q a:Nat}{s l o:B}{A:B}{M:Nat->Prop}
def cut_g(fO:∀c:UInt8,c∈A↔M c.toNat)(he:e<=U D):∀{a:Nat},a<=e->match cut A (aU D a e) with
  |none=>∀x,a<=x->x<e->¬M (g D x)
  |J (u,v)=>∃p,a<=p/\p<e/\u=aU D a p/\v=aU D (p+1) e/\M (g D p)/\∀x,a<=x->x<p->¬M (g D x):=λ{a}=>by
 induction hm:e-a using Nat.strongRecOn generalizing a with
 |ind m bR=>
  intro bE;by_cases H_:a<e
  .have au:a<U D:=I
   rw[iV H_ he,cut];by_cases ay:D[a]∈A
   .rw[aA ay];have:=(fO _).1 ay;rw[hX au] at this;exact⟨a,bQ _,H_,(m7 (bQ _)).symm,rfl,this,λx aa ad=>I⟩
   .rw[ak ay];have aI:¬M (g D a):=λe=>ay ((fO _).2 (by rw[hX au];exact e));have:=bR (e-(a+1)) I rfl I;cases aF:cut A (aU D (a+1) e) with
    |none=>
     grind
    |some y=>
     obtain⟨u,v⟩:=y;rw[aF] at this;obtain⟨p,aa,ad,an,aT,bN,cB⟩:=this;refine⟨p,I,ad,?_,aT,bN,λx bq bw=>?_⟩
     .show D[a]::u=aU D a p;rw[an];exact(iV I I).symm
     grind
  .rw[m7 I];exact λx aa ad=>I
def ZB(fO:∀c:UInt8,c∈A↔M c.toNat)(he:e<=U D)(aJ:a<=p)(IB:p<e)(cM:M (g D p))(aI:∀x,a<=x->x<p->¬M (g D x)):cut A (aU D a e)=J (aU D a p,aU D (p+1) e):=by
 have:=cut_g fO he (a:=a) I;grind
def ZC(fO:∀c:UInt8,c∈A↔M c.toNat)(he:e<=U D)(aJ:a<=e)(aI:∀x,a<=x->x<e->¬M (g D x)):cut A (aU D a e)=ab:=by
 have:=cut_g fO he (a:=a) I;grind
def ts(c:Nat):Prop:=c=101\/c=69
def Dk(c:Nat):Prop:=c=46
def O_(c:UInt8):c∈([101,69]:B)↔ts c.toNat:=by
 simp only[r9,List.not_mem_nil,or_false,ts];rw[<-oF,<-oF];grind
def O'(c:UInt8):c∈([46]:B)↔Dk c.toNat:=by
 simp only[r9,List.not_mem_nil,or_false,Dk];rw[<-oF];grind
def ku(D:B)(i j:Nat):Prop:=cT (g D i)=ai/\i<U D/\gF cT D (i+1)=J j
def ku.lt(h:ku D i j):i<j/\j<=U D:=by
 have:=HO (D:=D) (i:=i+1) (by have:=h.2.1;omega) h.2.2;omega
def ku.dig(h:ku D i j):dig 10 av (aU D i j)=J (du (aU D i j)):=(Jk tO h.lt.2 h.1 h.2.1 h.2.2).2.1
def ku.ne(h:ku D i j):∃r,du (aU D i j)=(D[i]'h.2.1)::r:=(Jk tO h.lt.2 h.1 h.2.1 h.2.2).2.2
def ku.mo(h:ku D i j):∀x,i<=x->x<j->g D x=95\/(48<=g D x/\g D x<=57):=λx aa ad=>by
 by_cases ae:x=i
 .subst ae;exact bt (js h.1)
 .rcases Rn tO h.2.2 x I ad with h|⟨d,h,aG⟩
  .exact bF h
  .have:=rH h;omega
def axa(h:∀x,x<U l->g l x=95\/(48<=g l x/\g l x<=57)):∀c∈du l,k4 c=ai:=by
 intro c ay;unfold du at ay;rw[List.mem_filter] at ay;obtain⟨aa,ad⟩:=ay;obtain⟨x,ae,rfl⟩:=KC.1 aa;have:=h x ae;rw[fu ae] at this;simp only[r_] at ad;simp only[k4,r_];omega
def ku.k4(h:ku D i j):∀c∈du (aU D i j),k4 c=ai:=axa λx ae=>by
 rw[hi h.lt.2] at ae;rw[gY I h.lt.2];exact h.mo _ I I
def ku.of(aC:j<=U D)(aI:j<U D->cT (g D j)=av/\g D j≠95)(eK:i<=j)(h:F.dig 10 av (aU D i j)=J o)(aH:o≠[]):ku D i j:=by
 have a':i<j:=by
  rcases jw i j with aa|aa
  .exact aa
  .rw[m7 aa] at h;cases h;grind
 have:=(Vm tO aC aI eK h).2 rfl a';exact⟨this.1,I,this.2⟩
inductive B'(D:B)(bS:Nat):Nat->Prop|no:g D bS≠46->B' D bS bS|yes {bc:Nat}:g D bS=46->ku D (bS+1) bc->B' D bS bc
inductive GU(D:B)(bc:Nat):Nat->Prop|no:¬ts (g D bc)->GU D bc bc|yes {e:Nat}:ts (g D bc)->ku D (bg D (bc+1)) e->GU D bc e
structure vM(D:B)(a bS bc e:Nat):Prop where
 ih:ku D a bS
 FW:¬(g D a=48/\a+1<bS)
 cf:B' D bS bc
 ex:GU D bc e
 is:¬(bS=bc/\bc=e)
 hQ:¬(g D a=48/\(g D (a+1)=120\/g D (a+1)=111\/g D (a+1)=98))
def adm(h:¬cT c=ai):cT c=av:=al
def ku.N0(h:cT (g D i)=ai)(ad:gF cT D (i+1)=J j):ku D i j:=⟨h,cu (by have:=js h;omega),ad⟩
def axk(h:numTail D i=J (10,e)):∃bc,B' D i bc/\GU D bc e/\¬(i=bc/\bc=e)/\¬si (g D e):=by
 unfold numTail at h;cases bj:rS D i with
 |none=>grind
 |some x=>
  obtain⟨bc,cj⟩:=x;rw[bj] at h;simp only at h;have aa:B' D i bc/\(cj=10\/(cj=11/\i=bc))/\(i≠bc\/cj=11):=by
   unfold rS at bj;split at bj
   .split at bj
    .rename_i bq bw;cases aX:gF cT D (i+2) with
     |none=>grind
     |some y=>
      rw[aX] at bj;simp only[jl,dg,hI] at bj;obtain⟨rfl,rfl⟩:=bj;have aG:=ku.N0 (i:=i+1) bw aX;have:=aG.lt;exact⟨.yes bq aG,bF rfl,bF I⟩
    .cases bj
   .simp only[dg,hI] at bj;obtain⟨rfl,rfl⟩:=bj;exact⟨.no b8,bt ⟨rfl,rfl⟩,bt rfl⟩
  cases he:rR D bc cj with
  |none=>grind
  |some x=>
   obtain⟨eL,eI⟩:=x;rw[he] at h;simp only[zF] at h;split at h
   .cases h
   .rename_i jS;simp only[dg,hI] at h;obtain⟨rfl,rfl⟩:=h;refine⟨bc,aa.1,?_⟩;unfold rR at he;split at he
    .split at he
     .rename_i bq bw;cases aX:gF cT D (bg D (bc+1)+1) with
      |none=>grind
      |some y=>
       rw[aX] at he;simp only[jl,dg,hI] at he;obtain⟨rfl,_⟩:=he;have aG:=ku.N0 (i:=bg D (bc+1)) bw aX;have:=aG.lt;have aL:bc+1<=bg D (bc+1):=by unfold bg;grind
       exact⟨.yes bq aG,I,jS⟩
     .cases he
    .simp only[dg,hI] at he;obtain⟨rfl,rfl⟩:=he;exact⟨.no b8,I,jS⟩
def axo(bj:B' D bS bc)(ae:GU D bc e)(Ip:¬(bS=bc/\bc=e))(bE:¬si (g D e)):numTail D bS=J (10,e):=by
 have aa:rS D bS=J (bc,if bS=bc then 11 else 10):=by
  unfold rS;cases bj with
  |no h=>grind
  |yes h aG=>
   have:=aG.lt;rw[aA h,aA aG.1,aG.2.2,ak I];rfl
 unfold numTail;rw[aa];simp only;have ad:rR D bc (if bS=bc then 11 else 10)=J (e,10):=by
  unfold rR;cases ae with
  |no h=>rw[ak (show¬(g D e=101\/g D e=69) from h),ak I]
  |yes h aG=>rw[aA (show g D bc=101\/g D bc=69 from h),aA aG.1,aG.2.2];rfl
 rw[ad];simp only[zF];grind
def Rb(h:gnum D i=J (10,e))(aI:¬(g D (bg D i)=105\/g D (bg D i)=110)):∃bS bc,vM D (bg D i) bS bc e/\¬si (g D e):=by
 unfold gnum at h;rw[ak aI] at h;split at h
 .cases h
 .rename_i aG;split at h
  .simp_all
  .rename_i hQ;split at h
   .cases h
   .rename_i bS aX;split at h
    .cases h
    .rename_i aV;obtain⟨bc,aa,ad,an,aT⟩:=axk h;exact⟨bS,bc,⟨ku.N0 al aX,aV,aa,ad,an,hQ⟩,aT⟩
def aqd(h:vM D (bg D i) bS bc e)(bE:¬si (g D e)):gnum D i=J (10,e):=by
 have aG:=js h.ih.1;unfold gnum;rw[ak I,ak (by rw[h.ih.1];decide),ak h.hQ,h.ih.2.2];simp only;rw[ak h.FW];exact axo h.cf h.ex h.is bE
def vM.Cx(h:vM D a bS bc e):a<bS/\bS<=bc/\bc<=e/\e<=U D:=by
 have aa:=h.ih.lt;have ad:bS<=bc/\bc<=U D:=by
  cases h.cf with
  |no _=>omega
  |yes _ aG=>have:=aG.lt;omega
 have an:bc<=e/\e<=U D:=by
  cases h.ex with
  |no _=>omega
  |yes _ aG=>
   have:=aG.lt;have aL:bc+1<=bg D (bc+1):=by unfold bg;grind
   omega
 omega
noncomputable def mu(D:B)(bS bc:Nat):B:=if bS=bc then[] else du (aU D (bS+1) bc)
noncomputable def fX'(D:B)(i a bS bc e:Nat):Nat⊕Nat:=if bc=e then vc (decide (g D i=45)) (du (aU D a bS)++mu D bS bc) (-(U (mu D bS bc):Int)) else
 match whole 10 100000 0 (du (aU D (bg D (bc+1)) e)) with
 |none=>.inr 2
 |some n=>vc (decide (g D i=45)) (du (aU D a bS)++mu D bS bc) (-(U (mu D bS bc):Int)+if g D (bc+1)=45 then-(n:Int) else(n:Int))
def ku.UC(h:ku D i j):∀x,i<=x->x<j->¬Dk (g D x)/\¬ts (g D x):=λx aa ad=>by
 have:=h.mo x aa ad;unfold Dk ts;omega
def JB(az:i<e)(he:e<=U D):(if top (aU D i e)=43\/top (aU D i e)=45 then(aU D i e).tail else aU D i e)=aU D (bg D i) e:=by
 rw[BI az he];unfold bg;split
 .rw[iV I he];rfl
 .rfl
def aaq(h:vM D (bg D i) bS bc e):kK (aU D i e)=fX' D i (bg D i) bS bc e:=by
 obtain⟨cg,cJ,eP,hc⟩:=h.Cx;have x5:i<=bg D i:=by unfold bg;grind
 have h1:i<e:=I
 have aG:=js h.ih.1;have Bb:=BI (D:=D) (p:=i) (j:=e) h1 hc;have aex:∀x,bg D i<=x->x<bc->¬ts (g D x):=λx aa ad=>by
  by_cases ae:x<bS
  .exact(h.ih.UC x aa ae).2
  .cases h.cf with
   |no _=>omega
   |yes q aG=>
    by_cases k3:x=bS
    .subst k3;unfold ts;omega
    .exact(aG.UC x I ad).2
 have aew:∀x,bg D i<=x->x<bS->¬Dk (g D x):=λx aa ad=>(h.ih.UC x aa ad).1;have c1:cut [101,69] (aU D (bg D i) e)=if bc=e then ab else J (aU D (bg D i) bc,aU D (bc+1) e):=by
  cases ae:h.ex with
  |no q=>rw[aA rfl];exact ZC O_ hc I aex
  |yes q aG=>
   have:=aG.lt;have aL:bc+1<=bg D (bc+1):=by unfold bg;grind
   rw[ak I];exact ZB O_ hc I I q aex
 have c2:cut [46] (aU D (bg D i) bc)=if bS=bc then ab else J (aU D (bg D i) bS,aU D (bS+1) bc):=by
  cases ae:h.cf with
  |no q=>rw[aA rfl];exact ZC O' I I aew
  |yes q aG=>
   have:=aG.lt;rw[ak I];exact ZB O' I I I q aew
 have asq:fstO (cut [101,69] (aU D (bg D i) e)) (aU D (bg D i) e)=aU D (bg D i) bc:=by
  rw[c1];split
  .rename_i q;rw[q];rfl
  .rfl
 have asY:fstO (cut [46] (aU D (bg D i) bc)) (aU D (bg D i) bc)=aU D (bg D i) bS:=by
  rw[c2];split
  .rename_i q;rw[q];rfl
  .rfl
 have cn:g (aU D (bg D i) e) 0=g D (bg D i):=gY I hc;unfold kK;simp only;rw[JB h1 hc,Bb];rw[ak (λq=>by have:=mQ (λl=>g l 0) q;simp only[cn] at this;have ad:g ([105,110,102]:B) 0=105:=rfl;omega),ak (λq=>by have:=mQ (λl=>g l 0) q;simp only[cn] at this;have ad:g ([110,97,110]:B) 0=110:=rfl;omega)];rw[asq,asY,h.ih.dig];simp only;obtain⟨r,aF⟩:=h.ih.ne;have Ip:¬((cut [101,69] (aU D (bg D i) e)).isNone=ai/\(cut [46] (aU D (bg D i) bc)).isNone=ai):=by
  rw[c1,c2];rintro⟨bq,bw⟩;split at bq
  .split at bw
   .exact h.is ⟨b8,b8⟩
   .cases bw
  .cases bq
 rw[ak Ip];have aV:¬(du (aU D (bg D i) bS)=[]\/(1<U (du (aU D (bg D i) bS))/\g (du (aU D (bg D i) bS)) 0=48)):=by
  rintro(q|⟨bq,bw⟩)
  .grind
  .rw[aF] at bw;have fm:g D (bg D i)=48:=by rw[fu h.ih.2.1];simpa[g] using bw
   have jt:=Dv (aU D (bg D i) bS);rw[hi I] at jt;exact h.FW ⟨fm,I⟩
 rw[ak aV];have asl:∀yg,CM (decide (g D i=45)) (du (aU D (bg D i) bS)) ((cut [46] (aU D (bg D i) bc)).map (·.2)) yg=fpow (decide (g D i=45)) (du (aU D (bg D i) bS)++mu D bS bc) (-(U (mu D bS bc):Int)) yg:=λyg=>by
  rw[c2];unfold mu;cases ae:h.cf with
  |no q=>rw[aA rfl,aA rfl];simp[CM]
  |yes q aG=>
   have:=aG.lt;rw[ak I,ak I];simp only[jl,CM];rw[aG.dig];simp only;obtain⟨r,aF⟩:=aG.ne;rw[ak al]
 rw[asl,c1];unfold fX';cases ae:h.ex with
 |no q=>rw[aA rfl,aA rfl];rfl
 |yes q aG=>
  have:=aG.lt;have aL:bc+1<=bg D (bc+1):=by unfold bg;grind
  rw[ak I,ak I];simp only[jl,fpow];unfold pwr;rw[JB I hc,aG.dig];simp only;obtain⟨r,aF⟩:=aG.ne;rw[ak al,BI I hc];cases whole 10 100000 0 (du (aU D (bg D (bc+1)) e)) with
  |none=>rfl
  |some n=>rfl
def LW(h:vc minus ds z=.inr c):c=2:=by
 unfold vc at h;grind
def aqb(h:vM D (bg D i) bS bc e)(ay:kK (aU D i e)=.inr c):c=2:=by
 rw[aaq h] at ay;unfold fX' at ay;split at ay
 .exact LW ay
 .split at ay
  .grind
  .exact LW ay
def aqg(he:e<=U D)(aI:¬fH (g D e))(az:i<=e)(h:kK (aU D i e)=.inl v):
  (∃bS bc,vM D (bg D i) bS bc e)\/(aU D (bg D i) e=[105,110,102]/\v=pJ (decide (g D i=45)) TB)\/(aU D (bg D i) e=[110,97,110]/\v=9221120237041090561):=by
 have ma:=aI;unfold fH jN at ma;have h1:i<e:=by
  rcases jw i e with aa|aa
  .exact aa
  .rw[m7 aa] at h;simp[kK,top,cut,fstO] at h
 have x5:i<=bg D i/\bg D i<=e:=by unfold bg;grind
 have Bb:=BI (D:=D) (p:=i) (j:=e) h1 he;unfold kK at h;simp only at h;rw[JB h1 he,Bb] at h;by_cases c1:aU D (bg D i) e=[105,110,102]
 .grind
 rw[ak c1] at h;by_cases c2:aU D (bg D i) e=[110,97,110]
 .grind
 rw[ak c2] at h;left
 have jR:=cut_g O_ he x5.2;have⟨bc,aw,ar,aS,bl⟩:∃bc,bg D i<=bc/\bc<=e/\fstO (cut [101,69] (aU D (bg D i) e)) (aU D (bg D i) e)=aU D (bg D i) bc/\((cut [101,69] (aU D (bg D i) e)=ab/\bc=e)\/(cut [101,69] (aU D (bg D i) e)=J (aU D (bg D i) bc,aU D (bc+1) e)/\bc<e/\ts (g D bc))):=by
  cases aF:cut [101,69] (aU D (bg D i) e) with
  |none=>exact⟨e,x5.2,bQ _,rfl,.inl ⟨rfl,rfl⟩⟩
  |some x=>
   obtain⟨u,v⟩:=x;rw[aF] at jR;obtain⟨p,eb,gS,o5,Dz,Jn,ae6⟩:=jR;exact⟨p,eb,I,by rw[o5];rfl,.inr ⟨by rw[o5,Dz],gS,Jn⟩⟩
 have H3:=cut_g O' (D:=D) (e:=bc) I aw;have⟨bS,f1,f2,f3,f4⟩:∃bS,bg D i<=bS/\bS<=bc/\fstO (cut [46] (aU D (bg D i) bc)) (aU D (bg D i) bc)=aU D (bg D i) bS/\((cut [46] (aU D (bg D i) bc)=ab/\bS=bc)\/(cut [46] (aU D (bg D i) bc)=J (aU D (bg D i) bS,aU D (bS+1) bc)/\bS<bc/\Dk (g D bS))):=by
  cases aF:cut [46] (aU D (bg D i) bc) with
  |none=>exact⟨bc,aw,bQ _,rfl,.inl ⟨rfl,rfl⟩⟩
  |some x=>
   obtain⟨u,v⟩:=x;rw[aF] at H3;obtain⟨p,eb,gS,o5,Dz,Jn,ae6⟩:=H3;exact⟨p,eb,I,by rw[o5];rfl,.inr ⟨by rw[o5,Dz],gS,Jn⟩⟩
 have bB:∀c:Nat,¬(48<=c/\c<=57)->cT c=av:=λc ay=>adm λq=>ay (js q);have Z3:cT (g D bc)=av/\g D bc≠95/\g D bc≠120/\g D bc≠111/\g D bc≠98/\(bc<e\/g D bc≠46):=by
  rcases bl with ⟨_,q⟩|⟨_,bq,bw⟩
  .grind
  .unfold ts at bw;grind
 have Z2:cT (g D bS)=av/\g D bS≠95/\g D bS≠120/\g D bS≠111/\g D bS≠98:=by
  rcases f4 with ⟨_,q⟩|⟨_,bq,bw⟩
  .grind
  .unfold Dk at bw;grind
 rw[aS,f3] at h;by_cases Ip:(cut [101,69] (aU D (bg D i) e)).isNone=ai/\(cut [46] (aU D (bg D i) bc)).isNone=ai
 .grind
 rw[ak Ip] at h;cases aG:dig 10 av (aU D (bg D i) bS) with
 |none=>grind
 |some o=>
  rw[aG] at h;simp only at h;by_cases aV:o=[]\/(1<U o/\g o 0=48)
  .grind
  rw[ak aV] at h;have ih:=ku.of I (λ_=>⟨Z2.1,Z2.2.1⟩) f1 aG (λq=>aV (.inl q));have au:=ih.lt;rw[ih.dig] at aG;cases aG;refine⟨bS,bc,ih,?_,?_,?_,?_,?_⟩
  .rintro⟨bq,bw⟩;have af:=Ro tO (D:=D) (e:=bS) I I ih.2.2;have bk:=QP af (by rw[iV bw I];grind);have ar:du (aU D (bg D i) bS)=D[bg D i]'ih.2.1::du (aU D (bg D i+1) bS):=by
    rw[iV au.1 I,sH (by rw[hX ih.2.1];omega)]
   rw[ar] at aV;refine aV (.inr ⟨?_,?_⟩)
   .cases b5:du (aU D (bg D i+1) bS) with
    |nil=>grind
    |cons x y=>simp
   .rw[fu ih.2.1] at bq;simpa[g] using bq
  .rcases f4 with ⟨jD,q⟩|⟨jD,bq,bw⟩
   .rw[<-q];refine .no ?_;rw[q];rcases bl with ⟨cv,r⟩|⟨_,cc,cK⟩
    .omega
    .unfold ts at cK;omega
   .rw[jD] at h;simp only[jl,CM] at h;cases h9:dig 10 av (aU D (bS+1) bc) with
    |none=>grind
    |some o2=>
     rw[h9] at h;simp only at h;by_cases ib:o2=[]
     .grind
     .exact .yes bw (ku.of I (λ_=>⟨Z3.1,Z3.2.1⟩) I h9 ib)
  .rcases bl with ⟨jD,q⟩|⟨jD,bq,bw⟩
   .rw[<-q];refine .no ?_;rw[q];unfold ts;omega
   .rw[jD] at h;simp only[jl] at h;have yg:∀ds (z:Int),fpow (decide (g D i=45)) ds z (J (aU D (bc+1) e))=.inl v->ku D (bg D (bc+1)) e:=λds z bO=>by
     unfold fpow at bO;simp only at bO;have wx:bc+1<e:=by
      rcases jw (bc+1) e with aa|aa
      .exact aa
      .rw[m7 aa] at bO;simp[pwr,top,dig] at bO
     unfold pwr at bO;rw[JB wx he] at bO;cases Ig:dig 10 av (aU D (bg D (bc+1)) e) with
     |none=>grind
     |some o4=>
      rw[Ig] at bO;simp only at bO;by_cases FD:o4=[]
      .grind
      .exact ku.of he (λ_=>tO.end aI) (by unfold bg;grind) Ig FD
    refine .yes bw ?_;unfold CM at h;grind
  .grind
  .rintro⟨_,q⟩;by_cases ae:bg D i+1<bS
   .have:=ih.mo (bg D i+1) I ae;omega
   grind
end
section
variable{D:B}{i j e k n m p q a:Nat}{s l o:B}
def UB(a b:B):du (a++b)=du a++du b:=by unfold du;grind
def tB(aa:i<=k)(ad:k<=j):aU D i k++aU D k j=aU D i j:=VD aa ad
def jz(o:B):List Nat:=o.map λc=>c.toNat-48
def QI(a b:B):jz (a++b)=jz a++jz b:=by unfold jz;simp
def ZK(a:B):U (jz a)=U a:=by unfold jz;simp
def U':∀{o:B} (rest:B) (ms:List Nat) (f:Nat) (dot:Bool),(∀c∈o,k4 c=ai)->rM (o++rest) ms f dot=rM rest (ms++jz o) (if dot=ai then f+U o else f) dot
 |[],rest,ms,f,dot,_=>by cases dot<;>simp[jz]
 |c::o,rest,ms,f,dot,h=>by
  have ay:=h c (uO ..);have Sm:48<=c.toNat/\c.toNat<=57:=by simpa[k4] using ay
  rw[uM,rM,ak I,aA ay,U' rest _ _ dot λx ae=>h x (xf _ ae)];have aw:ms++[c.toNat-48]++jz o=ms++jz (c::o):=by simp[jz]
  grind
def V_:∀{o:B} {m n v:Nat},(∀c∈o,k4 c=ai)->9<=m->n<=m->whole 10 m n o=J v->v=n*10^U o+b' (jz o)/\v<=m
 |[],m,n,v,_,_,aI,h=>by cases h;simp[jz,b'];exact aI
 |c::o,m,n,v,aG,hm,aI,h=>by
  have Sm:48<=c.toNat/\c.toNat<=57:=by simpa[k4] using aG c (uO ..)
  have ae:fQ c.toNat=J (c.toNat-48):=by unfold fQ;rw[aA Sm]
  rw[whole,ae] at h;simp only at h;by_cases a':(m-(c.toNat-48))/10<n
  .grind
  .rw[ak a'] at h;have:=V_ (λx ae=>aG x (xf _ ae)) hm I h;refine⟨?_,this.2⟩;rw[this.1];have aw:jz (c::o)=[c.toNat-48]++jz o:=rfl;rw[aw,EX,ZK,nS,ph,zY];have ar:b' [c.toNat-48]=c.toNat-48:=by simp[b']
   grind
def T1:∀l:B,∃z,l=List.replicate z 48++lead0 l
 |[]=>⟨0,rfl⟩
 |c::l=>by
  rw[lead0];split
  .rename_i h;obtain⟨z,aV⟩:=T1 l;refine⟨z+1,?_⟩;rw[ahB,uM,<-aV];have:c=48:=oF.1 h.1;rw[this]
  simp_all
def azW(l:B):∃z,l=sM l++List.replicate z 48:=by
 obtain⟨z,aV⟩:=T1 l.reverse;refine⟨z,?_⟩;have:=mQ List.reverse aV;rw[List.reverse_reverse,List.reverse_append,List.reverse_replicate] at this;exact this
def ZL(z:Nat):jz (List.replicate z 48)=List.replicate z 0:=by unfold jz;simp
def QT:∀z,b' (List.replicate z 0)=0
 |0=>rfl
 |z+1=>by rw[List.replicate_succ',Az,QT z]
def ap1(aG:∀c∈ds,k4 c=ai)(h:vc minus ds bP=.inl v):∃n z:Nat,b' (jz ds)=n*10^z/\n<=999999999999999/\z<=U ds/\((n=0/\v=pJ minus 0)\/(n≠0/\-22<=bP+z/\bP+z<=22/\v=pJ minus (w1 n (bP+z)))):=by
 obtain⟨fC,aa⟩:=T1 ds;obtain⟨j6,ad⟩:=azW (lead0 ds);have h9:∀c∈sM (lead0 ds),k4 c=ai:=λc ay=>aG c al;unfold vc at h;cases hw:whole 10 999999999999999 0 (sM (lead0 ds)) with
 |none=>grind
 |some n=>
  rw[hw] at h;simp only at h;have aD:=V_ h9 aE aE hw;have au:U (lead0 ds)-U (sM (lead0 ds))=j6:=by
   grind
  rw[au] at h;refine⟨n,j6,?_,aD.2,?_,?_⟩
  .rw[aa,QI,EX,ZL,QT,ad,QI,EX,ZL,QT,aD.1];grind
  .grind
  grind
def avL{P Q fT fU w:Nat}(eR:0<Q)(CT:0<fU)(ae:P*fU=fT*Q)(h:mG P Q w):mG fT fU w:=by
 obtain⟨s,t,aa,ad,an,aT,bN⟩:=h;refine⟨s,t,?_,?_,an,aT,?_⟩
 .refine Nat.le_of_mul_le_mul_left ?_ eR;calc Q*(2^52*(fU*2^t))=2^52*(Q*2^t)*fU:=iN
   _<=P*2^s*fU:=jx _ aa
   _=P*fU*2^s:=iN
   _=Q*(fT*2^s):=al
 .refine O8 (a:=Q) ?_;calc Q*(fT*2^s)=fT*Q*2^s:=iN
   _=P*2^s*fU:=al
   _<2^53*(Q*2^t)*fU:=vH ad CT
   _=Q*(2^53*(fU*2^t)):=iN
 .rw[bN];congr 1
  refine Jv (iI eR (pX t)) (iI CT (pX t)) ?_;grind
def ae8{n z:Nat}:lE n (bP+z)*jZ bP=lE (n*10^z) bP*jZ (bP+z):=by
 unfold lE jZ;have h:(bP+z).toNat+(-bP).toNat=z+bP.toNat+(-(bP+z)).toNat:=I
 calc n*10^(bP+z).toNat*10^(-bP).toNat=n*10^((bP+z).toNat+(-bP).toNat):=al
  _=n*10^(z+bP.toNat+(-(bP+z)).toNat):=by rw[h]
  _=n*10^z*10^bP.toNat*10^(-(bP+z)).toNat:=al
set_option exponentiation.threshold 2000 in
def ayb{e:Int}(aI:n<=2^53)(ad:e<=22):lE n e<jZ e*2^1000:=by
 have aa:lE n e<=2^53*10^22:=aB0 aI (l4 aE I);have an:2^53*10^22<2^1000:=I
 have aT:1*2^1000<=jZ e*2^1000:=jx _ (wY e);omega
def Qq(h:b%2^63<=2047*2^52):vY b=b:=by
 unfold vY;rw[aA];have e:FloatKind.f64.format=Ieee.double:=rfl;rw[e];unfold Ieee.Format.order;have aI:∀s f,Ieee.double.read b≠.nan s f:=λs f=>by
  unfold Ieee.Format.read;rw[agA,Lw,Nq];simp only;split
  .grind
  .split
   .exact λe=>by cases e
   .split
    .grind
    .omega
 cases aF:Ieee.double.read b with
 |nan s f=>grind
 |infinity s=>cases s<;>rfl
 |number s m p=>
  show(J (compare (Ieee.signed s m (p-min p p).toNat) (Ieee.signed s m (p-min p p).toNat))==J Ordering.eq)=ai;grind
def aw0(h:w<2^63):Op.negFloat .f64 w%2^63=w:=by
 have:Op.negFloat .f64 w=w^^^2^63:=rfl;rw[this,Nat.xor_mod_two_pow,GC h,Nat.mod_self,Nat.xor_zero]
def avM{P Q w:Nat}(eR:0<Q)(h:mG P Q w):w<=2047*2^52:=by
 obtain⟨s,t,aa,ad,an,aT,rfl⟩:=h;have:=Jw (iI eR (pX t)) ad;omega
def Ze(h:w<=2047*2^52):vY (pJ neg w)=pJ neg w:=by
 refine Qq ?_;unfold pJ;split
 .rw[aw0 I];exact h
 .omega
def afp:∀{o:B} {n:Nat},(∀c∈o,k4 c=ai)->n*10^U o+b' (jz o)<10000->rE o n=n*10^U o+b' (jz o)
 |[],n,_,_=>by simp[rE,jz,b']
 |c::o,n,aG,h=>by
  have Sm:48<=c.toNat/\c.toNat<=57:=by simpa[k4] using aG c (uO ..)
  have aw:jz (c::o)=[c.toNat-48]++jz o:=rfl;have ar:b' [c.toNat-48]=c.toNat-48:=by simp[b']
  have aS:n*10^U (c::o)+b' (jz (c::o))=(n*10+(c.toNat-48))*10^U o+b' (jz o):=by
   rw[aw,EX,ZK,nS,ph,zY,ar,qE n 10,xh 10,gL]
  rw[aS] at h⊢;have aJ:0<10^U o:=ob aE;have aI:n*10+(c.toNat-48)<10000:=by
   have:(n*10+(c.toNat-48))*1<=(n*10+(c.toNat-48))*10^U o:=nU _ aJ;omega
  rw[rE,aA I];exact afp (λx ae=>aG x (xf _ ae)) h
noncomputable def vb(D:B)(bc e:Nat):B:=du (aU D (bg D (bc+1)) e)
noncomputable def CL(D:B)(bc e:Nat):Int:=if bc=e then 0 else if g D (bc+1)=45 then-(rE (vb D bc e) 0:Int) else(rE (vb D bc e) 0:Int)
def apY(h:B' D bS bc):∀c∈mu D bS bc,k4 c=ai:=by
 unfold mu;cases h with
 |no _=>grind
 |yes q aG=>have:=aG.lt;rw[ak I];exact aG.k4
def aap(h:vM D a bS bc e):∃r,rM (du (aU D a e)) [] 0 av=(jz (du (aU D a bS)++mu D bS bc),U (mu D bS bc),r)/\((bc=e/\r=[])\/(bc<e/\∃c es,r=c::(es++vb D bc e)/\(c.toNat=101\/c.toNat=69)/\ku D (bg D (bc+1)) e/\((es=[]/\g D (bc+1)≠45)\/(es=[43]/\g D (bc+1)≠45)\/(es=[45]/\g D (bc+1)=45)))):=by
 obtain⟨cg,cJ,eP,hc⟩:=h.Cx;have tail:∃r,du (aU D bc e)=r/\(∀ms (f:Nat) dot,rM r ms f dot=(ms,f,r))/\((bc=e/\r=[])\/(bc<e/\∃c es,r=c::(es++vb D bc e)/\(c.toNat=101\/c.toNat=69)/\ku D (bg D (bc+1)) e/\((es=[]/\g D (bc+1)≠45)\/(es=[43]/\g D (bc+1)≠45)\/(es=[45]/\g D (bc+1)=45)))):=by
  cases h.ex with
  |no q=>exact⟨[],by rw[m7 (bQ _)];rfl,λ_ _ _=>rfl,bF ⟨rfl,rfl⟩⟩
  |yes q aG=>
   have au:=aG.lt;have aL:bc+1<=bg D (bc+1):=by unfold bg;grind
   have aC:bc<U D:=I
   unfold ts at q;have xR:∃es,du (aU D (bc+1) (bg D (bc+1)))=es/\((es=[]/\g D (bc+1)≠45)\/(es=[43]/\g D (bc+1)≠45)\/(es=[45]/\g D (bc+1)=45)):=by
    by_cases ux:g D (bc+1)=43\/g D (bc+1)=45
    .have aw:bg D (bc+1)=bc+2:=by unfold bg;grind
     have fg:bc+1<U D:=I
     rw[aw,iV I I,m7 I,sH (by rw[hX fg];omega)];refine⟨_,rfl,?_⟩;rcases ux with bq|bq
     .have:D[bc+1]=43:=oF.1 (by rw[hX fg,bq];rfl);exact bt (bF ⟨by rw[this];rfl,I⟩)
     .have:D[bc+1]=45:=oF.1 (by rw[hX fg,bq];rfl);exact bt (bt ⟨by rw[this];rfl,bq⟩)
    .have aw:bg D (bc+1)=bc+1:=by unfold bg;grind
     rw[aw,m7 (bQ _)];exact⟨[],rfl,bF ⟨rfl,I⟩⟩
   obtain⟨es,AY,vi⟩:=xR;have aS:du (aU D bc e)=D[bc]::(es++vb D bc e):=by
    rw[iV I hc,sH (by rw[hX aC];omega),<-tB (i:=bc+1) (k:=bg D (bc+1)) aL I,UB,AY];rfl
   refine⟨_,aS,λms f dot=>?_,bt ⟨I,_,es,rfl,by rw[hX aC];exact q,aG,vi⟩⟩;rw[rM,ak (by rw[hX aC];omega),ak];simp only[k4,r_];rw[hX aC];omega
 obtain⟨r,aF,cM,a3⟩:=tail;refine⟨r,?_,a3⟩;have atN:rM (du (aU D bS bc)++r) (jz (du (aU D a bS))) 0 av=(jz (du (aU D a bS))++jz (mu D bS bc),U (mu D bS bc),r):=by
  unfold mu;cases bj:h.cf with
  |no q=>rw[m7 (bQ _),aA rfl];show rM ([]++r) _ _ _=_;rw[sS,cM];simp[jz]
  |yes q aG=>
   have au:=aG.lt;have aC:bS<U D:=I
   rw[ak I,iV I I,sH (by rw[hX aC];omega),uM,rM,aA ⟨by rw[hX aC];exact q,rfl⟩,U' _ _ _ _ aG.k4,cM];simp
 rw[<-tB (i:=a) (k:=bS) I I,<-tB (i:=bS) (k:=bc) I I,UB,UB,aF,U' _ _ _ _ h.ih.k4];simp only[sS,uL,lL];rw[atN,QI]
def af2(h1:i<e)(he:e<=U D)(aG:48<=g D (bg D i)/\g D (bg D i)<=57):(g D i≠43/\g D i≠45/\du (aU D i e)=du (aU D (bg D i) e))\/(g D i=43/\du (aU D i e)=43::du (aU D (bg D i) e))\/(g D i=45/\du (aU D i e)=45::du (aU D (bg D i) e)):=by
 unfold bg at*;have au:i<U D:=I
 by_cases h:g D i=43\/g D i=45
 .rw[aA h,iV h1 he,sH (by rw[hX au];omega)];rcases h with h|h
  .have:D[i]=43:=oF.1 (by rw[hX au,h];rfl);exact bt (bF ⟨h,by rw[this]⟩)
  .have:D[i]=45:=oF.1 (by rw[hX au,h];rfl);exact bt (bt ⟨h,by rw[this]⟩)
 .rw[ak h];grind
def axb:∀(l:B) (k:Nat),k<U (du l)->g (du l) k≠95:=λl k aq=>by
 have hm:=(List.mem_filter.1 (show(du l)[k]∈l.filter (λc=>decide (c.toNat≠95)) from zW aq)).2;rw[fu aq];grind
def aqc(h:vM D (bg D i) bS bc e):FS (du (aU D i e)) (decide (g D i=45)) (jz (du (aU D (bg D i) bS)++mu D bS bc)) (U (mu D bS bc)) (CL D bc e):=by
 obtain⟨cg,cJ,eP,hc⟩:=h.Cx;have x5:i<=bg D i:=by unfold bg;grind
 obtain⟨r,aF,a3⟩:=aap h;obtain⟨cv,pE⟩:=h.ih.ne;have aG:=js h.ih.1;have dn:∃cc,du (aU D (bg D i) e)=D[bg D i]'h.ih.2.1::cc:=⟨du (aU D (bg D i+1) e),by
  rw[iV I hc,sH (by rw[hX h.ih.2.1];omega)]⟩
 obtain⟨cc,dn⟩:=dn;have cn:g (du (aU D (bg D i) e)) 0=g D (bg D i):=by rw[dn];exact hX h.ih.2.1
 refine⟨du (aU D (bg D i) e),r,?_,al,I,I,aF,?_,?_,λk aq=>axb _ k aq,λad an=>?_⟩
 .rcases af2 I hc aG with ⟨bq,bw,fm⟩|⟨bq,fm⟩|⟨bq,fm⟩
  .grind
  .grind
  grind
 .rw[pE];simp[jz]
 .unfold CL La;rcases a3 with ⟨rfl,rfl⟩|⟨bq,c,es,bw,fm,jt,eT⟩
  .exact bF ⟨rfl,I⟩
  .refine bt ⟨c,es,vb D bc e,bw,fm,?_,?_,jt.k4,?_⟩
   .grind
   .obtain⟨cK,e4⟩:=jt.ne;unfold vb;grind
   grind
 ·
  have AL:g D (bg D i)=48:=I
  have n3:bS=bg D i+1:=by
   have:=h.FW;omega
  have bk:∀c:Nat,c=46\/c=101\/c=69->c|||32≠120:=λc ay=>al
  have a':bg D i+1<e:=by
   have:=Dv (aU D (bg D i) e);rw[hi hc] at this;omega
  have tj:g D (bg D i+1)=46\/g D (bg D i+1)=101\/g D (bg D i+1)=69:=by
   rw[<-n3];cases h.cf with
   |yes q _=>exact bF q
   |no q=>
    cases h.ex with
    |no _=>omega
    |yes bw _=>exact bt bw
  have ar:du (aU D (bg D i) e)=D[bg D i]'h.ih.2.1::D[bg D i+1]'I::du (aU D (bg D i+2) e):=by
   rw[iV I hc,sH (by rw[hX h.ih.2.1];omega),iV a' hc,sH (by rw[hX I];omega)]
  have ct:g (du (aU D (bg D i) e)) 1=g D (bg D i+1):=by rw[ar];exact hX (D:=D) (i:=bg D i+1) I
  grind
def aqe(h:vM D (bg D i) bS bc e)(aL:FS (du (aU D i e)) neg ms f E):neg=decide (g D i=45)/\ms=jz (du (aU D (bg D i) bS)++mu D bS bc)/\f=U (mu D bS bc)/\E=CL D bc e:=by
 obtain⟨cg,cJ,eP,hc⟩:=h.Cx;have x5:i<=bg D i:=by unfold bg;grind
 obtain⟨r,aF,a3⟩:=aap h;have aG:=js h.ih.1;obtain⟨t,cC,aP,aa,ad,an,aT,bN,cB,de,hC⟩:=aL;have dn:du (aU D (bg D i) e)=D[bg D i]'h.ih.2.1::du (aU D (bg D i+1) e):=by
  rw[iV I hc,sH (by rw[hX h.ih.2.1];omega)]
 have cn:g (du (aU D (bg D i) e)) 0=g D (bg D i):=by rw[dn];exact hX h.ih.2.1
 have key:t=du (aU D (bg D i) e)/\neg=decide (g D i=45):=by
  rcases af2 I hc aG with ⟨bq,bw,fm⟩|⟨bq,fm⟩|⟨bq,fm⟩
  .rw[fm] at aP;rcases aP with ⟨a,b⟩|⟨a,b⟩|⟨a,b⟩
   .grind
   .have:g D (bg D i)=43:=by rw[<-cn,a];rfl
    omega
   .have:g D (bg D i)=45:=by rw[<-cn,a];rfl
    omega
  .rw[fm] at aP;rcases aP with ⟨a,b⟩|⟨a,b⟩|⟨a,b⟩
   .have:g t 0=43:=by rw[<-a];rfl
    omega
   .grind
   .simp at a
  .rw[fm] at aP;rcases aP with ⟨a,b⟩|⟨a,b⟩|⟨a,b⟩
   .have:g t 0=45:=by rw[<-a];rfl
    omega
   .simp at a
   grind
 obtain⟨rfl,FA⟩:=key;rw[aF] at aT;simp only[hI] at aT;obtain⟨rfl,rfl,rfl⟩:=aT;refine⟨FA,rfl,rfl,?_⟩;unfold CL;rcases a3 with ⟨rfl,rfl⟩|⟨bq,c,es,bw,fm,jt,eT⟩
 .rw[aA rfl];rcases cB with ⟨_,h⟩|⟨c,es,gX,h,_⟩
  .exact h
  .cases h
 .rw[ak I];obtain⟨cK,e4⟩:=jt.ne;have gI:=js jt.1;have aGM:top (vb D bc e)=g D (bg D (bc+1)):=by
   unfold vb;rw[e4];exact hX jt.2.1
  have xR:(es=[]/\top (vb D bc e)≠43/\top (vb D bc e)≠45)\/es=[43]\/es=[45]:=by
   grind
  rw[Yi cB bw xR];grind
def aqf(aM:U D<=400)(h:vM D (bg D i) bS bc e)(aL:kK (aU D i e)=.inl v)(Q:Option bL->Prop)(q:Q (J (.mk 2 0 v [] [] []))):tokQ D 10 i e Q:=by
 obtain⟨cg,cJ,eP,hc⟩:=h.Cx;have aG:=js h.ih.1;rw[aaq h] at aL;have avN:∀c∈du (aU D (bg D i) bS)++mu D bS bc,k4 c=ai:=λc ay=>by
  rcases zX.1 ay with ay|ay
  .exact h.ih.k4 c ay
  .exact apY h.cf c ay
 have br:U (mu D bS bc)<=400:=by
  unfold mu;split
  .simp
  .have:=Dv (aU D (bS+1) bc);rw[hi I] at this;omega
 have gj:U (du (aU D (bg D i) bS)++mu D bS bc)<=800:=by
  have:=Dv (aU D (bg D i) bS);rw[hi I] at this;grind
 have key:∃bP:Int,vc (decide (g D i=45)) (du (aU D (bg D i) bS)++mu D bS bc) bP=.inl v/\(bP=CL D bc e-U (mu D bS bc)\/9000<=bP\/bP<=-9000):=by
  unfold fX' at aL;unfold CL;by_cases aC:bc=e
  .grind
  .rw[ak aC] at aL⊢;have n2:ku D (bg D (bc+1)) e:=by
    cases h.ex with
    |no _=>omega
    |yes _ aG=>exact aG
   unfold vb;cases hw:whole 10 100000 0 (du (aU D (bg D (bc+1)) e)) with
   |none=>grind
   |some N=>
    rw[hw] at aL;simp only at aL;refine⟨_,aL,?_⟩;have aD:=V_ n2.k4 aE aE hw;by_cases a7:N<10000
    .left
     have:=afp (n:=0) n2.k4 I;omega
    .right
     omega
 obtain⟨bP,bj,xQ⟩:=key;obtain⟨n,z,c1,c2,cy,dQ⟩:=ap1 avN bj;unfold tokQ;rw[ak aE,aA rfl,ak I];intro neg ms f E asZ;obtain⟨rfl,rfl,rfl,rfl⟩:=aqe h asZ;rcases dQ with ⟨fY,aD⟩|⟨fY,cc,cK,aD⟩
 .rw[fY,pY] at c1;refine⟨λx ae=>?_,λbk=>absurd c1 bk⟩;rw[ae.1 c1,Ze aE,<-aD];exact q
 .have apw:bP=CL D bc e-U (mu D bS bc):=I
  rw[<-apw,c1];have aI:n<=2^53:=I
  have a3:=agy I aI cc cK;have abz:=avL (wY _) (wY _) ae8 a3;have a':lE (n*10^z) bP<jZ bP*2^1000:=by
   refine yx (a:=jZ (bP+z)) ?_;rw[<-ae8];calc lE n (bP+z)*jZ bP<jZ (bP+z)*2^1000*jZ bP:=vH (ayb aI cK) (wY _)
    _=jZ bP*2^1000*jZ (bP+z):=al
  refine⟨λx ae=>?_,λ_ fy=>absurd (fy _ abz a') (λh=>h)⟩;rw[ae.2 _ abz a',Ze (avM (wY _) a3),<-aD];exact q
end
section
variable{D:B}{i j e k n m p q a:Nat}{s l o:B}
def agU:∀{l:B} {v n:Nat},twoLoop v l=J n->v*10^U l<=n
 |[],v,n,h=>by cases h;simp
 |c::l,v,n,h=>by
  rw[twoLoop] at h;split at h
  .cases h
  .have:=agU h;rw[nS,ph];grind
def agT:∀{l:B} {v n:Nat},twoLoop v l=J n->digN (U l) n=l
 |[],_,_,_=>rfl
 |c::l,v,n,h=>by
  have aW:=h;rw[twoLoop] at h;split at h
  .cases h
  .rename_i ay;have aa:=agU h;have ad:=VQ h;rw[nS,digN,agT h];have aJ:0<10^U l:=ob aE;have aG:n/10^U l=v*10+(c.toNat-48):=by
    refine D8 aa ?_;exact ad
   rw[aG];have:(v*10+(c.toNat-48))%10=c.toNat-48:=I
   rw[this,(I:48+(c.toNat-48)=c.toNat)];simp
def w6(h:two l=J n)(au:U l=k):digN k n=l:=by subst au;exact agT h
def VP:∀{l:B} {v:Nat},(twoLoop v l).isSome=ai↔∀x,x<U l->48<=g l x/\g l x<=57
 |[],v=>by simp[twoLoop]
 |c::l,v=>by
  rw[twoLoop];constructor
  .intro h x ae;split at h
   .cases h
   .rename_i ay;cases x with
    |zero=>simp[g];omega
    |succ x=>
     have:=(VP (l:=l)).1 h x al;simpa[g] using this
  .intro h;have aW:=h 0 a1;have RR:48<=c.toNat/\c.toNat<=57:=by simpa[g] using aW
   rw[ak I];refine(VP (l:=l)).2 λx ae=>?_;have:=h (x+1) al;simpa[g] using this
def JO(aC:j<=U D):(two (aU D i j)).isSome=ai↔∀x,i<=x->x<j->48<=g D x/\g D x<=57:=by
 unfold two;rw[VP,hi aC];constructor
 .intro h x aa ad;have:=h (x-i) I;rw[gY I aC,(I:i+(x-i)=x)] at this;exact this
 .intro h x ae;rw[gY I aC];grind
def r1(aC:j<=U D)(h:two (aU D i j)=J n):∀x,i<=x->x<j->48<=g D x/\g D x<=57:=(JO aC).1 (by rw[h];rfl)
def Bx(az:i<U D)(h:g D i=c.toNat):aU D i (i+1)=[c]:=by
 rw[iV I I,m7 (bQ _)];have:D[i]=c:=oF.1 (by rw[hX az,h]);rw[this]
def FU(aC:j<=U D)(h:ldate D i j=J d):j=i+10/\qd d.1 d.2.1 d.2.2=aU D i j/\nY (aU D i j):=by
 unfold ldate at h;split at h
 .rename_i ay;obtain⟨rfl,dQ,xz⟩:=ay;cases a2:two (aU D i (i+4)) with
  |none=>grind
  |some y=>
   cases hm:two (aU D (i+5) (i+7)) with
   |none=>grind
   |some sG=>
    cases aG:two (aU D (i+8) (i+10)) with
    |none=>grind
    |some Hz=>
     rw[a2,hm,aG] at h;simp only at h;split at h
     .rename_i af;cases h;refine⟨rfl,?_,?_⟩
      .unfold qd;simp only;rw[w6 a2 (by rw[hi I];omega),w6 hm (by rw[hi I];omega),w6 aG (by rw[hi I];omega),<-Bx (c:=45) I dQ];rw[tB I I,tB I I];have nu:=Bx (D:=D) (i:=i+7) (c:=45) I xz;rw[Bx (c:=45) I dQ,<-nu,tB I I,tB I I]
      .refine⟨by rw[hi aC];omega,by rw[gY I aC];exact dQ,by rw[gY I aC];exact xz,y,sG,Hz,?_,?_,?_,af⟩
       .rw[kH I];exact a2
       .rw[kH I,m6];exact hm
       .rw[m6];exact aG
     .cases h
 .cases h
def ao9(aC:i+10<=U D)(h:nY (aU D i (i+10))):∃d,ldate D i (i+10)=J d:=by
 obtain⟨aW,aT,de,y,sG,Hz,a2,hm,aG,af⟩:=h;rw[gY I aC] at aT de;rw[kH I] at a2;rw[kH I,m6] at hm;rw[m6] at aG;unfold ldate;rw[aA ⟨rfl,aT,de⟩,a2,hm,aG];simp only;simp_all
def TW(aC:j<=U D)(h:ldate D i j=J d):∀x,i<=x->x<i+10->(48<=g D x/\g D x<=57)\/g D x=45:=by
 obtain⟨rfl,_,aG⟩:=FU aC h;obtain⟨aW,aT,de,y,sG,Hz,a2,hm,aG,af⟩:=aG;rw[gY I aC] at aT de;rw[kH I] at a2;rw[kH I,m6] at hm;rw[m6] at aG;have bx:=r1 I a2;have bH:=r1 I hm;have cq:=r1 I aG;grind
def ao2:∀{i:Nat} (x:Nat),i<=x->x<i+jo D i j->48<=g D x/\g D x<=57:=λ{i}=>by
 induction hm:j-i using Nat.strongRecOn generalizing i with
 |ind m bR=>
  intro x aa ad;by_cases h:i<j/\cT (g D i)=ai
  .rw[Qx h.1 h.2] at ad;by_cases ae:x=i
   .subst ae;exact js h.2
   .exact bR (j-(i+1)) I rfl x I I
  .rw[LC h] at ad;omega
def Qy:∀{i:Nat},i<=k->k<=j->(∀x,i<=x->x<k->48<=g D x/\g D x<=57)->(k=j\/¬(48<=g D k/\g D k<=57))->jo D i j=k-i:=λ{i}=>by
 induction hm:k-i using Nat.strongRecOn generalizing i with
 |ind m bR=>
  intro az aq h aI;by_cases th:i<k
  .rw[Qx I (rO (h i (bQ _) th)),bR (k-(i+1)) I rfl I aq (λx aa ad=>h x I ad) aI];omega
  .have:i=k:=I
   subst this;rw[LC]
   .omega
   .rintro⟨aa,ad⟩;rcases aI with aI|aI
    .omega
    .exact aI (js ad)
def ZQ(aC:j<=U D):py (aU D i j)=ai↔∀x,i<=x->x<j->48<=g D x/\g D x<=57:=by
 rw[<-QS _ 0];exact JO aC
def az0(aC:j<=U D)(h:tfrac D A z3 yF k j=J (t,k'))(aq:k<=j):t.h=A/\t.m=z3/\t.s=yF/\((k'=k/\t.n=0/\¬(k<j/\g D k=46))\/(k+1<k'/\k'<=j/\g D k=46/\(∀x,k+1<=x->x<k'->48<=g D x/\g D x<=57)/\k'=k+1+jo D (k+1) j/\∃f,two (aU D (k+1) (k+1+min (k'-(k+1)) 9))=J f/\t.n=f*10^(9-min (k'-(k+1)) 9))):=by
 unfold tfrac at h;by_cases ay:k<j/\g D k=46
 .rw[aA ay] at h;by_cases aW:jo D (k+1) j=0
  .rw[aA aW] at h;cases h
  .rw[ak aW] at h;cases bj:two (aU D (k+1) (k+1+min (jo D (k+1) j) 9)) with
   |none=>rw[bj] at h;cases h
   |some f=>
    rw[bj] at h;simp only[dg,hI] at h;obtain⟨rfl,rfl⟩:=h;have hle:=Zs (D:=D) (i:=k+1) (j:=j);have aw:k+1+jo D (k+1) j-(k+1)=jo D (k+1) j:=I
    refine⟨rfl,rfl,rfl,bt ⟨I,I,ay.2,λx aa ad=>ao2 x aa ad,rfl,f,?_,?_⟩⟩
    .grind
    .rw[aw]
 .rw[ak ay] at h;simp only[dg,hI] at h;obtain⟨rfl,rfl⟩:=h;exact⟨rfl,rfl,rfl,bF ⟨rfl,rfl,ay⟩⟩
structure mn(D:B)(i j:Nat)(t:og)(k:Nat):Prop where
 h:two (aU D i (i+2))=J t.h
 m:two (aU D (i+3) (i+5))=J t.m
 af:t.h<=23
 gq:t.m<=59
 c2:g D (i+2)=58
 le:i+5<=k/\k<=j
 r:(k=i+5/\t.s=0/\t.n=0/\¬(i+5<j/\g D (i+5)=58))\/(i+8<=k/\g D (i+5)=58/\two (aU D (i+6) (i+8))=J t.s/\t.s<=59/\
  ((k=i+8/\t.n=0/\¬(i+8<j/\g D (i+8)=46))\/(i+9<k/\g D (i+8)=46/\(∀x,i+9<=x->x<k->48<=g D x/\g D x<=57)/\k=i+9+jo D (i+9) j/\∃f,two (aU D (i+9) (i+9+min (k-(i+9)) 9))=J f/\t.n=f*10^(9-min (k-(i+9)) 9))))
def Ug(aC:j<=U D)(h:ltime D i j=J (t,k)):mn D i j t k:=by
 unfold ltime at h;by_cases bN:j<i+5
 .grind
 rw[ak bN] at h;cases bO:two (aU D i (i+2)) with
 |none=>grind
 |some A=>
  rw[bO] at h;simp only at h;by_cases AJ:23<A
  .grind
  rw[ak AJ] at h;by_cases s8:g D (i+2)≠58
  .grind
  rw[ak s8] at h;cases hm:two (aU D (i+3) (i+5)) with
  |none=>grind
  |some z3=>
   rw[hm] at h;simp only at h;by_cases xK:59<z3
   .grind
   rw[ak xK] at h;unfold Gk at h;by_cases aL:i+5<j/\g D (i+5)=58
   .rw[aA aL] at h;by_cases hC:j<i+8
    .grind
    rw[ak hC] at h;cases ay:two (aU D (i+6) (i+8)) with
    |none=>grind
    |some yF=>
     rw[ay] at h;simp only at h;by_cases ars:59<yF
     .grind
     rw[ak ars] at h;obtain⟨bq,bw,fm,jt⟩:=az0 aC h I;refine⟨al,al,I,I,I,?_,bt ⟨?_,aL.2,al,I,?_⟩⟩
     .omega
     .omega
     .rcases jt with q|⟨cc,cK,df,gB,hj⟩
      .exact bF q
      .exact bt ⟨cc,df,gB,hj⟩
   .rw[ak aL] at h;simp only[dg,hI] at h;obtain⟨rfl,rfl⟩:=h;exact⟨bO,hm,al,al,I,I,bF ⟨rfl,rfl,rfl,aL⟩⟩
def agJ(aC:j<=U D)(h:mn D i j t k):∃eO:og,ltime D i j=J (eO,k)/\eO.h=t.h/\eO.m=t.m/\eO.s=t.s/\eO.n=t.n:=by
 obtain⟨aa,ad,an,aT,bN,cB,de⟩:=h;unfold ltime;rw[ak I,aa];simp only;rw[ak I,ak I,ad];simp only;rw[ak I];unfold Gk;rcases de with ⟨rfl,bw,fm,jt⟩|⟨bq,bw,fm,jt,eT⟩
 .rw[ak jt];grind
 .rw[aA ⟨I,bw⟩,ak I,fm];simp only;rw[ak I];unfold tfrac;rcases eT with ⟨rfl,cK,df⟩|⟨cc,cK,df,gB,f,hj,ayT⟩
  .rw[ak df];grind
  .have aw:k-(i+9)=jo D (i+9) j:=I
   rw[aw] at hj ayT;have hL:¬jo D (i+9) j=0:=I
   rw[aA ⟨I,cK⟩,ak hL];show∃eO,(match two (aU D (i+9) (i+9+min (jo D (i+9) j) 9)) with
    |some f=>J (({h:=t.h,m:=t.m,s:=t.s,n:=f*10^(9-min (jo D (i+9) j) 9),p:=min (jo D (i+9) j) 9}:og),i+9+jo D (i+9) j)
    |none=>ab)=J (eO,k)/\_
   rw[hj];grind
def mn.cut(aC:j<=U D)(h:mn D i j t k):mn D i k t k:=by
 obtain⟨aa,ad,an,aT,bN,cB,de⟩:=h;refine⟨aa,ad,an,aT,bN,I,?_⟩;rcases de with ⟨bq,bw,fm,jt⟩|⟨bq,bw,fm,jt,eT⟩
 .exact bF ⟨bq,bw,fm,I⟩
 .refine bt ⟨bq,bw,fm,jt,?_⟩;rcases eT with ⟨cc,cK,df⟩|⟨cc,cK,df,gB,hj⟩
  .exact bF ⟨cc,cK,I⟩
  .refine bt ⟨cc,cK,df,?_,hj⟩;rw[Qy (k:=k) I (bQ _) df (bF rfl)];omega
def mn.grow(h:mn D i k t k)(SN:k<=j)(aI:g D k≠58/\g D k≠46/\¬(48<=g D k/\g D k<=57)):mn D i j t k:=by
 obtain⟨aa,ad,an,aT,bN,cB,de⟩:=h;refine⟨aa,ad,an,aT,bN,I,?_⟩;rcases de with ⟨bq,bw,fm,jt⟩|⟨bq,bw,fm,jt,eT⟩
 .exact bF ⟨bq,bw,fm,al⟩
 .refine bt ⟨bq,bw,fm,jt,?_⟩;rcases eT with ⟨cc,cK,df⟩|⟨cc,cK,df,gB,hj⟩
  .exact bF ⟨cc,cK,al⟩
  .refine bt ⟨cc,cK,df,?_,hj⟩;rw[Qy (k:=k) I SN df (bt aI.2.2)];omega
def mn.mo(aC:j<=U D)(h:mn D i j t k):∀x,i<=x->x<k->(48<=g D x/\g D x<=57)\/g D x=58\/g D x=46:=by
 obtain⟨aa,ad,an,aT,bN,cB,de⟩:=h;have bx:=r1 I aa;have bH:=r1 I ad;intro x b_ cp;by_cases aw:x<i+2
 .grind
 by_cases ar:x=i+2
 .grind
 by_cases aS:x<i+5
 .grind
 rcases de with ⟨bq,bw,fm,jt⟩|⟨bq,bw,fm,jt,eT⟩
 .omega
 .have cq:=r1 I fm;grind
def VN:∀(z m:Nat) (p:B),trim0 (z+m) (p++List.replicate z 48)=trim0 m p
 |0,m,p=>a1
 |z+1,m,p=>by
  rw[(I:z+1+m=(z+m)+1),trim0,List.replicate_succ',<-Wm];have au:U (p++List.replicate z 48++[48])-1=U (p++List.replicate z (48:UInt8)):=a1
  rw[au,aA,List.take_left]
  .exact VN z m p
  .simp[g]
def agR:∀{n:Nat} {l:B},U l<=n->trim0 (n+1) l=trim0 n l
 |0,l,h=>by
  have:l=[]:=vF I;subst this;rfl
 |n+1,l,h=>by
  have aw:trim0 (n+1+1) l=if g l (U l-1)=48 then trim0 (n+1) (bf (U l-1) l) else l:=rfl;have ar:trim0 (n+1) l=if g l (U l-1)=48 then trim0 n (bf (U l-1) l) else l:=rfl;rw[aw,ar];by_cases aW:g l (U l-1)=48
  .rw[aA aW,aA aW];exact agR al
  grind
def VM:∀{z n:Nat},U l<=n->trim0 (n+z) l=trim0 n l
 |0,n,h=>rfl
 |z+1,n,h=>by rw[<-gL,agR I,VM h]
def agS:∀{n:Nat} {l:B},trim0 n l=[]->∀c∈l,c=48
 |0,l,h=>by rw[trim0] at h;grind
 |n+1,l,h=>by
  rw[trim0] at h;split at h
  .rename_i au;have hlen:U l-1<U l:=by
    have:=cu (D:=l) (i:=U l-1) I;exact this
   intro c ay;have:=agS h;obtain⟨x,ae,rfl⟩:=KC.1 ay;by_cases e:x<U l-1
   .exact this _ (KC.2 ⟨x,al,by rw[aBO]⟩)
   .have:x=U l-1:=I
    subst this;rw[fu hlen] at au;exact oF.1 au
  grind
def QM(f z:Nat):∀w,w<=z->digN w (f*10^z)=List.replicate w 48
 |0,_=>rfl
 |w+1,h=>by
  rw[digN,QM f z w I,ahB];have e:f*10^z/10^w=f*10^(z-w-1)*10:=by
   have:f*10^z=f*10^(z-w-1)*10*10^w:=by
    rw[qE,qE,<-Nat.pow_succ',<-fw];grind
   rw[this,Nat.mul_div_cancel _ (ob aE)]
  simp_all
def ZM(f z:Nat):∀k,digN (k+z) (f*10^z)=digN k f++List.replicate z 48
 |0=>by rw[tM,QM f z z (bQ _)];rfl
 |k+1=>by
  rw[(I:k+1+z=(k+z)+1),digN,ZM f z k,digN];have e:f*10^z/10^(k+z)=f/10^k:=by
   rw[fw];exact Nat.mul_div_mul_right _ _ (ob aE)
  rw[e];rfl
def aqi{p:B}(aJ:two p=J f)(gg:U p<=9):(if f*10^(9-U p)=0 then[] else[46]++trim0 9 (digN 9 (f*10^(9-U p))))=(if trim0 9 p=[] then([]:B) else 46::trim0 9 p):=by
 have aw:digN 9 (f*10^(9-U p))=p++List.replicate (9-U p) 48:=by
  have:=ZM f (9-U p) (U p);rw[(I:U p+(9-U p)=9),w6 aJ rfl] at this;exact this
 have ar:trim0 9 (p++List.replicate (9-U p) 48)=trim0 9 p:=by
  have aa:=VN (9-U p) (U p) p;rw[(I:9-U p+U p=9)] at aa;have ad:=VM (l:=p) (z:=9-U p) (n:=U p) (bQ _);grind
 rw[aw,ar];have aV:f*10^(9-U p)=0↔trim0 9 p=[]:=by
  constructor
  .intro h;have bj:f=0:=by
    rcases aBZ.1 h with h|h
    .exact h
    grind
   have dV:=w6 aJ rfl;rw[bj] at dV;have aW:=QM 0 (U p) (U p) (bQ _);rw[pY,dV] at aW;have aa:=VN (U p) 0 [];have ad:=VM (l:=p) (z:=9-U p) (n:=U p) (bQ _);rw[(I:U p+(9-U p)=9)] at ad;rw[ad,aW];simpa[trim0] using aa
  .intro h;rcases zZ f with bj|bj
   .grind
   .obtain⟨c,ay,bk⟩:=QL (w:=U p) (n:=f) (agW aJ) I;rw[w6 aJ rfl] at ay;exact absurd (agS h c ay) bk
 grind
def Qu(aC:j<=U D)(h:(clock (aU D i j)).2=0):∃t,mn D i j t j/\qb t.h t.m t.s t.n=(clock (aU D i j)).1:=by
 have au:U (aU D i j)=j-i:=hi aC;unfold clock at h⊢;by_cases c1:U (aU D i j)=5/\g (aU D i j) 2=58/\(two (bf 2 (aU D i j))).isSome=ai/\(two (ax 3 (aU D i j))).isSome=ai
 .rw[aA c1] at h;cases h
 rw[ak c1] at h⊢;by_cases c2:U (aU D i j)<8\/g (aU D i j) 2≠58\/g (aU D i j) 5≠58
 .rw[aA c2] at h;cases h
 rw[ak c2] at h⊢;have hC:i+8<=j:=I
 have bd:g D (i+2)=58:=by rw[<-gY (j:=j) I aC];omega
 have fW:g D (i+5)=58:=by rw[<-gY (j:=j) I aC];omega
 rw[kH (a:=2) I,kH (a:=5) I,kH (a:=8) I,m6,m6] at h⊢;cases bO:two (aU D i (i+2)) with
 |none=>rw[bO] at h;cases h
 |some A=>
  cases hm:two (aU D (i+3) (i+5)) with
  |none=>rw[bO,hm] at h;cases h
  |some z3=>
   cases ay:two (aU D (i+6) (i+8)) with
   |none=>rw[bO,hm,ay] at h;cases h
   |some yF=>
    rw[bO,hm,ay] at h;simp only at h⊢;by_cases cy:23<A\/59<z3\/60<yF
    .rw[aA cy] at h;cases h
    rw[ak cy] at h⊢;cases aJ:u9 (aU D i j) with
    |none=>grind
    |some p=>
     rw[aJ] at h;simp only at h⊢;by_cases dQ:yF=60
     .grind
     rw[ak dQ] at h⊢;simp only;have base:digN 2 A++[58]++digN 2 z3++[58]++digN 2 yF=aU D i (i+8):=by
      rw[w6 bO (by rw[hi I];omega),w6 hm (by rw[hi I];omega),w6 ay (by rw[hi I];omega)];have ar:=Bx (D:=D) (i:=i+2) (c:=58) I bd;have dt:=Bx (D:=D) (i:=i+5) (c:=58) I fW;have bx:aU D i (i+2)++[58]=aU D i (i+3):=by rw[<-ar];exact tB I I
      have bH:aU D i (i+3)++aU D (i+3) (i+5)=aU D i (i+5):=tB I I;have cq:aU D i (i+5)++[58]=aU D i (i+6):=by rw[<-dt];exact tB I I
      rw[bx,bH,cq];exact tB I I
     unfold u9 at aJ;by_cases eX:U (aU D i j)<=8
     .rw[aA eX] at aJ;cases aJ;have atk:j=i+8:=I
      refine⟨⟨A,z3,yF,0,0⟩,⟨bO,hm,al,al,bd,I,bt ⟨I,fW,ay,al,bF ⟨atk,rfl,I⟩⟩⟩,?_⟩;unfold qb;simp only;have aI:trim0 9 ([]:B)=[]:=aE
      grind
     .rw[ak eX] at aJ;by_cases c6:g (aU D i j) 8=46/\U (aU D i j)≠9/\py (ax 9 (aU D i j))=ai
      .rw[aA c6] at aJ;obtain⟨EM,aCW,Lz⟩:=c6;rw[m6,ZQ aC] at Lz;rw[gY I aC] at EM;have hE:p=aU D (i+9) (i+9+min (j-(i+9)) 9):=by
        have:=(en aJ).symm;rw[this,kH I,m6];grind
       have zc:jo D (i+9) j=j-(i+9):=Qy I (bQ _) Lz (bF rfl);have⟨f,bj⟩:∃f,two p=J f:=D9.1 (by rw[hE];exact(JO I).2 λx aa ad=>Lz x aa I);have jV:U p=min (j-(i+9)) 9:=al
       refine⟨⟨A,z3,yF,f*10^(9-U p),0⟩,⟨bO,hm,al,al,bd,I,bt ⟨I,fW,ay,al,bt ⟨I,EM,Lz,I,f,?_,?_⟩⟩⟩,?_⟩
       .grind
       .grind
       .unfold qb;simp only;rw[base,aqi bj I]
      grind
def Zr(aC:j<=U D)(h:mn D i j t j):(clock (aU D i j)).2≠1:=by
 have au:U (aU D i j)=j-i:=hi aC;obtain⟨aa,ad,an,aT,bN,cB,de⟩:=h;unfold clock;rcases de with ⟨bq,bw,fm,jt⟩|⟨bq,bw,fm,jt,eT⟩
 .rw[aA]
  .decide
  .refine⟨I,by rw[gY I aC];exact bN,?_,?_⟩
   .rw[kH I,aa];rfl
   .rw[m6,bq,ad];rfl
 .rw[ak I,ak (by rw[gY I aC,gY I aC];omega)];rw[kH (a:=2) I,kH (a:=5) I,kH (a:=8) I,m6,m6,aa,ad,fm];simp only;rw[ak I];have oq:∃p,u9 (aU D i j)=J p:=by
   unfold u9;rcases eT with ⟨cc,cK,df⟩|⟨cc,cK,df,gB,hj⟩
   .rw[aA I];grind
   .rw[ak I,aA]
    .grind
    .refine⟨by rw[gY I aC];exact cK,I,?_⟩;rw[m6,ZQ aC];exact df
  grind
end
section
variable{D:B}{i j e k n m p q a:Nat}{s l o:B}
def dval(D:B)(k i j:Nat):Option bL:=
 if k=15 then(godt D i j).map λx=>.mk 4 0 0 (wS x.1 x.2.1++uK x.2.2) [] []
 else if k=14 then(match ldt D i j with
  |J (d,t,n)=>if n<j then ab else J (.mk 5 0 0 (wS d t) [] [])
  |none=>ab)
 else if k=12 then(ldate D i j).map λd=>.mk 6 0 0 (qd d.1 d.2.1 d.2.2) [] []
 else match ltime D i j with
  |J (t,n)=>if n<j then ab else J (.mk 7 0 0 (qb t.h t.m t.s t.n) [] [])
  |none=>ab
def VI(aq:k=12\/k=13\/k=14\/k=15)(h:Q (dval D k i j)):tokQ D k i j Q:=by
 unfold dval at h;rcases aq with rfl|rfl|rfl|rfl
 .exact h
 .exact h
 .exact h
 .exact h
def L9:∀{i:Nat} {dl:Option Nat},i<=k->k<=U D->(∀x,i<=x->x<k->j_ (g D x))->gZ D i dl=gZ D k dl:=λ{i}=>by
 induction hm:k-i using Nat.strongRecOn generalizing i with
 |ind m bR=>
  intro dl aa ad h;by_cases th:i<k
  .rw[ve I (h i (bQ _) th)];grind
  grind
def aqz:∀{i:Nat} {dl:Option Nat},(gZ D i dl).1<U D->¬j_ (g D (gZ D i dl).1)/\¬lU D (gZ D i dl).1:=λ{i}=>by
 induction hm:U D-i using Nat.strongRecOn generalizing i with
 |ind m bR=>
  intro dl h;by_cases au:i<U D
  .by_cases c1:j_ (g D i)
   .rw[ve au c1] at h⊢;grind
   .by_cases c2:lU D i
    .rw[v' au c1 c2] at h⊢;grind
    .rw[qP (λ_=>c1) (λ_=>c2)];grind
  .rw[qP (λe=>absurd e au) (λe=>absurd e au)] at h;omega
def yX(h:(48<=c/\c<=57)\/c=58\/c=45\/c=43\/c=46\/c=90\/c=122):j_ c:=by
 unfold j_;rcases h with h|h
 .exact bF (by simpa[cT] using h)
 omega
def aBy(he:e<=U D)(aq:a<=e)(h:zoneS (aU D a e)=J (r,z)):(z=[]/\r=aU D a e)\/∃k,a<=k/\k<e/\r=aU D a k/\z≠[]/\(∃Kt,gzone D k e=J (Kt,e)/\uK Kt=z)/\tH (g D k)/\∀x,k<=x->x<e->j_ (g D x):=by
 have au:U (aU D a e)=e-a:=hi he;unfold zoneS at h;by_cases c1:0<U (aU D a e)/\(g (aU D a e) (U (aU D a e)-1)=90\/g (aU D a e) (U (aU D a e)-1)=122)
 .rw[aA c1] at h;simp only[dg,hI] at h;obtain⟨rfl,rfl⟩:=h;have aX:g D (e-1)=90\/g D (e-1)=122:=by
   have:=c1.2;rw[gY I he,(I:a+(U (aU D a e)-1)=e-1)] at this;exact this
  refine bt ⟨e-1,I,I,?_,a1,⟨0,?_,rfl⟩,?_,λx aa ad=>?_⟩
  .rw[kH I];grind
  .unfold gzone;rw[aA aX,(I:e-1+1=e)]
  .unfold tH;omega
  .have:x=e-1:=I
   rw[this];exact yX I
 rw[ak c1] at h;by_cases c2:6<U (aU D a e)/\(g (aU D a e) (U (aU D a e)-6)=43\/g (aU D a e) (U (aU D a e)-6)=45)/\g (aU D a e) (U (aU D a e)-3)=58
 .rw[aA c2] at h;obtain⟨aCU,aoQ,Zd⟩:=c2;obtain⟨k,rfl⟩:∃k,e=k+6:=⟨e-6,I⟩;rw[gY I he,(I:a+(U (aU D a (k+6))-6)=k)] at aoQ;rw[gY I he,(I:a+(U (aU D a (k+6))-3)=k+3)] at Zd;rw[kH I,m6,m6,m6,kH I,(I:a+(U (aU D a (k+6))-5)=k+1),(I:a+(U (aU D a (k+6))-3)=k+3),(I:a+(U (aU D a (k+6))-2)=k+4),(I:a+(U (aU D a (k+6))-6)=k)] at h;cases bO:two (aU D (k+1) (k+3)) with
  |none=>grind
  |some A=>
   cases hm:two (aU D (k+4) (k+6)) with
   |none=>grind
   |some M=>
    rw[bO,hm] at h;simp only at h;by_cases cy:23<A\/59<M
    .grind
    rw[ak cy] at h;simp only[dg,hI] at h;obtain⟨rfl,aV⟩:=h;have t1:=r1 I bO;have t2:=r1 I hm;have wb:gzone D k (k+6)=J ((if g D k=45 then-(((A*3600+M*60:Nat)):Int) else((A*3600+M*60:Nat):Int)),k+6):=by
     unfold gzone;rw[ak I,ak I,ak I,ak I,bO];simp only;rw[ak I,hm];simp only;rw[ak I]
    refine bt ⟨k,I,I,rfl,?_,⟨_,wb,?_⟩,?_,λx aa ad=>?_⟩
    .rw[<-aV];split
     .simp
     .intro e;have:=mQ List.length e;rw[hi he] at this;simp at this
    .rw[<-aV];have fg:=cu (D:=D) (i:=k) I;by_cases aW:A=0/\M=0
     .rw[aA aW,aW.1,aW.2];split<;>rfl
     .rw[ak aW];have aw:(A*3600+M*60)/3600=A:=I
      have ar:(A*3600+M*60)/60%60=M:=I
      have aS:digN 2 A=aU D (k+1) (k+3):=w6 bO (by rw[hi I];omega);have bl:digN 2 M=aU D (k+4) (k+6):=w6 hm (by rw[hi I];omega);have dt:=Bx (D:=D) (i:=k+3) (c:=58) I Zd;have bx:∀c,c=aU D k (k+1)->c++aU D (k+1) (k+3)++[58]++aU D (k+4) (k+6)=aU D k (k+6):=λc ay=>by
       rw[ay,<-dt,tB I I,tB I I,tB I I]
      by_cases l8:g D k=45
      .rw[aA l8];unfold uK;rw[ak I,aA I,Int.natAbs_neg,aBI,aw,ar,aS,bl];exact bx _ (Bx (c:=45) fg l8).symm
      .rw[ak l8];unfold uK;rw[ak I,ak I,aBI,aw,ar,aS,bl];exact bx _ (Bx (c:=43) fg al).symm
    .unfold tH;omega
    .by_cases mP:x=k
     .rw[mP];exact yX I
     by_cases b_:x<k+3
     .have:=t1 x I b_;exact yX I
     by_cases cp:x=k+3
     .rw[cp];exact yX I
     .have:=t2 x I ad;exact yX I
 .rw[ak c2] at h;grind
def aBw(he:e<=U D)(h:∀x,a<=x->x<e->(48<=g D x/\g D x<=57)\/g D x=58\/g D x=46):zoneS (aU D a e)=J (aU D a e,[]):=by
 have au:U (aU D a e)=e-a:=hi he;unfold zoneS;rw[ak,ak]
 .rintro⟨c1,c2,_⟩;rw[gY I he] at c2;grind
 .rintro⟨c1,c2⟩;rw[gY I he] at c2;grind
def RP(he:e<=U D)(aq:k<e)(h:gzone D k e=J (Kt,k'))(ql:¬k'<e):k'=e/\((e=k+1/\(g D k=90\/g D k=122))\/(e=k+6/\(g D k=45\/g D k=43)/\g D (k+3)=58/\∃A M,two (aU D (k+1) (k+3))=J A/\two (aU D (k+4) (k+6))=J M/\A<=23/\M<=59)):=by
 unfold gzone at h;by_cases c1:g D k=90\/g D k=122
 .rw[aA c1] at h;simp only[dg,hI] at h;exact⟨I,bF ⟨I,c1⟩⟩
 rw[ak c1] at h;by_cases c2:e≠k+6
 .rw[aA c2] at h;cases h
 rw[ak c2] at h;by_cases cy:¬(g D k=45\/g D k=43)
 .rw[aA cy] at h;cases h
 rw[ak cy] at h;by_cases dQ:g D (k+3)≠58
 .rw[aA dQ] at h;cases h
 rw[ak dQ] at h;cases bO:two (aU D (k+1) (k+3)) with
 |none=>grind
 |some A=>
  grind
def aBx(he:e<=U D)(aq:k<e)(bE:a+5<=k)(h:gzone D k e=J (Kt,k'))(ql:¬k'<e):∃z,zoneS (aU D a e)=J (aU D a k,z):=by
 have au:U (aU D a e)=e-a:=hi he;obtain⟨_,h⟩:=RP he aq h ql;unfold zoneS;rcases h with ⟨bq,bw⟩|⟨bq,bw,fm,A,M,jt,eT,Oc,lF⟩
 .rw[aA ⟨I,by rw[gY I he,(I:a+(U (aU D a e)-1)=k)];exact bw⟩];exact⟨_,by rw[kH I,(I:a+(U (aU D a e)-1)=k)]⟩
 .subst bq;have t2:=r1 I eT;rw[ak,aA]
  .rw[kH I,m6,m6,m6,kH I,(I:a+(U (aU D a (k+6))-5)=k+1),(I:a+(U (aU D a (k+6))-3)=k+3),(I:a+(U (aU D a (k+6))-2)=k+4),(I:a+(U (aU D a (k+6))-6)=k),jt,eT];simp_all
  .refine⟨I,?_,?_⟩
   .rw[gY I he,(I:a+(U (aU D a (k+6))-6)=k)];omega
   .rw[gY I he,(I:a+(U (aU D a (k+6))-3)=k+3)];exact fm
  .rintro⟨_,c⟩;rw[gY I he,(I:a+(U (aU D a (k+6))-1)=k+5)] at c;grind
structure xk(D:B)(i:Nat)(d:Nat×Nat×Nat):Prop where
 le:i+10<=U D
 day:ldate D i (i+10)=J d
 del:g D (i+10)=84\/g D (i+10)=116\/g D (i+10)=32
inductive Eu(D:B)(i e:Nat):Nat->B->Prop
 |clock {t:og}:mn D i e t e->Eu D i e 7 (qb t.h t.m t.s t.n)
 |day {d:Nat×Nat×Nat}:e=i+10->ldate D i e=J d->Eu D i e 6 (qd d.1 d.2.1 d.2.2)
 |loc {d:Nat×Nat×Nat} {t:og}:xk D i d->mn D (i+11) e t e->Eu D i e 5 (wS d t)
 |off {d:Nat×Nat×Nat} {t:og} {k:Nat} {z:Int}:xk D i d->mn D (i+11) k t k->k<e->gzone D k e=J (z,e)->tH (g D k)->(∀x,k<=x->x<e->j_ (g D x))->Eu D i e 4 (wS d t++uK z)
def aem(he:e<=U D)(h:(moment (aU D i e)).2.2=0):Eu D i e (moment (aU D i e)).1 (moment (aU D i e)).2.1:=by
 have au:U (aU D i e)=e-i:=hi he;unfold moment at h⊢;by_cases c1:2<U (aU D i e)/\g (aU D i e) 2=58
 .rw[aA c1] at h⊢;obtain⟨t,aa,ad⟩:=Qu he h;simp only;rw[<-ad];exact .clock aa
 rw[ak c1] at h⊢;by_cases c2:U (aU D i e)<10\/¬nY (bf 10 (aU D i e))
 .rw[aA c2] at h;cases h
 rw[ak c2] at h⊢;have hle:i+10<=e:=I
 have ze:nY (aU D i (i+10)):=by
  have:=OY.1 (λq=>c2 (bt q));rw[kH hle] at this;exact this
 obtain⟨d,aG⟩:=ao9 I ze;have aP:=(FU I aG).2.1;by_cases cy:U (aU D i e)=10
 .rw[aA cy];have CH:e=i+10:=I
  simp only;rw[CH,<-aP];exact .day rfl aG
 rw[ak cy] at h⊢;by_cases dQ:g (aU D i e) 10≠84/\g (aU D i e) 10≠116/\g (aU D i e) 10≠32
 .rw[aA dQ] at h;cases h
 rw[ak dQ] at h⊢;rw[gY I he] at dQ;have gI:xk D i d:=⟨I,aG,I⟩;rw[m6,kH hle] at h⊢;cases aV:zoneS (aU D (i+11) e) with
 |none=>rw[aV] at h;cases h
 |some x=>
  obtain⟨r,z⟩:=x;rw[aV] at h;simp only at h⊢;rcases aBy he I aV with ⟨rfl,rfl⟩|⟨k,bq,bw,rfl,jt,⟨Kt,eT,Oc⟩,lF,ayt⟩
  .obtain⟨t,aa,ad⟩:=Qu he h;rw[aA rfl,<-ad,<-aP,aht];exact .loc gI aa
  .obtain⟨t,aa,ad⟩:=Qu I h;rw[ak jt,<-ad,<-aP,<-Oc];exact .off gI aa bw eT lF ayt
def aBu(ae:n<U l)(h:tH (g l n)):yt l=ai:=by
 unfold yt;rw[List.any_eq_true];refine⟨l[n],zW ae,?_⟩;rw[fu ae] at h;grind
def aBt(h:∀n,n<U l->¬tH (g l n)):yt l=av:=by
 unfold yt;rw[List.any_eq_false];intro c ay;obtain⟨n,aI,rfl⟩:=KC.1 ay;have:=h n aI;rw[fu aI] at this;grind
def adW(he:e<=U D)(h:xk D i d)(aP:mn D (i+11) e t k):∃eO,ldt D i e=J (d,eO,k)/\wS d eO=wS d t:=by
 obtain⟨eO,aa,ad,an,aT,bN⟩:=agJ he aP;refine⟨eO,?_,by unfold wS;grind⟩;have:=aP.le;unfold ldt;rw[ak I,h.day];simp only;rw[aA (by have:=h.del;omega),aa]
def TZ(he:e<=U D)(h:ldt D i e=J (d,t,k)):xk D i d/\mn D (i+11) e t k:=by
 unfold ldt at h;by_cases c1:e<i+11
 .grind
 rw[ak c1] at h;cases aG:ldate D i (i+10) with
 |none=>grind
 |some fl=>
  rw[aG] at h;simp only at h;by_cases c2:g D (i+10)=84\/g D (i+10)=32\/g D (i+10)=116
  .rw[aA c2] at h;cases au:ltime D (i+11) e with
   |none=>grind
   |some x=>
    obtain⟨eO,k'⟩:=x;rw[au] at h;simp only[dg,hI] at h;obtain⟨rfl,rfl,rfl⟩:=h;exact⟨⟨I,aG,I⟩,Ug he au⟩
  grind
def xk.mo(h:xk D i d):∀x,i<=x->x<i+10->j_ (g D x):=λx aa ad=>by
 have:=TW h.le h.day x aa ad;exact yX I
def mn.tZ(aC:j<=U D)(h:mn D i j t k):∀x,i<=x->x<k->j_ (g D x):=λx aa ad=>by
 have:=h.mo aC x aa ad;exact yX I
def xk.run(h:xk D i d)(h9:g D (i+10)=32->48<=g D (i+11)/\g D (i+11)<=57)(he:i+11<=e)(hle:e<=U D)(ay:∀x,i+11<=x->x<e->j_ (g D x)):gZ D i ab=gZ D e (J (i+10)):=by
 have gn:=h.del;have atz:=h.le;have fj:¬j_ (g D (i+10)):=by
  unfold j_;rintro(q|q)
  .have:=js q;omega
  .omega
 have h2:lU D (i+10):=by
  unfold lU;rcases gn with q|q|q
  .exact bF q
  .omega
  .exact bt (bt ⟨q,rO (h9 q)⟩)
 rw[L9 (k:=i+10) I I h.mo,v' I fj h2];exact L9 he hle ay
end
