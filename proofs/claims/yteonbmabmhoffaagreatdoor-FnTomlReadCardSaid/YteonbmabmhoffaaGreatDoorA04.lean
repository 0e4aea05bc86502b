/- A part of the proof of FnTomlReadCardSaid: for every string the law FnTomlRead returns true. Conditions: those of the given row and card, no others. -/
import Derived.Test.YteonbmabmhoffaaGreatDoorA03
open Option renaming some->J,none->ab
open Bool renaming true->ai,false->av
open Go renaming Value->ao
open Go.Obj renaming cells->aO
open Go.Value renaming bool->aQ,slice->a5,tuple->bA,pointer->bU,agg->cA,nilIface->cR,string->fo
open Or renaming inl->bF,inr->bt
open Go.BinOp renaming eql->cQ,lss->fG,geq->h0
open List renaming length->U,toArray->aZ,drop->ax,take->bf
open Array renaming size->ag,toList->bC,push->a6,setIfInBounds->dy
namespace Go.Proofs.YteonbmabmhoffaaGreatDoor.F
set_option linter.all false
set_option autoImplicit true
set_option relaxedAutoImplicit true
set_option maxRecDepth 100000
set_option maxHeartbeats 4000000
noncomputable section
def cT(c:Nat):Bool:=decide (48<=c/\c<=57)
def zt(c:Nat):Bool:=decide (48<=c/\c<=55)
def zr(c:Nat):Bool:=decide (c=48\/c=49)
def zs(c:Nat):Bool:=decide ((48<=c/\c<=57)\/(97<=c/\c<=102)\/(65<=c/\c<=70))
def gF(p:Nat->Bool)(D:B)(i:Nat):Option Nat:=
 if h:i<U D then
  if p (g D i)=ai then gF p D (i+1) else if g D i=95 then(if ad:i+1<U D/\p (g D (i+1))=ai then gF p D (i+2) else ab) else J i
 else J i
termination_by (U D)-i
def HO:∀{i:Nat},i<=U D->gF p D i=J j->i<=j/\j<=U D:=λ{i}=>by
 induction hm:U D-i using Nat.strongRecOn generalizing i with
 |ind m bR=>
  intro az h;rw[gF] at h;grind
def gsk(D:B)(i:Nat):Option (B×Nat):=
 if g D i=39 then(match glit D (i+1) with|some j=>J (ax (i+1) (bf j D),j+1)|none=>ab)
 else if g D i=34 then bump (gbas D (i+1) [])
 else if bareN (ax i D)=0 then ab else J (ax i (bf (i+bareN (ax i D)) D),i+bareN (ax i D))
section
variable{h:H}{R k:K}{b C i i0 N r n c:Nat}{v p u fn b_ cp:ao}{D s:B}
def Xk(aM:db h b D C)(aD:bp b i0 (U D) C v)(az:i0<U D)
  (bq:∀j x y h',aB h h'->gcom D (i0+1)=J j->i0<j->j<=U D->bp b i0 j C x->bp b j (U D) C y->R (bA #[x,y,cR]) h')
  (bw:∀x y e h',gcom D (i0+1)=ab->aB h h'->e2 h' b (U D) C e->R (bA #[x,y,e]) h'):bo 52 [v] h R:=by
 apply amp;refine Pv aM aD az (λj x y h' aw ar aS bl dt e6=>?_) λx y e h' aw ar aS=>?_
 .refine aR ?_;grind
 .refine aR ?_;grind
def KR(aM:db h b D C)(aD:bp b i (U D) C v)(bq:∀j x h',aB h h'->gfin D i=J j->i<=j->bp b j (U D) C x->R (bA #[x,cR]) h') (bw:gfin D i=ab->∀x e h',aB h h'->e2 h' b (U D) C e->R (bA #[x,e]) h'):bo 71 [p,v] h R:=by
 apply amH;have az:i<=U D:=by obtain⟨e,_,_,h,_⟩:=aD;exact h
 refine Eh aM aD λch k2=>?_;have x4:=o6 az;have cI:=k2;obtain⟨e,rfl,aa,ad,an,aT⟩:=k2;have e0:=aM.mH;have hlen:=aM.len;unfold gfin at bq bw;have plain:g D (a9 D i)≠35->bD 53 [a5 (J ⟨b,e,ab⟩) (U D-a9 D i) (C-a9 D i)] h λiY h=>Pu (exv 0 iY) h λri h=>Pu (exv 1 iY) h λh4 h=>R (bA #[ri,h4]) h:=λay=>by
  rw[ak ay] at bq bw;refine Ps aM cI (λj x aw ar=>?_) λaI x e h' aw ar=>?_
  .have:=HP x4.2 aw;refine aR ?_;exact bq j x h (aB.refl _) aw I ar
  .refine aR ?_;grind
 refine dG (dI aM aa) (hA aM aa) ?_;refine⟨λau=>⟨λpB=>?_,λpB=>plain pB⟩,λau=>plain (by rw[g6 I];decide)⟩;rw[aA pB] at bq bw;refine Xk aM cI I (λj x y h' aw ar aS bl dt e6=>?_) λx y e h' aw ar aS=>?_
 .rw[ar] at bq bw;refine aR ?_;refine Ps (aM.ext aw) e6 (λj x nu v8=>?_) λaI x e nw nu v8=>?_
  .have:=HP I nu;refine aR ?_;grind
  .refine aR ?_;exact bw aI x e nw (aw.trans nu) v8
 .rw[aw] at bw;have:=gW aS;refine bG this ?_;grind
def aix(bq:jN c->R (aQ ai) h)(bw:¬jN c->R (aQ av) h):bo 152 [bu (c:Int)] h R:=by
 apply ak5;refine aR ?_;unfold jN at bq bw;grind
def uR(q:R (aQ (cT c)) h):bo 172 [bu (c:Int)] h R:=by
 apply alq;refine aR ?_;unfold cT at q;grind
def aiL(q:R (aQ (zs c)) h):bo 173 [bu (c:Int)] h R:=by
 apply alr;refine uR ?_;unfold zs at q;by_cases aG:48<=c/\c<=57
 .have:cT c=ai:=j7 aG;rw[j7 (bF aG)] at q;refine bG this ?_;exact q
 .have:cT c=av:=ig aG;refine bG this ?_;grind
def aiM(q:R (aQ (zt c)) h):bo 174 [bu (c:Int)] h R:=by
 apply als;refine aR ?_;unfold zt at q;grind
def aiN(q:R (aQ (zr c)) h):bo 175 [bu (c:Int)] h R:=by
 apply alu;refine aR ?_;unfold zr at q;grind
def B_(p:Nat->Bool)(fn:ao):Prop:=∀(c:Nat) h R,R (aQ (p c)) h->Cv fn [bu c] h R
def Lx(g:Nat)(e:((P.funcs[g]?).bind (·.body)).isSome=ai){p:Nat->Bool}(q:∀(c:Nat) (h:H) (R:K),R (aQ (p c)) h->bo g [bu (c:Int)] h R):B_ p (.func (.func g) #[] #[]):=λc h R b5=>⟨e,al⟩
def PD:B_ cT (.func (.func 172) #[] #[]):=Lx 172 b4 λ_ _ _ q=>uR q
def ana:B_ zs (.func (.func 173) #[] #[]):=Lx 173 b4 λ_ _ _ q=>aiL q
def anb:B_ zt (.func (.func 174) #[] #[]):=Lx 174 b4 λ_ _ _ q=>aiM q
def anc:B_ zr (.func (.func 175) #[] #[]):=Lx 175 b4 λ_ _ _ q=>aiN q
def KO{p:Nat->Bool}(aM:db h b D C)(aD:bp b i0 (U D) C v)(az:i0+i<=U D)(bj:B_ p fn)(bq:∀j,gF p D (i0+i)=J (i0+j)->i<=j->i0+j<=U D->R (bA #[ah (j:Int),cR]) h)
  (bw:gF p D (i0+i)=ab->∀x e h',aB h h'->e2 h' b (U D) C e->R (bA #[x,e]) h'):bo 176 [v,ah (i:Int),fn] h R:=by
 apply alv;obtain⟨e,rfl,aa,ad,an,aT,e0,hlen⟩:=aD.fL aM;refine eV (λm u h'=>∃j:Nat,u=ah j/\i<=j/\i0+j<=U D/\gF p D (i0+j)=gF p D (i0+i)/\h'=h/\m=U D-j) _ ⟨i,rfl,bQ _,az,rfl,rfl,rfl⟩ ?_;rintro m d u h' N ⟨j,rfl,eK,aC,af,rfl,rfl⟩ a7;rw[<-af] at bq bw;have more:∀n,0<n->i0+j+n<=U D->gF p D (i0+j)=gF p D (i0+j+n)->N (ah (j+n:Nat)) h':=λn aW aI aX=>a7 (U D-(j+n)) _ _ I ⟨j+n,rfl,I,I,al,rfl,rfl⟩;have bad:gF p D (i0+j)=ab->∀i j u,bp b i j C u->j<=U D->∀s x,∀(aL:U s<=1000:=by first|decide|assumption),bD 51 [u,S s,x] h' λu h=>R (bA #[ah 0,u]) h:=λa i j u hu aC s x aL=>
  gU hu aC λu ad ar er=>bw a _ _ _ ar er
 clear a7;refine bG (dI aM aa) ?_;refine⟨λau=>bj _ _ _ ?_,λau=>bq j (by rw[gF,e8 I]) eK aC⟩;have hr:i0+j<U D:=I
 cases aJ:p (g D (i0+j)) with
 |true=>
  refine aR ?_;exact more 1 I I (by rw[gF,gw hr,aA aJ])
 |false=>
  have hE:¬p (g D (i0+j))=ai:=al
  refine bG (dI aM aa) ?_;simp only[<-gL];have aeQ:g D (i0+j)=95->¬(i0+j+1<U D/\p (g D (i0+j+1))=ai)->gF p D (i0+j)=ab:=λa bM=>by rw[gF,gw hr,ak hE,aA a,e8 bM]
  refine⟨λhg=>⟨λeg=>?_,λa'=>bj _ _ _ ?_⟩,λhg=>bq j (by rw[gF,gw hr,ak hE,ak hg]) eK aC⟩
  .have:=aeQ hg (λa=>I);with_reducible repeat' first|refine⟨?_,?_⟩|intro
   all_goals first
    |with_reducible exact bad this (i0+j) (U D) _ ck I _ _
    |with_reducible exact bad this (i0+j) (i0+j+2) _ ck I _ _
  .cases dV:p (g D (i0+j+1)) with
   |true=>
    refine aR ?_;exact more 2 I I (by rw[gF,gw hr,ak hE,aA hg,gw ⟨I,dV⟩])
   |false=>
    have:=aeQ hg (λa=>al);refine aR ?_;with_reducible repeat' first|refine⟨?_,?_⟩|intro
    all_goals first
     |with_reducible exact bad this (i0+j) (U D) _ ck I _ _
     |with_reducible exact bad this (i0+j) (i0+(j+2)) _ ck I _ _
end
def pj{α β:Type}(Q:α->β->Prop):List α->List β->Prop
 |[],[]=>True
 |a::l,b::m=>Q a b/\pj Q l m
 |_,_=>False
def pj.mono{Q fU:α->β->Prop}(b5:∀a b,Q a b->fU a b):∀{l:List α} {m:List β},pj Q l m->pj fU l m
 |[],[],_=>trivial
 |_::_,_::_,h=>⟨b5 _ _ h.1,pj.mono b5 h.2⟩
def pj.len:∀{l:List α} {m:List β},pj Q l m->U l=U m
 |[],[],_=>rfl
 |_::_,_::_,h=>by simp[pj.len h.2]
def pj.snoc:∀{l:List α} {m:List β},pj Q l m->Q a b->pj Q (l++[a]) (m++[b])
 |[],[],_,h=>⟨h,trivial⟩
 |_::_,_::_,h,h'=>⟨h.1,pj.snoc h.2 h'⟩
def pj.get:∀{l:List α} {m:List β} {i:Nat} {a:α},pj Q l m->l[i]?=J a->∃b,m[i]?=J b/\Q a b
 |[],[],_,_,_,h=>by simp at h
 |a::l,b::m,0,x,h,e=>by
  simp only[rq,dg] at e;subst e;exact⟨b,a1,h.1⟩
 |a::l,b::m,i+1,x,h,e=>by
  simp only[uN] at e⊢;exact pj.get h.2 e
def Ep(P:Nat->Prop)(h:H)(vs:List ao)(ks:List B):Prop:=pj (λv k=>∃bb,P bb/\kt h bb v k) vs ks
def Ep.at{P fT:Nat->Prop}{h h':H}{ks:List B}(aq:Ep P h vs ks)(e:∀bb,bb<ag h->P bb->h'[bb]?=h[bb]?/\fT bb):Ep fT h' vs ks:=
 pj.mono (λv k ⟨bb,aJ,af⟩=>⟨bb,(e bb af.lt aJ).2,af.at (e bb af.lt aJ).1⟩) aq
def abc(h:gsk D i=J (k,j)):i<j/\j<=U D:=by
 have f:=@cu D i;unfold gsk at h;split at h
 .split at h
  .rename_i x ae;simp only[dg,hI] at h;have:∀{i x},glit D i=J x->i<=x/\x<U D:=λ{i x}=>by
    induction hm:U D-i using Nat.strongRecOn generalizing i with
    |ind m bR=>
     intro h;rw[glit] at h;split at h
     .rename_i iA;simp only[dg] at h;subst h;have:=cu (D:=D) (i:=i) I;omega
     .split at h
      .cases h
      .rename_i n ay;have:=lR ay;grind
   grind
  .cases h
 .split at h
  .have:∀{i acc s x},gbas D i acc=J (s,x)->i<=x/\x<U D:=λ{i acc s x}=>by
    induction hm:U D-i using Nat.strongRecOn generalizing i acc with
    |ind m bR=>
     intro h;rw[gbas] at h;split at h
     .rename_i gP;simp only[dg,hI] at h;have:=cu (D:=D) (i:=i) I;omega
     .split at h
      .split at h
       .cases h
       .rename_i t j he;have:=y5 he;grind
      .split at h
       .cases h
       .rename_i n ay;have:=lR ay;grind
   cases aX:gbas D (i+1) [] with
   |none=>rw[aX] at h;cases h
   |some q'=>
    obtain⟨s,x⟩:=q';rw[aX] at h;simp only[bump,dg,hI] at h;grind
  .split at h
   .cases h
   .have:=Hm (ax i D);grind
def gkey(D:B)(i:Nat)(acc:List B):Option (List B×Nat):=match aq:gsk D i with
 |none=>ab
 |J (k,j)=>if g D (a9 D j)=46 then gkey D (a9 D (a9 D j+1)) (acc++[k]) else J (acc++[k],a9 D j)
termination_by (U D)-i
decreasing_by
 have:=abc aq;have ad:=o6 (D:=D) (i:=j) I;have an:=cu (D:=D) (i:=a9 D j) I;have:=o6 (D:=D) (i:=a9 D j+1) I;omega
def E'(h:gsk D i=ab):gkey D i acc=ab:=by
 rw[gkey];grind
def Mf(h:gsk D i=J (k,j)):gkey D i acc=if g D (a9 D j)=46 then gkey D (a9 D (a9 D j+1)) (acc++[k]) else J (acc++[k],a9 D j):=by
 rw[gkey];split
 .grind
 grind
section
variable{h:H}{R k:K}{b C i i0 N r n c:Nat}{v p u fn b_ cp:ao}{D s:B}
def YG:Z 57=[a5 ab 0 0]:=b4
def WU(aM:db h b D C)(aD:bp b i0 (U D) C v)(q:StrQ (gsk D i0) h b (U D) C i0 R):bo 125 [p,v] h R:=by
 apply akC;have cI:=aD;obtain⟨e,rfl,aa,ad,an,aT,e0,hlen⟩:=aD.fL aM;unfold gsk at q;refine dG (dI aM aa) (hA aM aa) ?_;have bad:StrQ ab h b (U D) C i0 R->∀j u,bp b i0 j C u->j<=U D->∀s x,∀(aL:U s<=1000:=by first|decide|assumption),bD 51 [u,S s,x] h λu h=>R (bA #[a5 ab 0 0,a5 ab 0 0,a5 ab 0 0,u]) h:=λq j u hu aC s x aL=>
  gU hu aC λu ad ar er=>q _ _ _ _ _ ar er
 refine⟨λaW=>?_,λaW=>⟨λiA=>?_,λiA=>⟨λgP=>?_,λgP=>?_⟩⟩⟩
 .have bP:=g6 (D:=D) (i:=i0) I;have t':bareN (ax i0 D)=0:=by rw[iu I];rfl
  rw[ak I,ak I,aA t'] at q;exact bad q (U D) _ cI I _ _
 .rw[aA iA] at q;refine W1 aM cI I (λj x y z h' aw ar aS bl dt e6 nu=>?_) λx y z e h' aw ar aS=>?_
  .rw[ar] at q;refine aR ?_;exact q I I _ _ _ _ aw dt ⟨b,bF rfl,e6.tY (aM.ext aw) I⟩ nu
  .rw[aw] at q;refine aR ?_;exact q _ _ _ _ _ ar aS
 .rw[ak iA,aA gP] at q;refine B5 aM cI I ?_;cases aX:bump (gbas D (i0+1) []) with
  |none=>
   rw[aX] at q;intro x y z e h' aw ar;refine aR ?_;exact q _ _ _ _ _ aw ar
  |some ym=>
   rw[aX] at q;intro bx bH x y z h' aw ar aS bl;refine aR ?_;exact q bx bH x y z h' aw ar aS bl
 .rw[ak iA,ak gP] at q;have dR:=Hm (ax i0 D);simp only[ix] at dR;refine eV (λm u h'=>∃k:Nat,u=ah k/\k+bareN (ax (i0+k) D)=bareN (ax i0 D)/\h'=h/\m=U D-k) _ ⟨0,rfl,a1,rfl,rfl⟩ ?_;rintro m d u h' N ⟨k,rfl,aq,rfl,rfl⟩ a7;have fin:bareN (ax (i0+k) D)=0->(k=0->StrQ ab h' b (U D) C i0 R)/\(¬k=0->∀x y z,bp b i0 (i0+k) C x->bp b i0 (i0+k) C y->bp b (i0+k) (U D) C z->R (bA #[x,y,z,cR]) h'):=λaV=>by
   rw[aV,nm] at aq;rw[<-aq] at q;refine⟨λe=>al,λe x y z ae a2 aV=>?_⟩;rw[ak e] at q;exact q I I _ _ _ _ (aB.refl _) ae ⟨b,bF rfl,a2.tY aM I⟩ aV
  have err:(k=0->StrQ ab h' b (U D) C i0 R)->k=0->∀x u,bp b i0 (i0+1) C u->cellsL x=[x]->∀s,∀(aL:U s<=1000:=by first|decide|assumption),ew 20 1 (Z 20) [(0,1,x)] h' λh4 h=>bD 51 [u,S s,h4] h λu h=>R (bA #[a5 ab 0 0,a5 ab 0 0,a5 ab 0 0,u]) h:=λayv zk x u hu ae s aL=>by
   rw[pn oJ rfl ae];exact gU (N:=U D) hu I λw ad ar er=>ayv zk _ _ _ _ _ ((aB.push _ _).trans ar) er
  refine bG (dI aM aa) ?_;refine⟨λau=>?_,λau=>?_⟩
  .refine aix (λaf=>?_) λaf=>?_
   .rw[Lu,aA af] at aq;refine aR ?_;exact a7 _ _ _ I ⟨k+1,rfl,al,rfl,rfl⟩
   .obtain⟨f1,f2⟩:=fin (by rw[Lu,ak af]);clear a7 fin;refine bG (hA aM aa) ?_;refine⟨λzk=>err f1 zk _ _ ck rfl _,λzk=>f2 zk _ _ _ ck ck ck⟩
  .obtain⟨f1,f2⟩:=fin I;clear a7 fin;exact f2 I _ _ _ ck ck ck
end
def db.at(d:db h b D C)(e:h'[b]?=h[b]?):db h' b D C:=by
 obtain⟨c,t,b3,af,aa,ad⟩:=d.cells;exact⟨d.le,d.mH,d.len,c,t,b3,e.trans af,aa,ad⟩
def b2.lt(aF:b2 h v sz L (J r)):r<ag h:=by
 obtain⟨len,cap,c,t,aa,ad,an⟩:=aF;grind
def Ah(h:H)(ro b0:Option Nat):Prop:=b0=ro\/∃r,b0=J r/\ag h<=r
def Ah.step{h h' cN:H}{ro b0 Vk:Option Nat}(a:Ah h ro b0)(e:ag h<=ag h')(b:Vk=b0\/Vk=J (ag h')):Ah h ro Vk:=by
 rcases b with rfl|rfl
 .exact a
 .exact bt ⟨_,rfl,e⟩
def bV.grow(e:bV ro h h')(a:Ah h ro b0)(ar:bV b0 h' cN):bV ro h cN:=by
 refine⟨dH e.1 ar.1,λb af bk=>?_⟩;rw[ar.2 b (cP af e.1) ?_,e.2 b af bk];rcases a with rfl|⟨r,rfl,aF⟩
 .exact bk
 grind
def X3(res:Option (List B×Nat))(h:H)(b N C i0:Nat)(ro:Option Nat)(R:K):Prop:=match res with
 |J (ks,j)=>∀parts raw rest h' b0 vs,bV ro h h'->Ah h ro b0->b2 h' parts 1 vs b0->Ep (λbb=>(bb=b\/ag h<=bb)/\b0≠J bb) h' vs ks->ks≠[]->U ks<=j-i0->i0<j->j<=N->
  (∃bI,bI<=N/\bp b i0 bI C raw)->bp b j N C rest->R (bA #[parts,raw,rest,cR]) h'
 |none=>∀e h',bV ro h h'->e2 h' b N C e->R (bA #[a5 ab 0 0,a5 ab 0 0,a5 ab 0 0,e]) h'
section
variable{h:H}{R k:K}{b C i i0 N r n c:Nat}{v p u fn b_ cp dst:ao}{D s:B}{ro:Option Nat}
def ajT(aM:db h b D C)(aD:bp b i0 (U D) C v)(e1:b2 h dst 1 [] ro)(im:ro≠J b)(q:X3 (gkey D i0 []) h b (U D) C i0 ro R):bo 99 [p,v,dst] h R:=by
 apply am8;refine jn (λm u w h'=>∃(i:Nat) (acc:List B) (vs:List ao) (b0:Option Nat),i0<=i/\bp b i (U D) C u/\bV ro h h'/\Ah h ro b0/\b2 h' w 1 vs b0/\Ep (λbb=>(bb=b\/ag h<=bb)/\b0≠J bb) h' vs acc/\U acc<=i-i0/\gkey D i acc=gkey D i0 []/\m=U D-i) _
  ⟨i0,[],[],ro,bQ _,aD,bV.g_ (aB.refl _) _,bF rfl,e1,trivial,ed _,rfl,rfl⟩ ?_
 rintro m d u w h' N ⟨i,acc,vs,b0,atc,hu,he,dF,FJ,xW,jS,aX,rfl⟩ a7;have dR:=aM.lt;have fX:db h' b D C:=aM.at (he.2 b dR (λe=>im e.symm));have auB:b0≠J b:=by
  rcases dF with rfl|⟨r,rfl,aF⟩
  .exact im
  grind
 refine WU fX hu ?_;rw[<-aX] at q;cases aL:gsk D i with
 |none=>
  intro x y z e ad ar er;rw[E' aL] at q;have:=gW er;refine bG this ?_;exact q _ _ (he.grow (bF rfl) (bV.g_ ar _)) er
 |some wO=>
  obtain⟨oy,j⟩:=wO;intro eK nE x y z ad ar s1 s2 dB;obtain⟨bb,kB,jU⟩:=s2;rw[Mf aL] at q aX;have a2:∃e cap,y=a5 (J ⟨bb,e,ab⟩) (U oy) cap:=by
   obtain⟨e,n,cap,c,t,b3,aa,rfl,_⟩:=jU
   grind
  obtain⟨Kr,Kq,rfl⟩:=a2;refine aR ?_;rw[pn YG rfl rfl];have aS:aB h' (a6 ad (aO #[a5 (J ⟨bb,Kr,ab⟩) (U oy) Kq] 57)):=ar.trans (aB.push _ _);have C':b2 (a6 ad (aO #[a5 (J ⟨bb,Kr,ab⟩) (U oy) Kq] 57)) w 1 vs b0:=FJ.at λr aF=>by subst aF;exact aS.2 r FJ.lt
  refine b2.append (n:=1) (new:=#[a5 (J ⟨bb,Kr,ab⟩) (U oy) Kq]) (M:=[a5 (J ⟨bb,Kr,ab⟩) (U oy) Kq]) C' aE (by rw[YG];rfl) rfl ?_ rfl rfl rfl ?_ λbh an e7 bl FI q0=>?_
  .simp only[shown,dS];rfl
  .have:=xW.len;have:=aM.len;simp;omega
  have C1:bV ro h an:=(he.grow (bF rfl) (bV.g_ aS _)).grow dF bl;have Te:Ah h ro e7:=by
   rcases q0 with rfl|rfl
   .exact dF
   .exact bt ⟨_,rfl,dH he.1 aS.1⟩
  have ach:Ep (λbb=>(bb=b\/ag h<=bb)/\e7≠J bb) an (vs++[a5 (J ⟨bb,Kr,ab⟩) (U oy) Kq]) (acc++[oy]):=by
   refine pj.snoc (xW.at λx ae aJ=>⟨?_,aJ.1,?_⟩) ⟨bb,⟨?_,?_⟩,jU.at ?_⟩
   .rw[bl.2 x (cP ae aS.1) (λe=>aJ.2 e.symm),aS.2 x ae]
   .rcases q0 with rfl|rfl
    .exact aJ.2
    .intro e;cases e;have:=aS.1;omega
   .rcases kB with rfl|kB
    .omega
    .exact bt (dH he.1 kB)
   .have a':=jU.lt;rcases q0 with rfl|rfl
    .rcases kB with rfl|kB
     .exact auB
     .intro e;subst e;have:=FJ.lt;omega
    grind
   .have a':=jU.lt;rw[bl.2 bb (by simp;omega) ?_,aBE,ak I];intro e;rcases kB with rfl|kB
    .grind
    .subst e;have:=FJ.lt;omega
  have s9:db an b D C:=aM.at (C1.2 b dR (λe=>im e.symm));have IV:=dB;obtain⟨aDn,rfl,fC,j6,pT,rp⟩:=dB;obtain⟨ev,rfl,v1,v2,dD,v4⟩:=aD;have e0:=aM.mH;have hlen:=aM.len;refine aR ?_;refine B3 s9 IV λch k2=>?_;have x4:=o6 (D:=D) (i:=j) nE;have cI:=k2;obtain⟨s4,rfl,cZ,cj,eI,jB⟩:=k2;have fin:g D (a9 D j)≠46->∀x,bp b i0 j C x->R (bA #[bh,x,a5 (J ⟨b,s4,ab⟩) (U D-a9 D j) (C-a9 D j),cR]) an:=λmV x ae=>by
   rw[ak mV] at q;exact q _ _ _ _ _ _ C1 Te FI ach a1 (by simp;omega) I x4.2 ⟨j,nE,ae⟩ cI
  refine dG (dI s9 cZ) (hA s9 cZ) ?_;refine⟨λau=>⟨λmV=>?_,λmV=>fin mV _ ck⟩,λau=>fin (by rw[g6 I];decide) _ ck⟩;rw[aA mV] at aX;have auR:=o6 (D:=D) (i:=a9 D j+1) I;refine B3 (i:=a9 D j+1) s9 ck λaAb Tr=>?_;exact a7 (U D-a9 D (a9 D j+1)) _ _ _ I ⟨a9 D (a9 D j+1),acc++[oy],_,e7,I,Tr,C1,Te,FI,ach,by simp;omega,aX,rfl⟩
end
def bg(D:B)(i:Nat):Nat:=if g D i=43\/g D i=45 then i+1 else i
def rS(D:B)(j:Nat):Option (Nat×Nat):=if g D j=46 then(if cT (g D (j+1))=ai then(gF cT D (j+2)).map λj=>(j,10) else ab) else J (j,11)
def rR(D:B)(j k:Nat):Option (Nat×Nat):=if g D j=101\/g D j=69 then(if cT (g D (bg D (j+1)))=ai then(gF cT D (bg D (j+1)+1)).map λj=>(j,10) else ab) else J (j,k)
def si(c:Nat):Prop:=(97<=c/\c<=122)\/(65<=c/\c<=90)
instance(c:Nat):Decidable (si c):=by unfold si;infer_instance
def zF(D:B)(j k:Nat):Option (Nat×Nat):=if si (g D j) then ab else J (k,j)
def n_(c:Nat):Nat->Bool:=if c=120 then zs else if c=111 then zt else zr
def vA(c:Nat):B:=if c=110 then[110,97,110] else[105,110,102]
def numTail(D:B)(j:Nat):Option (Nat×Nat):=match rS D j with
 |none=>ab
 |J (bc,k)=>match rR D bc k with
  |none=>ab
  |J (eL,eI)=>zF D eL eI
def gnum(D:B)(i:Nat):Option (Nat×Nat):=
 if g D (bg D i)=105\/g D (bg D i)=110 then(if(D.take (bg D i+3)).drop (bg D i)=vA (g D (bg D i)) then J (10,bg D i+3) else ab)
 else if cT (g D (bg D i))=av then ab
 else if g D (bg D i)=48/\(g D (bg D i+1)=120\/g D (bg D i+1)=111\/g D (bg D i+1)=98) then
  (if bg D i≠i then ab else if n_ (g D (i+1)) (g D (i+2))=ai then(gF (n_ (g D (i+1))) D (i+3)).map λj=>(11,j) else ab)
 else match gF cT D (bg D i+1) with
  |none=>ab
  |some bS=>if g D (bg D i)=48/\bg D i+1<bS then ab else numTail D bS
def qh(D kw:B)(i k:Nat):Option (Nat×Nat):=if(D.take (i+kw.length)).drop i=kw then J (k,i+kw.length) else ab
def xt(res:Option (Nat×Nat))(h:H)(b N C i0:Nat)(R:K):Prop:=match res with
 |J (k,j)=>∀x y z,i0<j->j<=N->bp b i0 j C x->bp b i0 j C y->bp b j N C z->R (bA #[ah k,x,y,z,cR]) h
 |none=>∀u x y z e h',aB h h'->e2 h' b N C e->R (bA #[u,x,y,z,e]) h'
def mq(D:B)(i:Nat):Bool:=decide ((cT (g D (i+1))=ai/\g D (i+2)=58)\/(cT (g D (i+1))=ai/\cT (g D (i+2))=ai/\cT (g D (i+3))=ai/\g D (i+4)=45))
def rv(Q:ao->ao->H->Prop)(aa:∀N:ao->ao->H->Prop,(∀v w h,Q v w h->N v w h)->X N)(ad:∀v w h,Q v w h->k v w h):fD 2 X (λ_=>k):=⟨Q,λ_ _ _ _ h=>ad _ _ _ h,aa Q λ_ _ _ h=>h⟩
def Zb:∀s:B,bytesOf (s.map bv)=J s
 |[]=>rfl
 |c::s=>by
  have:UInt8.ofNat (Int.toNat ((c.toNat:Nat):Int))=c:=a1
  simp only[kp,bv,bytesOf];rw[Zb s,jl,this]
section
variable{h:H}{R k:K}{b C i i0 N r n c:Nat}{v p u fn b_ cp dst:ao}{D s kw:B}{ro:Option Nat}
def xj(af:kt h bb v s)(q:k (S s) h):Cbs v h k:=by
 obtain⟨e,n,cap,c,t,b3,rfl,rfl,aa,ad,an⟩:=af;have aL:shown h 1 (U s) (a5 (J ⟨bb,e,ab⟩) (U s) cap)=J (c.extract e (e+U s)):=by
  simp only[shown,aa,nn];grind
 simp only[Cbs,aL,an,Zb];refine⟨?_,q⟩;grind
def apg(h:cT c=ai):c≠0:=by
 intro e;subst e;revert h;decide
def W2(aM:db h b D C)(aD:bp b i0 (U D) C v)(q:R (aQ (mq D i0)) h):bo 150 [v] h R:=by
 apply ak3;obtain⟨e,rfl,aa,ad,an,aT,e0,hlen⟩:=aD.fL aM;unfold mq at q;have d2:U D<=i0+2->g D (i0+2)=0:=g6;have d4:U D<=i0+4->g D (i0+4)=0:=g6;have yes:((cT (g D (i0+1))=ai/\g D (i0+2)=58)\/(cT (g D (i0+1))=ai/\cT (g D (i0+2))=ai/\cT (g D (i0+3))=ai/\g D (i0+4)=45))->R (aQ ai) h:=λa=>al
 have no:¬((cT (g D (i0+1))=ai/\g D (i0+2)=58)\/(cT (g D (i0+1))=ai/\cT (g D (i0+2))=ai/\cT (g D (i0+3))=ai/\g D (i0+4)=45))->R (aQ av) h:=λa=>al
 clear q;have acv:U D-i0<5->¬(cT (g D (i0+1))=ai/\g D (i0+2)=58)->R (aQ av) h:=λa aI=>no λx=>by
  grind
 refine bG (dI aM aa) ?_;refine⟨λau=>uR ?_,λau=>?_⟩;rotate_left
 .grind
 cases cg:cT (g D (i0+1)) with
 |false=>
  have aI:¬(cT (g D (i0+1))=ai/\g D (i0+2)=58):=al
  refine bG (dI aM aa) ?_;refine⟨λmY=>uR ?_,λmY=>acv I aI⟩;refine bG cg ?_;grind
 |true=>
  refine bG (dI aM aa) ?_;refine⟨λbH=>yes (bF ⟨cg,bH⟩),λbH=>?_⟩;have aI:¬(cT (g D (i0+1))=ai/\g D (i0+2)=58):=λa=>bH a.2;refine⟨λmY=>uR ?_,λmY=>acv I aI⟩;refine dG cg (dI aM aa) ?_;refine uR ?_;cases Lj:cT (g D (i0+2)) with
  |false=>
   refine dG cg Lj ?_;grind
  |true=>
   refine hk cg Lj (dI aM aa) ?_;refine uR ?_;cases cq:cT (g D (i0+3)) with
   |false=>
    refine hk cg Lj cq ?_;grind
   |true=>
    refine i_ cg Lj cq (dI aM aa) ?_;grind
end
section
variable{h:H}{R k:K}{b C i i0 N r n c:Nat}{v p u fn b_ cp dst:ao}{D s kw:B}{ro:Option Nat}
def GK(aM:db h b D C)(aD:bp b i0 (U D) C v)(aq:0<U kw)(ik:U kw<=100)(q:xt (qh D kw i0 k6) h b (U D) C i0 R):bo 148 [v,S kw,ah (k6:Int)] h R:=by
 apply ak0;obtain⟨e,rfl,aa,ad,an,aT,e0,hlen⟩:=aD.fL aM;unfold qh at q;have bad:ax i0 (bf (i0+U kw) D)≠kw->∀x u (j:Nat),bp b i0 j C u->j<=U D->cellsL x=[x]->∀s,∀(aL:U s<=1000:=by first|decide|assumption),ew 20 1 (Z 20) [(0,1,x)] h λh4 h=>bD 51 [u,S s,h4] h λu h=>R (bA #[ah 0,a5 ab 0 0,a5 ab 0 0,a5 ab 0 0,u]) h:=λaI x u j hu aC ae s aL=>by
  rw[pn oJ rfl ae];rw[ak aI] at q;exact gU (N:=U D) hu aC λw ad ar er=>q _ _ _ _ _ _ ((aB.push _ _).trans ar) er
 have kX:U D-i0<U kw->ax i0 (bf (i0+U kw) D)≠kw:=λau e=>by
  grind
 refine aR ?_;refine⟨λau=>?_,λau=>?_⟩
 .refine lO ?_;have:=kX au;refine aR ?_;exact bad this _ _ (U D) ck I rfl _
 .refine xj (bp.tY (i:=i0) (j:=i0+U kw) ck aM I) ?_;refine aR ?_;refine⟨λbk=>lO ?_,λhe=>?_⟩
  .refine aR ?_;exact bad bk _ _ (i0+U kw) ck I rfl _
  .rw[aA (BU he)] at q;exact q _ _ _ I I ck ck ck
def ayV(c:Nat):n_ c 0=av:=by
 unfold n_;repeat' split
 all_goals rfl
def Oz:i<=bg D i/\bg D i<=i+1:=by unfold bg;grind
def aol(h:U D<=i):¬si (g D i):=by rw[g6 h];unfold si;omega
def QO(h:U D<=i):cT (g D i)=av:=by rw[g6 h];rfl
def agG{j:Nat}(aM:db h b D C)(aD:bp b i0 (U D) C v)(ath:0<j)(aC:i0+j<=U D)(q:xt (numTail D (i0+j)) h b (U D) C i0 R):
 fD 2 (λqG=>Pu (fb v) h λrf h=>
 Pu (bn fG (ah (j:Int)) rf) h λyr h=>
 a0 yr ai (λh k=>k v h) h λJZ h=>
 a0 yr ai (λh k=>k (ah (j:Int)) h) h λJ0 h=>
 a0 yr ai (Pu (ia 1 JZ J0)) h λJ1 h=>
 a0 yr ai (cd J1) h λJ2 h=>
 a0 yr ai (Pu (bn cQ J2 (bu 46))) h λJ3 h=>
 Pu (pk yr J3 (aQ av)) h λJ4 h=>
 b1 J4 (Pu (bn .add (ah (j:Int)) (ah 1)) h λBL h=>
 Pu (fb v) h λJ5 h=>
 Pu (bn h0 BL J5) h λw' h=>
 a0 w' av (λh k=>k v h) h λJ6 h=>
 a0 w' av (λh k=>k BL h) h λJ7 h=>
 a0 w' av (Pu (ia 1 J6 J7)) h λrh h=>
 a0 w' av (cd rh) h λJ8 h=>
 a0 w' av (bD 172 [J8]) h λJ9 h=>
 a0 w' av (Pu (un .not J9)) h λJ_ h=>
 Pu (pk w' (aQ ai) J_) h λJ' h=>
 b1 J' (Pu (sl 1 v (J BL) ab ab) h λKa h=>
 bD 177 [Ka] h λKb h=>
 bD 51 [Kb,(fo ⟨#[100,101,99,105,109,97,108,32,112,111,105,110,116,32,109,117,115,116,32,98,101,32,102,111,108,108,111,119,101,100,32,98,121,32,97,32,100,105,103,105,116]⟩),(a5 ab 0 0)] h λKc h=>
 R (bA #[(ah 0),(a5 ab 0 0),(a5 ab 0 0),(a5 ab 0 0),Kc]) h)<|
 Pu (bn .add BL (ah 1)) h λKd h=>
 bD 176 [v,Kd,(.func (.func 172) #[] #[])] h λGp h=>
 Pu (exv 0 Gp) h λKe h=>
 Pu (exv 1 Gp) h λGq h=>
 Pu (beI ai Gq cR) h λaAc h=>
 b1 aAc (R (bA #[(ah 0),(a5 ab 0 0),(a5 ab 0 0),(a5 ab 0 0),Gq]) h)<|
 qG Ke (ah 10) h)<|
 qG (ah (j:Int)) (ah 11) h) λ_ Kf aAd h=>
 fD 2 (λsW=>Pu (fb v) h λaAe h=>
 Pu (bn fG Kf aAe) h λBM h=>
 a0 BM ai (λh k=>k v h) h λaAf h=>
 a0 BM ai (λh k=>k Kf h) h λaAg h=>
 a0 BM ai (Pu (ia 1 aAf aAg)) h λaAh h=>
 a0 BM ai (cd aAh) h λaAi h=>
 a0 BM ai (Pu (bn cQ aAi (bu 101))) h λaAj h=>
 a0 BM ai (λh k=>k aAj h) h λGr h=>
 a0 Gr av (λh k=>k v h) h λaAk h=>
 a0 Gr av (λh k=>k Kf h) h λaAl h=>
 a0 Gr av (Pu (ia 1 aAk aAl)) h λaAm h=>
 a0 Gr av (cd aAm) h λaAn h=>
 a0 Gr av (Pu (bn cQ aAn (bu 69))) h λaAo h=>
 a0 BM ai (Pu (pk Gr (aQ ai) aAo)) h λaAp h=>
 Pu (pk BM aAp (aQ av)) h λaAq h=>
 b1 aAq (Pu (bn .add Kf (ah 1)) h λKg h=>
 fD 1 (λCa=>Pu (fb v) h λaAr h=>
 Pu (bn fG Kg aAr) h λBN h=>
 a0 BN ai (λh k=>k v h) h λaAs h=>
 a0 BN ai (λh k=>k Kg h) h λaAt h=>
 a0 BN ai (Pu (ia 1 aAs aAt)) h λaAu h=>
 a0 BN ai (cd aAu) h λaAv h=>
 a0 BN ai (Pu (bn cQ aAv (bu 43))) h λaAw h=>
 a0 BN ai (λh k=>k aAw h) h λGs h=>
 a0 Gs av (λh k=>k v h) h λaAx h=>
 a0 Gs av (λh k=>k Kg h) h λaAy h=>
 a0 Gs av (Pu (ia 1 aAx aAy)) h λaAz h=>
 a0 Gs av (cd aAz) h λaAA h=>
 a0 Gs av (Pu (bn cQ aAA (bu 45))) h λaAB h=>
 a0 BN ai (Pu (pk Gs (aQ ai) aAB)) h λaAC h=>
 Pu (pk BN aAC (aQ av)) h λaAD h=>
 b1 aAD (Pu (bn .add Kg (ah 1)) h λaAE h=>
 Ca aAE h)<|
 Ca Kg h) λ_ OO h=>
 Pu (fb v) h λaAF h=>
 Pu (bn h0 OO aAF) h λDV h=>
 a0 DV av (λh k=>k v h) h λaAG h=>
 a0 DV av (λh k=>k OO h) h λaAH h=>
 a0 DV av (Pu (ia 1 aAG aAH)) h λaAI h=>
 a0 DV av (cd aAI) h λaAJ h=>
 a0 DV av (bD 172 [aAJ]) h λaAK h=>
 a0 DV av (Pu (un .not aAK)) h λVW h=>
 Pu (pk DV (aQ ai) VW) h λGt h=>
 b1 Gt (Pu (sl 1 v (J OO) ab ab) h λVX h=>
 bD 177 [VX] h λKh h=>
 bD 51 [Kh,(fo ⟨#[101,120,112,111,110,101,110,116,32,109,117,115,116,32,99,111,110,116,97,105,110,32,97,116,32,108,101,97,115,116,32,111,110,101,32,100,105,103,105,116]⟩),(a5 ab 0 0)] h λVY h=>
 R (bA #[(ah 0),(a5 ab 0 0),(a5 ab 0 0),(a5 ab 0 0),VY]) h)<|
 Pu (bn .add OO (ah 1)) h λVZ h=>
 bD 176 [v,VZ,(.func (.func 172) #[] #[])] h λOP h=>
 Pu (exv 0 OP) h λV0 h=>
 Pu (exv 1 OP) h λOQ h=>
 Pu (beI ai OQ cR) h λV1 h=>
 b1 V1 (R (bA #[(ah 0),(a5 ab 0 0),(a5 ab 0 0),(a5 ab 0 0),OQ]) h)<|
 sW V0 (ah 10) h)<|
 sW Kf aAd h) λ_ zU V2 h=>
 fD 0 (λuV=>Pu (fb v) h λV3 h=>
 Pu (bn fG zU V3) h λV4 h=>
 b1 V4 (Pu (ia 1 v zU) h λV5 h=>
 cd V5 h λGu h=>
 Pu (bn h0 Gu (bu 97)) h λV6 h=>
 a0 V6 ai (λh k=>k Gu h) h λaAL h=>
 a0 V6 ai (Pu (bn .leq aAL (bu 122))) h λaAM h=>
 Pu (pk V6 aAM (aQ av)) h λKi h=>
 a0 Ki av (λh k=>k Gu h) h λaAN h=>
 a0 Ki av (Pu (bn h0 aAN (bu 65))) h λaAO h=>
 a0 Ki av (λh k=>k aAO h) h λV7 h=>
 a0 V7 ai (λh k=>k Gu h) h λaAP h=>
 a0 V7 ai (Pu (bn .leq aAP (bu 90))) h λaAQ h=>
 a0 Ki av (Pu (pk V7 aAQ (aQ av))) h λaAR h=>
 Pu (pk Ki (aQ ai) aAR) h λaAS h=>
 b1 aAS (Pu (bn .add zU (ah 1)) h λaAT h=>
 Pu (sl 1 v (J zU) (J aAT) ab) h λaAU h=>
 bD 51 [aAU,(fo ⟨#[115,116,114,105,110,103,115,32,109,117,115,116,32,98,101,32,113,117,111,116,101,100]⟩),(a5 ab 0 0)] h λaAV h=>
 R (bA #[(ah 0),(a5 ab 0 0),(a5 ab 0 0),(a5 ab 0 0),aAV]) h)<|
 uV h)<|
 uV h) λ_ h=>
 Pu (sl 1 v ab (J zU) ab) h λaAW h=>
 Pu (sl 1 v ab (J zU) ab) h λaAX h=>
 Pu (sl 1 v (J zU) ab ab) h λaAY h=>
 R (bA #[V2,aAW,aAX,aAY,cR]) h:=by
 have cI:=aD;obtain⟨e,rfl,aa,ad,an,aT,e0,hlen⟩:=aD.fL aM;unfold numTail at q;have bad:xt ab h b (U D) C i0 R->∀i j u,bp b i j C u->j<=U D->∀s x,∀(aL:U s<=1000:=by first|decide|assumption),bD 51 [u,S s,x] h λu h=>R (bA #[ah 0,a5 ab 0 0,a5 ab 0 0,a5 ab 0 0,u]) h:=λq i j u hu aC s x aL=>
  gU hu aC λu ad ar er=>q _ _ _ _ _ _ ar er
 have Lt:xt ab h b (U D) C i0 R->∀i u,bp b i (U D) C u->∀s x,∀(aL:U s<=1000:=by first|decide|assumption),bD 177 [u] h λw h=>bD 51 [w,S s,x] h λu h=>R (bA #[ah 0,a5 ab 0 0,a5 ab 0 0,a5 ab 0 0,u]) h:=λq i u hu s x aL=>
  W8 hu e0 λw j hw aC=>bad q i j w hw aC s x
 refine rv (λu w h'=>∃bc dq:Nat,u=ah bc/\w=ah dq/\rS D (i0+j)=J (i0+bc,dq)/\0<bc/\i0+bc<=U D/\h'=h) (λM cM=>?_) ?_
 .unfold rS at cM q;have plain:g D (i0+j)≠46->M (ah j) (ah 11) h:=λa=>cM _ _ _ ⟨j,11,rfl,rfl,al,ath,aC,rfl⟩;refine bG (dI aM aa) ?_;simp only[<-gL];refine⟨λau=>⟨λmV=>?_,λmV=>plain mV⟩,λau=>plain (by rw[g6 I];decide)⟩;rw[aA mV] at q cM;refine⟨λeg=>?_,λa'=>uR ?_⟩
  .rw[QO I,ak aE] at q;exact Lt q (i0+(j+1)) _ ck _ _
  .cases aG:cT (g D (i0+j+1)) with
   |false=>
    rw[aG,ak aE] at q;(simp-implicitDefEqProofs+contextual (disch:=omega) only[go_sem,aG];try refine c8 ?_)
    exact Lt q (i0+(j+1)) _ ck _ _
   |true=>
    rw[aG,aA rfl] at q cM;(simp-implicitDefEqProofs+contextual (disch:=omega) only[go_sem,aG];try refine c8 ?_)
    refine KO (i:=j+1+1) aM cI I PD (λbI bx bH cq=>?_) λbx x y h' bH cq=>?_
    .rw[(I:i0+(j+1+1)=i0+j+2)] at bx;refine aR ?_;grind
    .rw[(I:i0+(j+1+1)=i0+j+2)] at bx;rw[bx] at q;have:=gW cq;refine bG this ?_;exact q _ _ _ _ _ _ bH cq
 rintro _ _ h ⟨bc,dq,rfl,rfl,bj,ij,aca,rfl⟩;rw[bj] at q;refine rv (λu w h'=>∃eL eI:Nat,u=ah eL/\w=ah eI/\rR D (i0+bc) dq=J (i0+eL,eI)/\0<eL/\i0+eL<=U D/\h'=h) (λM cM=>?_) ?_
 .unfold rR at cM q;have plain:¬(g D (i0+bc)=101\/g D (i0+bc)=69)->M (ah bc) (ah dq) h:=λa=>cM _ _ _ ⟨bc,dq,rfl,rfl,by rw[ak a],ij,aca,rfl⟩;refine bG (dI aM aa) ?_;refine⟨λau=>⟨λhe=>?_,λhe=>⟨λvi=>?_,λvi=>plain I⟩⟩,λau=>plain (by rw[g6 I];decide)⟩;iterate 2
   .have Sy:g D (i0+bc)=101\/g D (i0+bc)=69:=I
    simp only[aA Sy] at q cM;refine ll (λu h'=>∃dB:Nat,u=ah dB/\i0+dB=bg D (i0+bc+1)/\i0+dB<=U D/\h'=h) (λM2 n0=>?_) ?_
    .clear q cM;refine bG (dI aM aa) ?_;simp only[<-gL];with_reducible repeat' first|refine⟨?_,?_⟩|intro
     all_goals first
      |exact n0 _ _ ⟨bc+1+1,rfl,by unfold bg;rw[aA I];omega,I,rfl⟩
      |exact n0 _ _ ⟨bc+1,rfl,by unfold bg;rw[ak I];omega,I,rfl⟩
      |exact n0 _ _ ⟨bc+1,rfl,by unfold bg;rw[g6 I,ak aE];omega,I,rfl⟩
    rintro _ h ⟨dB,rfl,q1,aE0,rfl⟩;have aE2:=Oz (D:=D) (i:=i0+bc+1);rw[<-q1] at q cM;refine bG (dI aM aa) ?_;refine⟨λeg=>?_,λa'=>uR ?_⟩
    .rw[QO I,ak aE] at q;exact Lt q (i0+dB) _ ck _ _
    .cases aG:cT (g D (i0+dB)) with
     |false=>
      rw[aG,ak aE] at q;(simp-implicitDefEqProofs+contextual (disch:=omega) only[go_sem,aG];try refine c8 ?_)
      exact Lt q (i0+dB) _ ck _ _
     |true=>
      rw[aG,aA rfl] at q cM;(simp-implicitDefEqProofs+contextual (disch:=omega) only[go_sem,aG];try refine c8 ?_)
      refine KO (i:=dB+1) aM cI I PD (λbI bx bH cq=>?_) λbx x y h' bH cq=>?_
      .rw[<-gL] at bx;refine aR ?_;grind
      .rw[<-gL] at bx;rw[bx] at q;have:=gW cq;refine bG this ?_;exact q _ _ _ _ _ _ bH cq
 rintro _ _ h ⟨eL,eI,rfl,rfl,he,wv,xU,rfl⟩;simp only[he] at q;unfold zF at q;have fin:¬si (g D (i0+eL))->∀x y z,bp b i0 (i0+eL) C x->bp b i0 (i0+eL) C y->bp b (i0+eL) (U D) C z->R (bA #[ah eI,x,y,z,cR]) h:=λa x y z ae a2 aV=>by
  rw[ak a] at q;exact q _ _ _ I xU ae a2 aV
 have YM:si (g D (i0+eL))->xt ab h b (U D) C i0 R:=λa=>al
 clear q;refine yJ ?_;refine bG (dI aM aa) ?_;have YK:=aol (D:=D) (i:=i0+eL);unfold si at fin YM YK;with_reducible repeat' first|refine⟨?_,?_⟩|intro
 all_goals first
  |with_reducible exact fin I _ _ _ ck ck ck
  |with_reducible exact fin (YK I) _ _ _ ck ck ck
  |with_reducible exact bad (YM I) (i0+eL) (i0+eL+1) _ ck I _ _
def C149(aM:db h b D C)(aD:bp b i0 (U D) C v)(az:i0<U D)(q:xt (gnum D i0) h b (U D) C i0 R):bo 149 [v] h R:=by
 apply ak1;have cI:=aD;obtain⟨e,rfl,aa,ad,an,aT,e0,hlen⟩:=aD.fL aM;have bad:gnum D i0=ab->∀i j u,bp b i j C u->j<=U D->∀s x,∀(aL:U s<=1000:=by first|decide|assumption),bD 51 [u,S s,x] h λu h=>R (bA #[ah 0,a5 ab 0 0,a5 ab 0 0,a5 ab 0 0,u]) h:=λa i j u hu aC s x aL=>
  gU hu aC λu ad ar er=>by rw[a] at q;exact q _ _ _ _ _ _ ar er
 have Cu:gnum D i0=ab->∀i j x u,bp b i j C u->j<=U D->cellsL x=[x]->∀s,∀(aL:U s<=1000:=by first|decide|assumption),ew 20 1 (Z 20) [(0,1,x)] h λy h=>bD 51 [u,S s,y] h λu h=>R (bA #[ah 0,a5 ab 0 0,a5 ab 0 0,a5 ab 0 0,u]) h:=λa i j x u hu aC ae s aL=>by
  rw[pn oJ rfl ae];exact gU (N:=U D) hu aC λw ad ar er=>by rw[a] at q;exact q _ _ _ _ _ _ ((aB.push _ _).trans ar) er
 have an9:bn .add (ah 0) (ah 1)=J (ah 1):=qL (a:=0) (b:=1) aE;have aoa:bn .add (ah 2) (ah 1)=J (ah 3):=qL (a:=2) (b:=1) aE;refine ll (λu h'=>∃s:Nat,u=ah s/\i0+s=bg D i0/\h'=h) (λM cM=>?_) ?_
 .refine hk (dI aM aa) (hA aM aa) an9 ?_;with_reducible repeat' first|refine⟨?_,?_⟩|intro
  all_goals first
   |exact cM _ _ ⟨1,rfl,by unfold bg;grind,rfl⟩
   |exact cM _ _ ⟨0,rfl,by unfold bg;grind,rfl⟩
 rintro _ _ ⟨s,rfl,aL,rfl⟩;rename_i h;have k1:=Oz (D:=D) (i:=i0);have Tl:bg D i0≠i0↔s≠0:=I
 have ss:gnum D i0=gnum D i0:=rfl;conv at ss=>rhs;unfold gnum
 rw[<-aL] at ss;refine bG (dI aM aa) ?_;refine⟨λeg=>?_,λa'=>?_⟩
 .have bP:=g6 (D:=D) (i:=i0+s) I;rw[bP,ak I,aA (show cT 0=av from rfl)] at ss;exact bad ss i0 (U D) _ cI (bQ _) _ _
 have i3:fD 1=fD 1:=rfl;clear i3;refine⟨λRU=>?_,λRU=>⟨λRV=>?_,λRV=>uR ?_⟩⟩;iterate 2
  .have ly:g D (i0+s)=105\/g D (i0+s)=110:=I
   rw[aA ly] at ss;have no:¬(ax (i0+s) (bf (i0+s+3) D)=vA (g D (i0+s)))->gnum D i0=ab:=λa=>al
   have lA:U (vA (g D (i0+s)))=3:=by unfold vA;grind
   have qp:¬(i0+s+3<=U D)->gnum D i0=ab:=λa=>no λe=>by
    grind
   refine ll (λu h'=>u=S (vA (g D (i0+s)))/\h'=h) (λM cM=>?_) ?_
   .unfold vA at cM;refine bG (dI aM aa) ?_;grind
   rintro _ h ⟨rfl,rfl⟩;refine bG (dI aM aa) ?_;refine⟨λeg=>Cu (qp I) (i0+s) (i0+s+1) _ _ ck I rfl _,λeg=>?_⟩;refine xj (bp.tY (i:=i0+s) (j:=i0+s+3) ck aM I) ?_;refine aR ?_;refine⟨λbk=>Cu (no bk) (i0+s) (i0+s+1) _ _ ck I rfl _,λhe=>?_⟩;rw[ss,aA (BU he)] at q;exact q _ _ _ I I ck ck ck
 rw[ak I] at ss;cases aG:cT (g D (i0+s)) with
 |false=>
  rw[aG,aA rfl] at ss;(simp-implicitDefEqProofs+contextual (disch:=omega) only[go_sem,aG,qH aM aa];try refine c8 ?_)
  exact Cu ss (i0+s) (i0+s+1) _ _ ck I rfl _
 |true=>
  rw[aG,ak aE] at ss;have dec:¬(g D (i0+s)=48/\(g D (i0+s+1)=120\/g D (i0+s+1)=111\/g D (i0+s+1)=98))->gnum D i0=(match gF cT D (i0+s+1) with|none=>ab|some bS=>if g D (i0+s)=48/\i0+s+1<bS then ab else numTail D bS):=λa=>by rw[ak a] at ss;exact ss
  have Va:(g D (i0+s)=48/\(g D (i0+s+1)=120\/g D (i0+s+1)=111\/g D (i0+s+1)=98))->gnum D i0=(if i0+s≠i0 then ab else if n_ (g D (i0+1)) (g D (i0+2))=ai then(gF (n_ (g D (i0+1))) D (i0+3)).map λj=>(11,j) else ab):=λa=>by rw[aA a] at ss;exact ss
  clear ss;(simp-implicitDefEqProofs+contextual (disch:=omega) only[go_sem,aG,qH aM aa];try refine c8 ?_)
  simp only[<-gL];with_reducible repeat' first|refine⟨?_,?_⟩|intro
  all_goals first
   |with_reducible exact bad al i0 (i0+2) _ ck I _ _
   |skip
  iterate 3
   .have FK:s=0:=I
    have ay:g D (i0+1)=120\/g D (i0+1)=111\/g D (i0+1)=98:=al
    have aX:=Va I;rw[ak I] at aX;have fg:=cu (D:=D) (i:=i0+1) I;clear Va dec;refine ll (λu h'=>B_ (n_ (g D (i0+1))) u/\h'=h) (λM cM=>?_) ?_
    .unfold n_ at cM;refine bG (dI aM aa) ?_;with_reducible repeat' first|refine⟨?_,?_⟩|intro
     all_goals first
      |exact cM _ _ ⟨by rw[aA I];exact ana,rfl⟩
      |exact cM _ _ ⟨by rw[ak I,aA I];exact anb,rfl⟩
      |exact cM _ _ ⟨by rw[ak I,ak I];exact anc,rfl⟩
      |omega
    rintro fn h ⟨MT,rfl⟩;refine bG (dI aM aa) ?_;refine⟨λeg=>?_,λa'=>MT _ _ _ ?_⟩
    .have cv:=ayV (g D (i0+1));rw[g6 (D:=D) (i:=i0+2) I,cv,ak aE] at aX;exact bad aX i0 (i0+2) _ ck I _ _
    .cases aJ:n_ (g D (i0+1)) (g D (i0+2)) with
     |false=>
      rw[aJ,ak aE] at aX;refine aR ?_;exact bad aX i0 (i0+2) _ ck I _ _
     |true=>
      rw[aJ,aA rfl] at aX;refine bG aoa ?_;refine KO (i:=3) aM cI I MT (λbI bx bH cq=>?_) λbx x y h' bH cq=>?_
      .rw[bx] at aX;rw[aX] at q;refine aR ?_;exact q _ _ _ I cq ck ck ck
      .rw[bx] at aX;rw[aX] at q;have:=gW cq;refine bG this ?_;exact q _ _ _ _ _ _ bH cq
  all_goals
   have aX:=dec (by first|omega|(have:=@cu D (i0+s+1);omega));clear Va dec;refine KO (i:=s+1) aM cI I PD (λbI bx bH cq=>?_) λbx x y h' bH cq=>?_
   .rw[<-gL] at bx;simp only[bx] at aX;have zero:g D (i0+s)=48->s+1<bI->gnum D i0=ab:=λa bM=>al
    have na:¬(g D (i0+s)=48/\s+1<bI)->xt (numTail D (i0+bI)) h b (U D) C i0 R:=λa=>by
     grind
    refine aR ?_;first
     |exact⟨λaV=>bad (zero b8 aV) (i0+s) (i0+s+2) _ ck I _ _,λaV=>agG aM cI I cq (na (λa=>aV a.2))⟩
     |exact agG aM cI I cq (na (λa=>I))
   .rw[<-gL] at bx;simp only[bx] at aX;rw[aX] at q;have:=gW cq;refine bG this ?_;exact q _ _ _ _ _ _ bH cq
end
def j_(c:Nat):Prop:=cT c=ai\/c=58\/c=45\/c=43\/c=46\/c=90\/c=122
instance(c:Nat):Decidable (j_ c):=by unfold j_;infer_instance
def lU(D:B)(i:Nat):Prop:=g D i=84\/g D i=116\/(g D i=32/\cT (g D (i+1))=ai)
instance(D:B)(i:Nat):Decidable (lU D i):=by unfold lU;infer_instance
def gZ(D:B)(i:Nat)(dl:Option Nat):Nat×Option Nat:=
 if h:i<U D/\j_ (g D i) then gZ D (i+1) dl else if h:i<U D/\lU D i then gZ D (i+1) (J (dl.getD i)) else(i,dl)
termination_by (U D)-i
def tH(c:Nat):Prop:=c=90\/c=122\/c=43\/c=45
instance(c:Nat):Decidable (tH c):=by unfold tH;infer_instance
def yt(l:B):Bool:=l.any λc=>decide (tH c.toNat)
def dtKind(D:B)(i e:Nat):Option Nat->Nat
 |none=>if g D (i+2)=58 then 13 else 12
 |some d=>if g D (i+2)=58 then 13 else if yt (ax (d+1) (bf e D))=ai then 15 else 14
def om(D:B)(i:Nat):Option (Nat×Nat):=J (dtKind D i (gZ D i ab).1 (gZ D i ab).2,(gZ D i ab).1)
def ve(az:i<U D)(h:j_ (g D i)):gZ D i dl=gZ D (i+1) dl:=by rw[gZ,gw ⟨az,h⟩]
def v'(az:i<U D)(h:¬j_ (g D i))(h':lU D i):gZ D i dl=gZ D (i+1) (J (dl.getD i)):=by rw[gZ,e8 (λa=>h a.2),gw ⟨az,h'⟩]
def qP(h:i<U D->¬j_ (g D i))(h':i<U D->¬lU D i):gZ D i dl=(i,dl):=by rw[gZ,e8 (λa=>h a.1 a.2),e8 (λa=>h' a.1 a.2)]
def E9:∀{i:Nat} {dl:Option Nat},i<=U D->(∀d,dl=J d->d<i)->i<=(gZ D i dl).1/\(gZ D i dl).1<=U D/\∀d,(gZ D i dl).2=J d->d<(gZ D i dl).1:=λ{i dl}=>by
 induction hm:U D-i using Nat.strongRecOn generalizing i dl with
 |ind m bR=>
  intro az aG;rw[gZ];split
  .grind
  .split
   .rename_i h;have:=bR (U D-(i+1)) I rfl (dl:=J (dl.getD i)) I (λd e=>by
     cases dl with
     |none=>grind
     |some fl=>grind)
    grind
   grind
def aaI:∀{i:Nat} {dl:Option Nat},a<=i->(∀d,dl=J d->a<=d)->∀d,(gZ D i dl).2=J d->a<=d:=λ{i dl}=>by
 induction hm:U D-i using Nat.strongRecOn generalizing i dl with
 |ind m bR=>
  intro az aG;rw[gZ];split
  .grind
  .split
   .rename_i h;exact bR (U D-(i+1)) I rfl (dl:=J (dl.getD i)) I (λd e=>by
     cases dl with
     |none=>grind
     |some fl=>grind)
   .exact aG
def ZN(h:cT (g D i)=ai):i<U D:=cu (apg h)
def aaJ(aW:cT (g D i)=ai)(h:mq D i=ai):i+3<=(gZ D i ab).1:=by
 have aL:=KH h;have aa:cT (g D (i+1))=ai:=al
 have ad:j_ (g D (i+2)):=by
  rcases aL with a|a
  .exact bt (bF a.2)
  .exact bF a.2.1
 have dA:i+2<U D:=by
  rcases aL with a|a
  .exact cu I
  .exact ZN a.2.1
 rw[ve I (bF aW),ve I (bF aa),ve dA ad];exact(E9 I (λ_ e=>by cases e)).1
def aho(he:e<=U D):yt (ax d (bf e D))=ai↔∃k,d<=k/\k<e/\tH (g D k):=by
 unfold yt;rw[List.any_eq_true];constructor
 .rintro⟨x,ae,aV⟩;obtain⟨k,aq,rfl⟩:=aBN ae;simp at aq;refine⟨d+k,I,I,?_⟩;rw[fu I];grind
 .rintro⟨k,aa,ad,aV⟩;rw[fu I] at aV;refine⟨D[k],?_,al⟩;have:(ax d (bf e D))[k-d]?=J D[k]:=by
   grind
  grind
def adh:IY [90,122,43,45] c↔tH c:=by
 unfold tH;constructor
 .rintro⟨m,hm,rfl⟩;match m,hm with
  |0,_=>exact bF rfl
  |1,_=>exact bt (bF rfl)
  |2,_=>exact bt (bt (bF rfl))
  |3,_=>exact bt (bt (bt rfl))
 .rintro(rfl|rfl|rfl|rfl)
  .exact⟨0,aE,rfl⟩
  .exact⟨1,aE,rfl⟩
  .exact⟨2,aE,rfl⟩
  .exact⟨3,aE,rfl⟩
def v7(i0:Nat):Option Nat->ao
 |none=>ah (-1)
 |some d=>ah (d-i0:Nat)
section
variable{h:H}{R k:K}{b C i i0 N r n c:Nat}{v p u fn b_ cp dst:ao}{D s kw:B}{ro:Option Nat}
def Uc:bn fG (v7 i0 d) (ah 0)=J (aQ (decide (d=ab))):=by
 cases d with
 |none=>rfl
 |some d=>
  unfold v7;rw[show((0:Int))=((0:Nat):Int) from rfl,NN I];rfl
def W3(aM:db h b D C)(aD:bp b i0 (U D) C v)(aW:cT (g D i0)=ai)(e_:mq D i0=ai)(q:xt (om D i0) h b (U D) C i0 R):bo 151 [v] h R:=by
 apply ak4;have cI:=aD;obtain⟨e,rfl,aa,ad,an,aT,e0,hlen⟩:=aD.fL aM;have arp:=aaJ aW e_;have az:=ZN aW;have Fm:=E9 (D:=D) (i:=i0) (dl:=ab) I (λ_ e=>by cases e);refine rv (λu w h'=>u=ah ((gZ D i0 ab).1-i0:Nat)/\w=v7 i0 (gZ D i0 ab).2/\h'=h) (λM cM=>?_) ?_
 .clear q;refine jn (λm u w h'=>∃(j:Nat) (dl:Option Nat),u=ah j/\w=v7 i0 dl/\i0+j<=U D/\(∀d,dl=J d->i0<=d)/\gZ D (i0+j) dl=gZ D i0 ab/\h'=h/\m=U D-j) _ ⟨0,ab,rfl,rfl,I,(λ_ e=>by cases e),rfl,rfl,rfl⟩ ?_;rintro m d u w h' N ⟨j,dl,rfl,rfl,aC,gn,aX,rfl,rfl⟩ a7;have more:i0+j<U D->j_ (g D (i0+j))->N (ah (j+1:Nat)) (v7 i0 dl) h':=λa bM=>a7 _ _ _ _ I ⟨j+1,dl,rfl,rfl,I,gn,by rw[<-aX,ve a bM,gL],rfl,rfl⟩;have stop:(i0+j<U D->¬j_ (g D (i0+j)))->(i0+j<U D->¬lU D (i0+j))->M (ah j) (v7 i0 dl) h':=λa bM=>by
   rw[qP a bM] at aX;grind
  have ZT:i0+j<U D->¬j_ (g D (i0+j))->lU D (i0+j)->(dl=ab->N (ah (j+1:Nat)) (ah j) h')/\(¬dl=ab->N (ah (j+1:Nat)) (v7 i0 dl) h'):=λa bx bH=>by
   have vk:=v' (dl:=dl) a bx bH;refine⟨λe=>?_,λe=>?_⟩
   .subst e;exact a7 _ _ _ _ I ⟨j+1,J (i0+j),rfl,by show _=Value.int .i64 ((i0+j-i0:Nat):Int);grind,I,(λd e=>al),al,rfl,rfl⟩
   .cases dl with
    |none=>grind
    |some fl=>exact a7 _ _ _ _ I ⟨j+1,J fl,rfl,rfl,I,gn,al,rfl,rfl⟩
  clear a7 cM;refine bG (dI aM aa) ?_;refine⟨λau=>uR ?_,λau=>stop (λa=>I) (λa=>I)⟩;cases aG:cT (g D (i0+j)) with
  |true=>
   (simp-implicitDefEqProofs+contextual (disch:=omega) only[go_sem,aG];try refine c8 ?_)
   exact more I (bF aG)
  |false=>
   have nG:¬cT (g D (i0+j))=ai:=al
   (simp-implicitDefEqProofs+contextual (disch:=omega) only[go_sem,aG,Uc,qH aM aa];try refine c8 ?_)
   simp only[<-gL];have Uw:¬(g D (i0+j)=58\/g D (i0+j)=45\/g D (i0+j)=43\/g D (i0+j)=46\/g D (i0+j)=90\/g D (i0+j)=122)->¬j_ (g D (i0+j)):=λa x=>by
    rcases x with x|x
    .grind
    .exact a x
   have sG:(g D (i0+j)=58\/g D (i0+j)=45\/g D (i0+j)=43\/g D (i0+j)=46\/g D (i0+j)=90\/g D (i0+j)=122)->N (ah (j+1:Nat)) (v7 i0 dl) h':=λa=>more I (bt a);have LJ:lU D (i0+j)->(dl=ab->N (ah (j+1:Nat)) (ah j) h')/\(¬dl=ab->N (ah (j+1:Nat)) (v7 i0 dl) h'):=λa=>ZT I (Uw (by unfold lU at a;omega)) a;have agt:¬(g D (i0+j)=58\/g D (i0+j)=45\/g D (i0+j)=43\/g D (i0+j)=46\/g D (i0+j)=90\/g D (i0+j)=122)->¬lU D (i0+j)->M (ah j) (v7 i0 dl) h':=λa bM=>stop (λ_=>Uw a) λ_=>bM;have d84:g D (i0+j)=84->lU D (i0+j):=λa=>Or.inl a;have d116:g D (i0+j)=116->lU D (i0+j):=λa=>Or.inr (Or.inl a);have fj:¬g D (i0+j)=84->¬g D (i0+j)=116->¬g D (i0+j)=32->¬lU D (i0+j):=λa b c x=>by rcases x with x|x|x;exact a x;exact b x;exact c x.1
   have h2:¬g D (i0+j)=84->¬g D (i0+j)=116->cT (g D (i0+j+1))=av->¬lU D (i0+j):=λa b c x=>by rcases x with x|x|x;exact a x;exact b x;grind
   have d32:g D (i0+j)=32->cT (g D (i0+j+1))=ai->lU D (i0+j):=λa b=>Or.inr (Or.inr ⟨a,b⟩);clear more stop ZT Uw;with_reducible repeat' first|refine⟨?_,?_⟩|intro
   all_goals first
    |with_reducible exact sG I
    |with_reducible exact(LJ (d84 b8)).1 b8
    |with_reducible exact(LJ (d84 b8)).2 b8
    |with_reducible exact(LJ (d116 b8)).1 b8
    |with_reducible exact(LJ (d116 b8)).2 b8
    |with_reducible exact agt I (fj b8 b8 b8)
    |with_reducible exact agt I (h2 b8 b8 (QO I))
    |skip
   refine uR ?_;cases h9:cT (g D (i0+j+1)) with
   |true=>
    refine dG h9 @Uc ?_;grind
   |false=>
    refine bG h9 ?_;grind
 rintro _ _ _ ⟨rfl,rfl,rfl⟩;rename_i h;unfold om at q;obtain⟨E,jR⟩:∃E,(gZ D i0 ab).1=i0+E:=⟨(gZ D i0 ab).1-i0,I⟩;have gn:=Fm.2.2;have mA:=aaI (D:=D) (a:=i0) (i:=i0) (dl:=ab) (bQ _) (λ_ e=>by cases e);revert q;generalize (gZ D i0 ab).2=dl at gn mA⊢;rw[jR] at arp Fm gn⊢;intro q;rw[(I:i0+E-i0=E)];have cq:E<=U D-i0:=I
 refine ?_;refine aR ?_;refine ll (λu h'=>u=ah (dtKind D i0 (i0+E) dl:Int)/\h'=h) (λM cM=>?_) ?_
 .clear q;have tm:bp b i0 (i0+E) C (a5 (J ⟨b,e,ab⟩) E (C-i0)):=ck;have avV:g D (i0+2)=58->M (ah 13) h:=λa=>cM _ _ ⟨by cases dl<;>simp[dtKind,a],rfl⟩;refine dG (dI aM aa) @Uc ?_;refine⟨avV,λacx=>⟨λwm=>cM _ _ ⟨by subst wm;simp[dtKind,acx],rfl⟩,λwm=>?_⟩⟩;obtain⟨d,rfl⟩:=Option.ne_none_iff_exists'.1 wm;have aG:=gn d rfl;have mA:=mA d rfl;have aw:v7 i0 (J d)=ah (d-i0:Nat):=rfl;have av3:dtKind D i0 (i0+E) (J d)=if yt (ax (d+1) (bf (i0+E) D))=ai then 15 else 14:=by simp[dtKind,acx]
  rw[av3] at cM;rw[aw];refine aR ?_;refine W9 (i0:=d+1) (i1:=i0+E) aM ck I aE (λk aq aV=>?_) λaV=>?_
  .refine aR ?_;exact cM _ _ ⟨by rw[aA ((aho I).2 ⟨d+1+k,I,aq,adh.1 aV⟩)];rfl,rfl⟩
  .have:bn h0 (ah (-1)) (ah 0)=J (aQ av):=rfl;refine bG this ?_;refine cM _ _ ⟨?_,rfl⟩;rw[ak (λa=>?_)]
   .rfl
   .obtain⟨k,cZ,cj,eI⟩:=(aho I).1 a;exact aV (k-(d+1)) I (adh.2 al)
 rintro _ _ ⟨rfl,rfl⟩;refine aR ?_;exact q _ _ _ I I ck ck ck
end
inductive G7|str(s:B)|tok(k:Nat)
def scaS:Option (B×Nat)->Option (G7×Nat)
 |J (s,j)=>J (.str s,j)
 |none=>ab
def scaT:Option (Nat×Nat)->Option (G7×Nat)
 |J (k,j)=>J (.tok k,j)
 |none=>ab
def y6(D:B)(i:Nat):Option (B×Nat):=match hB D i with
 |J (c,j)=>J (ax i (bf c D),j)
 |none=>ab
def glitS(D:B)(i:Nat):Option (B×Nat):=match glit D i with
 |some j=>J (ax i (bf j D),j+1)
 |none=>ab
def mv(D:B)(i:Nat):Option (B×Nat):=
 if g D i=34 then(if g D (i+1)=34/\g D (i+2)=34 then gmb D (iU D (i+3)) [] else bump (gbas D (i+1) []))
 else if g D (i+1)=39/\g D (i+2)=39 then y6 D (iU D (i+3)) else glitS D (i+1)
def gm(D:B)(i:Nat):Option (Nat×Nat):=
 if g D i=116 then qh D [116,114,117,101] i 9 else if g D i=102 then qh D [102,97,108,115,101] i 9
 else if g D i=105 then qh D [105,110,102] i 10 else if g D i=110 then qh D [110,97,110] i 10
 else if g D i=43\/g D i=45 then gnum D i else if cT (g D i)=ai then(if mq D i=ai then om D i else gnum D i) else ab
def kA(D:B)(i:Nat):Option (G7×Nat):=if g D i=34\/g D i=39 then scaS (mv D i) else scaT (gm D i)
def xu(res:Option (G7×Nat))(h:H)(b N C i0:Nat)(R:K):Prop:=match res with
 |J (.str s,j)=>i0<j->j<=N->∀x y z h',aB h h'->bp b i0 j C x->(∃bb,(bb=b\/ag h<=bb)/\kt h' bb y s)->bp b j N C z->R (bA #[ah 8,x,y,z,cR]) h'
 |J (.tok k,j)=>i0<j->j<=N->∀x y z,bp b i0 j C x->bp b i0 j C y->bp b j N C z->R (bA #[ah k,x,y,z,cR]) h
 |none=>∀u x y z e h',aB h h'->e2 h' b N C e->R (bA #[u,x,y,z,e]) h'
section
variable{h:H}{R k:K}{b C i i0 N r n c:Nat}{v p u fn b_ cp dst:ao}{D s kw:B}{ro:Option Nat}
def BE(q:xu (scaS o) h b N C i0 R):StrQ o h b N C i0 λv h=>Pu (exv 0 v) h λv1 h=>Pu (exv 1 v) h λv2 h=>Pu (exv 2 v) h λdD h=>Pu (exv 3 v) h λv4 h=>R (bA #[ah 8,v1,v2,dD,v4]) h:=by
 cases o with
 |none=>
  intro x y z e h' aw ar;refine aR ?_;exact q _ _ _ _ _ _ aw ar
 |some ym=>
  intro bx bH x y z h' aw ar aS bl;refine aR ?_;exact q bx bH x y z h' aw ar aS bl
def BG(q:xu (scaT o) h b N C i0 R):xt o h b N C i0 λv h=>Pu (exv 0 v) h λv1 h=>Pu (exv 1 v) h λv2 h=>Pu (exv 2 v) h λdD h=>Pu (exv 3 v) h λv4 h=>Pu (exv 4 v) h λfI h=>R (bA #[v1,v2,dD,v4,fI]) h:=by
 cases o with
 |none=>
  intro u x y z e h' aw ar;refine aR ?_;exact q _ _ _ _ _ _ aw ar
 |some ym=>
  intro x y z bx bH aw ar aS;refine aR ?_;exact q bx bH x y z aw ar aS
def W0(aM:db h b D C)(aD:bp b i0 (U D) C v)(az:i0+3<=U D)(q:StrQ (y6 D (iU D (i0+3))) h b (U D) C i0 R):bo 146 [p,v] h R:=by
 unfold y6 at q;refine aiw aM aD az (λc j x y z h' aw ar aS bl dt e6 nu v8 QY=>?_) λx y z e h' aw ar aS=>?_
 .rw[ar] at q;exact q I e6 _ _ _ _ aw nu ⟨b,bF rfl,v8.tY (aM.ext aw) bl⟩ QY
 .rw[aw] at q;exact q _ _ _ _ _ ar aS
def Ed(aM:db h b D C)(aD:bp b i0 (U D) C v)(az:i0<U D)(q:StrQ (glitS D (i0+1)) h b (U D) C i0 R):bo 147 [p,v] h R:=by
 unfold glitS at q;refine W1 aM aD az (λj x y z h' aw ar aS bl dt e6 nu=>?_) λx y z e h' aw ar aS=>?_
 .rw[ar] at q;exact q I I _ _ _ _ aw dt ⟨b,bF rfl,e6.tY (aM.ext aw) I⟩ nu
 .rw[aw] at q;exact q _ _ _ _ _ ar aS
def OL(hm:m≠0):(g D (i0+1)=m/\g D (i0+2)=m)->i0+3<=U D:=λa=>by
 have:=@cu D (i0+2);omega
def aij(aM:db h b D C)(aD:bp b i0 (U D) C v)(q:xu (kA D i0) h b (U D) C i0 R):bo 121 [p,v] h R:=by
 apply akz;have cI:=aD;obtain⟨e,rfl,aa,ad,an,aT,e0,hlen⟩:=aD.fL aM;have bad:kA D i0=ab->∀i j u,bp b i j C u->j<=U D->∀s x,∀(aL:U s<=1000:=by first|decide|assumption),bD 51 [u,S s,x] h λu h=>R (bA #[ah 0,a5 ab 0 0,a5 ab 0 0,a5 ab 0 0,u]) h:=λa i j u hu aC s x aL=>
  gU hu aC λu ad ar er=>by rw[a] at q;exact q _ _ _ _ _ _ ar er
 have Cu:kA D i0=ab->∀i j x u,bp b i j C u->j<=U D->cellsL x=[x]->∀s,∀(aL:U s<=1000:=by first|decide|assumption),ew 20 1 (Z 20) [(0,1,x)] h λy h=>bD 51 [u,S s,y] h λu h=>R (bA #[ah 0,a5 ab 0 0,a5 ab 0 0,a5 ab 0 0,u]) h:=λa i j x u hu aC ae s aL=>by
  rw[pn oJ rfl ae];exact gU (N:=U D) hu aC λw ad ar er=>by rw[a] at q;exact q _ _ _ _ _ _ ((aB.push _ _).trans ar) er
 have SS:=OL (D:=D) (i0:=i0) (m:=34) aE;have SU:=OL (D:=D) (i0:=i0) (m:=39) aE;have ha:∀o,g D i0=34\/g D i0=39->mv D i0=o->xu (scaS o) h b (U D) C i0 R:=λo a e=>by
  unfold kA at q;grind
 have Oa:g D i0=34->g D (i0+1)=34->g D (i0+2)=34->xu (scaS (gmb D (iU D (i0+3)) [])) h b (U D) C i0 R:=λa bx bH=>ha _ (bF a) (by unfold mv;rw[aA a,aA ⟨bx,bH⟩]);have sJ:g D i0=34->¬(g D (i0+1)=34/\g D (i0+2)=34)->xu (scaS (bump (gbas D (i0+1) []))) h b (U D) C i0 R:=λa bx=>ha _ (bF a) (by unfold mv;rw[aA a,ak bx]);have Ob:g D i0=39->g D (i0+1)=39->g D (i0+2)=39->xu (scaS (y6 D (iU D (i0+3)))) h b (U D) C i0 R:=λa bx bH=>ha _ (bt a) (by unfold mv;rw[ak I,aA ⟨bx,bH⟩]);have By:g D i0=39->¬(g D (i0+1)=39/\g D (i0+2)=39)->xu (scaS (glitS D (i0+1))) h b (U D) C i0 R:=λa bx=>ha _ (bt a) (by unfold mv;rw[ak I,ak bx]);have q6:∀o,¬g D i0=34->¬g D i0=39->gm D i0=o->xu (scaT o) h b (U D) C i0 R:=λo a bx e=>by
  unfold kA at q;grind
 have Fb:¬g D i0=34->¬g D i0=39->gm D i0=ab->kA D i0=ab:=λa bx e=>by unfold kA;rw[ak I,e];rfl
 clear q ha;by_cases wo:U D<=i0
 .have bP:=g6 wo;have:=@bad (Fb I I (by unfold gm;rw[bP];rfl));refine aR ?_;exact this i0 (U D) _ cI (bQ _) _ _
 have SX:¬2<U D-i0->¬(g D (i0+1)=34/\g D (i0+2)=34):=λa x=>I
 have SY:¬2<U D-i0->¬(g D (i0+1)=39/\g D (i0+2)=39):=λa x=>I
 clear SS SU;refine dG (dI aM aa) (hA aM aa) ?_;with_reducible repeat' first|refine⟨?_,?_⟩|intro
 all_goals first|((with_reducible change bD _ _ _ _);change bo _ _ _ _)|skip
 all_goals first
  |with_reducible exact WZ aM cI I (BE (Oa b8 b8 b8))
  |with_reducible exact B5 aM cI I (BE (sJ b8 (λx=>absurd x.1 b8)))
  |with_reducible exact B5 aM cI I (BE (sJ b8 (λx=>absurd x.2 b8)))
  |with_reducible exact B5 aM cI I (BE (sJ b8 (SX b8)))
  |with_reducible exact W0 aM cI I (BE (Ob b8 b8 b8))
  |with_reducible exact Ed aM cI I (BE (By b8 (λx=>absurd x.1 b8)))
  |with_reducible exact Ed aM cI I (BE (By b8 (λx=>absurd x.2 b8)))
  |with_reducible exact Ed aM cI I (BE (By b8 (SY b8)))
  |skip
 all_goals unfold gm at q6 Fb
 .exact GK aM cI aE aE (BG (q6 _ b8 b8 (by rw[aA b8])))
 .exact GK aM cI aE aE (BG (q6 _ b8 b8 (by rw[ak b8,aA b8])))
 .exact GK aM cI aE aE (BG (q6 _ b8 b8 (by rw[ak b8,ak b8,aA b8])))
 .exact GK aM cI aE aE (BG (q6 _ b8 b8 (by rw[ak b8,ak b8,ak b8,aA b8])))
 .exact C149 aM cI I (BG (q6 _ b8 b8 (by rw[ak b8,ak b8,ak b8,ak b8,aA I])))
 .exact C149 aM cI I (BG (q6 _ b8 b8 (by rw[ak b8,ak b8,ak b8,ak b8,aA I])))
 .have aG:cT (g D i0)=ai:=j7 I;have Jq:=λo=>q6 o b8 b8;rw[ak b8,ak b8,ak b8,ak b8,ak I,aA aG] at Jq;refine W2 aM cI ?_;cases aL:mq D i0 with
  |true=>
   rw[aL,aA rfl] at Jq;refine aR ?_;exact W3 aM cI aG aL (BG (Jq _ rfl))
  |false=>
   rw[aL,ak aE] at Jq;refine aR ?_;exact C149 aM cI I (BG (Jq _ rfl))
 all_goals
  have aG:cT (g D i0)=av:=ig I;have aI:=Fb b8 b8;rw[ak b8,ak b8,ak b8,ak b8,ak I,aG,ak aE] at aI;have aI:=aI rfl;clear q6 Fb Oa sJ Ob By;with_reducible exact Cu aI i0 (i0+1) _ _ ck I rfl _
def ajI(aM:db h b D C)(aD:bp b i0 (U D) C v)(q:xu (kA D i0) h b (U D) C i0 R):bo 82 [p,v] h R:=by
 apply amT;refine aij aM aD ?_;cases aX:kA D i0 with
 |none=>
  rw[aX] at q;intro u x y z e h' aw ar;refine aR ?_;exact q u x y z e h' aw ar
 |some t=>
  rw[aX] at q;match t with
  |(.str s,j)=>
   intro bx bH x y z h' aw ar aS bl;refine aR ?_;exact q bx bH x y z h' aw ar aS bl
  |(.tok k,j)=>
   intro bx bH x y z ar aS bl;refine aR ?_;exact q bx bH x y z ar aS bl
end
section
section
variable{h:H}{k:K}{o n t t2:Nat}{v:ao}{c cs:Array ao}{Y aCD:Obj}
def mK:(a6 h x)[ag h]?=J x:=dS h x
def rU:(a6 (a6 h x) Y)[ag h]?=J x:=by
 grind
def ax9:dy (a6 (a6 h x) Y) (ag h) y=a6 (a6 h y) Y:=by
 grind
def U4(aD:cellsL v=[v]):ht c o (cellsL v)=dy c o v:=by rw[aD];rfl
def Gc:∀{l:List ao} {c:Array ao},ag c=U l->ht c 0 l=aZ l:=λ{l c} ay=>by
 have:=DC l c 0 I;apply Array.ext';simp only[tM,Wv,sS] at this;rw[xg (by rw[Kv,zH];omega)] at this;omega
@[go_sem↓] def aCt:cd (bU (J ⟨ag h,o,ab⟩)) (a6 (a6 h (aO c t)) Y) k=Pu c[o]? (a6 (a6 h (aO c t)) Y) k:=fs rU
def tQ(aD:cellsL v=[v])(aa:one v=ai)(aL:o+1<=ag c):bZ 1 (bU (J ⟨ag h,o,ab⟩)) v (a6 h (aO c t)) k=k undef (a6 h (aO (dy c o v) t)):=by
 rw[Lc (by rw[aD];rfl) (by rw[aD];simp[ones,aa]) aL (bt (ed _)),U4 aD]
def X8(aL:ag c=n+1):cO (n+1) (aN (ag h)) (a6 h (aO c t)) k=k (cA c) (a6 h (aO c t)):=by
 show cO (n+1) (bU (J ⟨ag h,0,ab⟩)) _ k=_;rw[yL mK I,(I:0+(n+1)=ag c),Wi]
def anq(aL:ag c=n+1):cO (n+1) (aN (ag h)) (a6 (a6 h (aO c t)) Y) k=k (cA c) (a6 (a6 h (aO c t)) Y):=by
 show cO (n+1) (bU (J ⟨ag h,0,ab⟩)) _ k=_;rw[yL rU I,(I:0+(n+1)=ag c),Wi]
def jK(aL:ag c=n)(aI:0<n):cO n (aN (ag h)) (a6 h (aO c t)) k=k (cA c) (a6 h (aO c t)):=by
 cases n with
 |zero=>omega
 |succ n=>exact X8 aL
def anr(aL:ag c=n)(aI:0<n):cO n (aN (ag h)) (a6 (a6 h (aO c t)) Y) k=k (cA c) (a6 (a6 h (aO c t)) Y):=by
 cases n with
 |zero=>omega
 |succ n=>exact anq aL
def h7(aL:ag c=n)(eC:ag cs=n)(aH:ones (bC cs)=ai):bZ n (aN (ag h)) (cA cs) (a6 h (aO c t)) k=k undef (a6 h (aO cs t)):=by
 show bZ n (bU (J ⟨ag h,0,ab⟩)) _ _ k=_;rw[Lc (v:=cA cs) (by simpa[cellsL] using eC) aH I (bt (ed _))];simp only[cellsL];rw[Gc (by simp;omega)]
def anQ(aL:ag c=n)(eC:ag cs=n)(aH:ones (bC cs)=ai):bZ n (aN (ag h)) (cA cs) (a6 (a6 h (aO c t)) Y) k=k undef (a6 (a6 h (aO cs t)) Y):=by
 show bZ n (bU (J ⟨ag h,0,ab⟩)) _ _ k=_;rw[xv (v:=cA cs) rU (by simpa[cellsL] using eC) aH I (bt (ed _)),ax9];simp only[cellsL];rw[Gc (by simp;omega)]
def s0{h:H}{b n:Nat}{t:Nat}{k:H->K}(af:h[b]?=J (aO c t))(aL:ag c=n+1)(eC:ag cs=n+1)(aH:ones (bC cs)=ai)(q:∀h',bV (J b) h h'->k h' (cA cs) h'):
  bZ (n+1) (aN b) (cA cs) h λ_ h=>cO (n+1) (aN b) h (k h):=by
 show bZ (n+1) (bU (J ⟨b,0,ab⟩)) _ h _;have a':b<ag h:=(cm.1 af).1;rw[xv (v:=cA cs) af (by simpa[cellsL] using eC) aH I (bt (ed _))];simp only[cellsL];rw[Gc (by simp;omega)];have cF:(dy h b (aO (aZ (bC cs)) t))[b]?=J (aO (aZ (bC cs)) t):=by simp[a']
 show cO (n+1) (bU (J ⟨b,0,ab⟩)) _ (k _);rw[yL cF (by simp;omega),show 0+(n+1)=ag (aZ (bC cs)) by simp;omega,Wi,OV];exact q _ ⟨a1,λx ae bk=>al⟩
end
section
variable{h aW ad:H}{k:ao->H->Prop}{b N C p eb gS n o t t1 t2:Nat}{e v:ao}{c c1 c2 cs:Array ao}
def e2.afX(er:e2 ad b N C e)(af:ad[p]?=J (aO c t))(aP:t≠124)(aw:bV (J p) ad an):e2 an b N C e:=by
 obtain⟨x,au,msg,oy,i,j,aa,aT,bN⟩:=er;refine⟨x,au,msg,oy,i,j,aa,?_,bN⟩;rw[aw.2 x (cm.1 aT).1,aT];grind
def kr(n:Nat)(x:ao):Prop:=∃cs,x=cA cs/\ag cs=n/\ones (bC cs)=ai
def E3(er:e2 ad b N C e)(bP:aB aW ad)(af:ad[p]?=J (aO c t))(aJ:ag aW<=p)(aP:t≠124)(aL:ag c=n+1)(eC:ag cs=n+1)(aH:ones (bC cs)=ai)
  (q:∀x h',kr (n+1) x->aB aW h'->e2 h' b N C e->k x h'):bZ (n+1) (aN p) (cA cs) ad λ_ h=>cO (n+1) (aN p) h λv _=>k v h:=
 s0 (k:=λh v _=>k v h) af aL eC aH λh' aw=>q _ _ ⟨cs,rfl,eC,aH⟩ (bV.fe bP aw λr aF=>al) (er.afX af aP aw)
def fx(af:ad[p]?=J (aO c t))(aL:o+1<=ag c)(aD:cellsL v=[v])(aa:one v=ai)(q:∀an,bV (J p) ad an->an[p]?=J (aO (dy c o v) t)->k undef an):bZ 1 (bU (J ⟨p,o,ab⟩)) v ad k:=by
 rw[xv af (by rw[aD];rfl) (by rw[aD];simp[ones,aa]) aL (bt (ed _)),U4 aD];have a':p<ag ad:=(cm.1 af).1;exact q _ ⟨a1,λx ae bk=>al⟩ (by simp[a'])
def mS(af:ad[p]?=J (aO c t))(aL:ag c=n+1):cO (n+1) (aN p) ad k=k (cA c) ad:=by
 show cO (n+1) (bU (J ⟨p,0,ab⟩)) ad k=_;rw[yL af I,(I:0+(n+1)=ag c),Wi]
def G9(af:ad[p]?=J (aO c t))(eC:ag cs=n)(aH:ones (bC cs)=ai)(aL:o+n<=ag c)(q:∀an,bV (J p) ad an->an[p]?=J (aO (ht c o (bC cs)) t)->k undef an):bZ n (bU (J ⟨p,o,ab⟩)) (cA cs) ad k:=by
 rw[xv (v:=cA cs) af (by simpa[cellsL] using eC) aH aL (bt (ed _))];have a':p<ag ad:=(cm.1 af).1;exact q _ ⟨a1,λx ae bk=>al⟩ (by simp[a',cellsL])
def aao{X:H->Prop}(er:e2 ad b N C e)(bP:aB aW ad)(dz:ad[eb]?=J (aO c1 t1))(cF:ad[gS]?=J (aO c2 t2))(aa:ag aW<=eb)(nw:ag aW<=gS)(bk:eb≠gS)(Tn:t1≠124)(wH:t2≠124)
  (iD:ag c1=n+1) (gQ:ag c2=n+1) (ib:o+1<=ag c2) (aD:cellsL v=[v]) (kb:one v=ai) (aH:ones (bC (dy c2 o v))=ai) (q:∀x h',kr (n+1) x->aB aW h'->e2 h' b N C e->k x h'):
  bZ 1 (bU (J ⟨gS,o,ab⟩)) v ad λ_ h=>Pu (beI ai e cR) h λw h=>b1 w (cO (n+1) (aN gS) h λji h=>bZ (n+1) (aN eb) ji h λ_ h=>cO (n+1) (aN eb) h λhS _=>k hS h) (X h):=by
 refine fx cF ib aD kb λan aw eH=>?_;have Z7:=er.afX cF wH aw;rw[gW Z7,bs,gl,mS eH al];have a':eb<ag ad:=(cm.1 dz).1;exact E3 Z7 (bV.fe bP aw λr aF=>al) (by rw[aw.2 eb a' (λe=>bk (en e))];exact dz) aa Tn iD al aH q
end
attribute [go_sem] List.setIfInBounds_toArray aBV ahC
end
def CE:∀{l:B} {pv:Bool} {o:B},dig b pv l=J o->∀c∈o,(fQ c.toNat).isSome=ai
 |[],pv,o,h=>by simp only[dig,dg] at h;grind
 |c::l,pv,o,h=>by
  rw[dig] at h;split at h
  .split at h
   .exact CE h
   .cases h
  .split at h
   .rename_i d aG;split at h
    .cases h
    .obtain⟨fc,aH,rfl⟩:=yz.1 h;intro x ae;rcases r9.1 ae with rfl|ae
     .rw[aG];rfl
     .exact CE aH x ae
   .cases h
def CF:∀{l:B} {pv:Bool} {o:B},dig b pv l=J o->U o<=U l
 |[],pv,o,h=>by simp only[dig,dg] at h;grind
 |c::l,pv,o,h=>by
  rw[dig] at h;split at h
  .split at h
   .have:=CF h;simp;omega
   .cases h
  .split at h
   .split at h
    .cases h
    .obtain⟨fc,aH,rfl⟩:=yz.1 h;have:=CF aH;simp;omega
   .cases h
def iF(k:Nat):B:=[48,if k=0 then 120 else if k=1 then 111 else 98]
def iO(k:Nat):Nat:=if k=0 then 16 else if k=1 then 8 else 2
def based(b:Nat)(l:B):Option Int:=match dig b av l with
 |some o=>if o=[] then ab else(whole b 9223372036854775807 0 o).map λn:Nat=>(n:Int)
 |none=>ab
def EU(l:B):Option Int:=match dig 10 av (if top l=43\/top l=45 then l.tail else l) with
 |some o=>if o=[]\/(1<U o/\g o 0=48) then ab else if top l=45 then(whole 10 9223372036854775808 0 o).map λn:Nat=> -(n:Int) else(whole 10 9223372036854775807 0 o).map λn:Nat=>(n:Int)
 |none=>ab
def integer(l:B):Option Int:=if 2<U l/\bf 2 l=iF 0 then based 16 (ax 2 l) else if 2<U l/\bf 2 l=iF 1 then based 8 (ax 2 l) else if 2<U l/\bf 2 l=iF 2 then based 2 (ax 2 l) else EU l
def Nr(x:Option Int):ao:=match x with
 |some n=>bA #[g5 1 n 0 [],ah 0]
 |none=>bA #[g5 0 0 0 [],ah 1]
section
variable{h:H}{k:K}{R:K}{l:B}
def ah4:ew 9 3 (Z 9) [(0,1,S [48,120]),(1,1,S [48,111]),(2,1,S [48,98])] h k=k (a5 (J ⟨ag h,0,ab⟩) 3 3) (a6 h (aO #[S (iF 0),S (iF 1),S (iF 2)] 9)):=by rw[tR];rfl
def ah2:ew 3 3 (Z 3) [(0,1,(ah 16)),(1,1,(ah 8)),(2,1,(ah 2))] h k=k (a5 (J ⟨ag h,0,ab⟩) 3 3) (a6 h (aO #[ah ((iO 0:Nat):Int),ah ((iO 1:Nat):Int),ah ((iO 2:Nat):Int)] 3)):=by rw[YD];rfl
def aye(h:n<3):(#[S (iF 0),S (iF 1),S (iF 2)]:Array ao)[n]?=J (S (iF n)):=by
 grind
def aoL(h:n<3):(#[ah ((iO 0:Nat):Int),ah ((iO 1:Nat):Int),ah ((iO 2:Nat):Int)]:Array ao)[n]?=J (ah ((iO n:Nat):Int)):=by
 grind
def ajA(au:l.length<=400)(q:∀h',aB h h'->R (Nr (integer l)) h'):bo 66 [S l] h R:=by
 apply amB;let V:=Obj.cells #[.b 0,.i 0,.u 0,S [],.slice ab 0 0,.slice ab 0 0] 28
 let ad:=(h.push V).push (.cells #[S (iF 0),S (iF 1),S (iF 2)] 9)
 have eu:∀h',aB ad h'->h'[h.size]?=J V:=λh' e=>by
  rw[e.2 _ al,aBE,ak a1,dS]
 have u':aB h ad:=(aB.push _ _).trans (aB.push _ _);have j0:∀(h':H),aB ad h'->∀cs,R (Nr (integer l)) (h'.setIfInBounds h.size (.cells cs 28)):=λh' e cs=>q _ ((u'.trans e).set (bQ _));have Q9:∀(n:Int) (h':H),aB ad h'->integer l=J n->bZ 6 (aN h.size) (g5 1 n 0 []) h' λ_ cN=>cO 6 (aN h.size) cN λkM _=>R (.tuple #[kM,(.i 0)]) cN:=λn h' e ae=>by
  unfold g5;refine Lb (k:=λh v _=>R (.tuple #[v,(.i 0)]) h) (eu h' e) rfl rfl rfl ?_;have:=j0 h' e #[.b ((1:Nat):Int),.i n,.u ((0:Nat):Int),S [],.slice ab 0 0,.slice ab 0 0];rw[ae] at this;exact this
 have ap2:∀(h':H),aB ad h'->integer l=ab->bZ 6 (aN h.size) (g5 0 0 0 []) h' λ_ cN=>cO 6 (aN h.size) cN λkM _=>R (.tuple #[kM,(.i 1)]) cN:=λh' e ae=>by
  unfold g5;refine Lb (k:=λh v _=>R (.tuple #[v,(.i 1)]) h) (eu h' e) rfl rfl rfl ?_;have:=j0 h' e #[.b ((0:Nat):Int),.i 0,.u ((0:Nat):Int),S [],.slice ab 0 0,.slice ab 0 0];rw[ae] at this;exact this
 have Oo:2<=l.length->sls (S l) ab (J (.i 2))=J (S (l.take 2)):=λh=>DI (j:=2) h;have s2:2<=l.length->sls (S l) (J (.i 2)) ab=J (S (l.drop 2)):=λh=>zL (i:=2) h;(simp-implicitDefEqProofs+contextual (disch:=omega) only[go_sem,j9,↓ah4];try refine c8 ?_)
 refine eV (λdW v h'=>∃k:Nat,v=.i (k:Int)/\h'=ad/\k<=3/\(∀k',k'<k->¬(2<l.length/\l.take 2=iF k'))/\dW=3-k) 3 ⟨0,rfl,rfl,aE,λ_ h=>I,rfl⟩ ?_;rintro dW d v h' N ⟨k,rfl,rfl,aq,fy,rfl⟩ a7;refine aR ?_;refine⟨λaa=>?_,λaa=>?_⟩
 .have e1:ad[(h.push (Obj.cells #[.b 0,.i 0,.u 0,S [],.slice ab 0 0,.slice ab 0 0] 28)).size]?=J (.cells #[S (iF 0),S (iF 1),S (iF 2)] 9):=dS (h.push V) _;have next:¬(2<l.length/\l.take 2=iF k)->N (.i ((k+1:Nat):Int)) ad:=λaI=>a7 (3-(k+1)) _ _ I ⟨k+1,rfl,rfl,aa,λk' ql=>by
   grind,rfl⟩
  refine i_ @TA (c4 e1) (aye aa) Oo ?_;refine⟨λan=>⟨λaT=>?_,λaT=>next λc=>aT c.2⟩,λan=>next λc=>an c.1⟩;have hint:integer l=based (iO k) (l.drop 2):=by
   unfold integer;match k,aa with
   |0,_=>rw[aA ⟨an,aT⟩];rfl
   |1,_=>rw[ak (fy 0 aE),aA ⟨an,aT⟩];rfl
   |2,_=>rw[ak (fy 0 aE),ak (fy 1 aE),aA ⟨an,aT⟩];rfl
  have Fh:0<iO k/\iO k<=16:=by
   unfold iO;grind
  rw[ah2];have aS:=aB.push ad (.cells #[.i ((iO 0:Nat):Int),.i ((iO 1:Nat):Int),.i ((iO 2:Nat):Int)] 3);generalize aX:ad.push (.cells #[.i ((iO 0:Nat):Int),.i ((iO 1:Nat):Int),.i ((iO 2:Nat):Int)] 3)=AK at aS;have FI:AK[ad.size]?=J (.cells #[.i ((iO 0:Nat):Int),.i ((iO 1:Nat):Int),.i ((iO 2:Nat):Int)] 3):=al
  have avw:ia 1 (.slice (J ⟨ad.size,0,ab⟩) 3 3) (.i (k:Int))=J (.pointer (J ⟨ad.size,k,ab⟩)):=TA aa;have ZA:ci .u64 (.i ((iO k:Nat):Int))=J (.u ((iO k:Nat):Int)):=Hv I;have bad:integer l=ab->Bd (Z 28) [] AK λg2 x=>bZ 6 (aN h.size) g2 x λ_ x=>cO 6 (aN h.size) x λji _=>R (.tuple #[ji,(.i 1)]) x:=λe=>by
   rw[yD];grind
  have hw:IntKind.u64.wrap ((iO k:Nat):Int)=((iO k:Nat):Int):=BP I;refine vE avw (c4 FI) (aoL aa) s2 ZA ?_;simp only[hw];unfold based at hint;refine GO (by simp;omega) (λo aH bk=>?_) (λaH=>?_) λaH=>?_
  .rw[aH] at hint;simp only[bk,lL] at hint;have zl:=CF aH;simp only[ix] at zl;refine bG ZA ?_;refine Pw (m:=9223372036854775807) I Fh.1 aE aE (CE aH) (λn aI hs=>?_) λaI=>?_
   .rw[aI,jl] at hint;(simp-implicitDefEqProofs+contextual (disch:=omega) only[go_sem,Pa];try refine c8 ?_)
    exact Q9 _ AK aS hint
   .rw[aI] at hint;refine aR ?_;grind
  .rw[aH] at hint;refine aR ?_;grind
  .rw[aH] at hint;refine aR ?_;grind
 .have oT:k=3:=I
  subst oT;have A4:integer l=EU l:=by
   unfold integer;rw[ak (fy 0 aE),ak (fy 1 aE),ak (fy 2 aE)]
  unfold EU at A4;have bad:integer l=ab->Bd (Z 28) [] ad λg2 x=>bZ 6 (aN h.size) g2 x λ_ x=>cO 6 (aN h.size) x λji _=>R (.tuple #[ji,(.i 1)]) x:=λe=>by
   rw[yD];exact ap2 ad (aB.refl _) e
  have Qm:bn .add (.u 9223372036854775807) (.u 1)=J (.u ((9223372036854775808:Nat):Int)):=rfl;have aw6:∀n:Nat,n<=9223372036854775808->∃x:Int,un .neg (.u (n:Int))=J (.u x)/\ci .i64 (.u x)=J (.i (-(n:Int))):=λn aI=>by
   refine⟨IntKind.u64.wrap (0-(n:Int)),rfl,?_⟩;simp only[ci];congr 2;simp only[jv];simp[IntKind.wrap,IntKind.bits,IntKind.signed];omega
  have na:l.tail.length<=400:=by simp;omega
  have tail:∀(t:B) (neg:Bool),t.length<=400->integer l=(match dig 10 av t with
    |some o=>if o=[]\/(1<o.length/\g o 0=48) then ab else if neg=ai then(whole 10 9223372036854775808 0 o).map λn:Nat=> -(n:Int) else(whole 10 9223372036854775807 0 o).map λn:Nat=>(n:Int)
    |none=>ab)->∀rA,rA=h.size->Pu (exv 0 (.tuple #[S t,.bool neg])) ad λkN h=>Pu (exv 1 (.tuple #[S t,.bool neg])) h λkj h=>bD 88 [kN,(.i 10)] h λme h=>Pu (exv 0 me) h λjI h=>Pu (exv 1 me) h λnO h=>Pu (un .not nO) h λnP h=>a0 nP av (λh k=>k jI h) h λl1 h=>a0 nP av (Pu (q3 l1)) h λo_ h=>a0 nP av (Pu (bn .gtr o_ (.i 1))) h λiH h=>a0 nP av (λh k=>k iH h) h λkO h=>a0 kO ai (λh k=>k jI h) h λnQ h=>a0 kO ai (Pu (ixs nQ (.i 0))) h λn' h=>a0 kO ai (Pu (bn .eql n' (.b 48))) h λnd h=>a0 nP av (Pu (pk kO nd (.bool av))) h λkk h=>Pu (pk nP (.bool ai) kk) h λnf h=>b1 nf (Bd (Z 28) [] h λmf h=>bZ 6 (aN rA) mf h λ_ h=>cO 6 (aN rA) h λmg _=>R (.tuple #[mg,(.i 1)]) h)<|fD 1 (λnV=>b1 kj (Pu (bn .add (.u 9223372036854775807) (.u 1)) h λng h=>nV ng h)<|nV (.u 9223372036854775807) h) λ_ kl h=>bD 89 [jI,(.u 10),kl] h λlI h=>Pu (exv 0 lI) h λsQ h=>Pu (exv 1 lI) h λmh h=>Pu (un .not mh) h λo' h=>b1 o' (Bd (Z 28) [] h λqy h=>bZ 6 (aN rA) qy h λ_ h=>cO 6 (aN rA) h λjk _=>R (.tuple #[jk,(.i 1)]) h)<|b1 kj (Pu (un .neg sQ) h λkm h=>Pu (ci .i64 km) h λpa h=>Bd (Z 28) [(0,1,(.b 1)),(1,1,pa)] h λmi h=>bZ 6 (aN rA) mi h λ_ h=>cO 6 (aN rA) h λnh _=>R (.tuple #[nh,(.i 0)]) h)<|Pu (ci .i64 sQ) h λoA h=>Bd (Z 28) [(0,1,(.b 1)),(1,1,oA)] h λkn h=>bZ 6 (aN rA) kn h λ_ h=>cO 6 (aN rA) h λrj _=>R (.tuple #[rj,(.i 0)]) h:=by
   intro t neg tn hint rA jT;subst jT;clear A4;refine aR ?_;refine GO tn (λo aH bk=>?_) (λaH=>?_) λaH=>?_
   .rw[aH] at hint;simp only[bk,false_or] at hint;have zl:=CF aH;have mP:0<o.length->ixs (S o) (.i 0)=J (.b (g o 0:Int)):=λh=>m3 (i:=0) h;have rest:¬(1<o.length/\g o 0=48)->fD 1 (λnV=>b1 (.bool neg) (Pu (bn .add (.u 9223372036854775807) (.u 1)) ad λng h=>nV ng h) (nV (.u 9223372036854775807) ad)) λ_ kl g=>bD 89 [S o,(.u 10),kl] g λlI g=>Pu (exv 0 lI) g λsQ g=>Pu (exv 1 lI) g λmh g=>Pu (un .not mh) g λo' g=>
      b1 o' (Bd (Z 28) [] g λqy g=>bZ 6 (aN h.size) qy g λ_ g=>cO 6 (aN h.size) g λjk _=>R (.tuple #[jk,(.i 1)]) g)<|
      b1 (.bool neg) (Pu (un .neg sQ) g λkm g=>Pu (ci .i64 km) g λpa g=>Bd (Z 28) [(0,1,(.b 1)),(1,1,pa)] g λmi g=>bZ 6 (aN h.size) mi g λ_ g=>cO 6 (aN h.size) g λnh _=>R (.tuple #[nh,(.i 0)]) g)<|
      Pu (ci .i64 sQ) g λoA g=>Bd (Z 28) [(0,1,(.b 1)),(1,1,oA)] g λkn g=>bZ 6 (aN h.size) kn g λ_ g=>cO 6 (aN h.size) g λrj _=>R (.tuple #[rj,(.i 0)]) g:=λaV=>by
     rw[ak aV] at hint;refine ll (λu g'=>u=.u ((if neg=ai then 9223372036854775808 else 9223372036854775807:Nat):Int)/\g'=ad) (λM cM=>?_) ?_
     .cases neg with
      |true=>refine bG Qm ?_;grind
      |false=>refine aR ?_;grind
     .rintro u g' ⟨rfl,rfl⟩;refine Pw (b:=10) I aE al al (CE aH) (λn aI hs=>?_) λaI=>?_
      .cases neg with
       |true=>
        rw[aA rfl] at aI hint hs;rw[aI,jl] at hint;obtain⟨x,dd,dr⟩:=aw6 n hs;(simp-implicitDefEqProofs+contextual (disch:=omega) only[go_sem,dd,dr,Pa];try refine c8 ?_)
        exact Q9 _ _ (aB.refl _) hint
       |false=>
        rw[ak aE] at aI hint hs;rw[aI,jl] at hint;have y:ci .i64 (.u (n:Int))=J (.i (n:Int)):=Zl I;(simp-implicitDefEqProofs+contextual (disch:=omega) only[go_sem,y,Pa];try refine c8 ?_)
        exact Q9 _ _ (aB.refl _) hint
      .have ma:integer l=ab:=by
        grind
       refine aR ?_;grind
    refine bG mP ?_;repeat' first|with_reducible refine⟨?_,?_⟩|with_reducible intro _
    all_goals grind
   .rw[aH] at hint;refine aR ?_;grind
   .rw[aH] at hint;refine aR ?_;grind
  refine Xt (λuh=>?_) (λl8=>?_) λuh l8=>?_
  .rw[aA (.inl uh)] at A4;exact tail l.tail av na (by rw[A4];simp only[show¬top l=45 by omega,lL,uL]) _ rfl
  .rw[aA (.inr l8)] at A4;exact tail l.tail ai na (by rw[A4];simp only[l8,ei]) _ rfl
  .rw[ak I] at A4;exact tail l av au (by rw[A4];simp only[show¬top l=45 from l8,lL,uL]) _ rfl
end
def aU(D:B)(i j:Nat):B:=ax i (bf j D)
def gY(aq:i+k<j)(aC:j<=U D):g (aU D i j) k=g D (i+k):=by
 unfold aU g;grind
def hi(aC:j<=U D):U (aU D i j)=j-i:=Jo aC
def ldate(D:B)(i j:Nat):Option (Nat×Nat×Nat):=if j=i+10/\g D (i+4)=45/\g D (i+7)=45 then
  match two (aU D i (i+4)),two (aU D (i+5) (i+7)),two (aU D (i+8) (i+10)) with
  |J y,J m,J d=>if 1<=m/\m<=12/\1<=d/\d<=s3 y m then J (y,m,d) else ab
  |_,_,_=>ab
 else ab
section
variable{h:H}{R k:K}{b C i j i0 N r n c:Nat}{v p u fn b_ cp dst:ao}{D s kw:B}{ro:Option Nat}
def tS:Z 93=[ah 0,ah 0,ah 0]:=b4
def WY(q:R (aQ (cT c)) h):bo 143 [bu (c:Int)] h R:=by
 apply akV;refine aR ?_;unfold cT at q;grind
def z4(aM:db h b D C)(aD:bp b i j C v)(aC:j<=U D)(au:j-i<=18)(bq:∀n,two (aU D i j)=J n->n<10^(j-i)->R (bA #[ah (n:Int),cR]) h)
  (bw:two (aU D i j)=ab->∀e h',aB h h'->e2 h' b (U D) C e->R (bA #[ah 0,e]) h'):bo 141 [v] h R:=by
 apply akT;obtain⟨e,rfl,aa,ad,an,aT,e0,hlen⟩:=aD.fL aM;refine aR ?_;refine jn (λm u w h'=>∃x k:Nat,u=ah x/\w=ah k/\k<=j-i/\x<10^k/\twoLoop x (ax k (aU D i j))=two (aU D i j)/\h'=h/\m=j-i-k) _ ⟨0,0,rfl,rfl,I,aE,rfl,rfl,rfl⟩ ?_;rintro m d u w h' N ⟨x,k,rfl,rfl,aq,ae,af,rfl,rfl⟩ a7;have ava:k<j-i->x<100000000000000000:=λa=>cP ae (l4 (n:=10) aE (I:k<=17));have jV:=hi (i:=i) aC;rw[<-af] at bq bw;refine bG (dI aM aa) ?_;refine⟨λa'=>WY ?_,λeg=>?_⟩
 .have aL:=VR (v:=x) (l:=aU D i j) (i:=k) I;rw[gY I aC] at aL;have g9:=ava I;have s7:=dZ D (i+k);cases aG:cT (g D (i+k)) with
  |false=>
   have nG:¬(48<=g D (i+k)/\g D (i+k)<=57):=of_decide_eq_false aG;rw[aL,aA I] at bw;refine aR ?_;exact gU (i:=i+k) (j:=i+k+1) (N:=U D) ck I λw ad ar er=>bw rfl _ _ ar er
  |true=>
   have gI:48<=g D (i+k)/\g D (i+k)<=57:=KH aG;rw[ak I] at aL;refine bG @Bm ?_;exact a7 _ _ _ _ I ⟨x*10+(g D (i+k)-48),k+1,rfl,rfl,I,I,al,rfl,rfl⟩
 .have he:ax k (aU D i j)=[]:=iu I;have ti:k=j-i:=I
  rw[he,twoLoop] at bq;grind
def aiI(bq:zx y->R (aQ ai) h)(bw:¬zx y->R (aQ av) h):bo 169 [ah (y:Int)] h R:=by
 apply alm;unfold zx at bq bw;refine aR ?_;grind
def aiv(q:R (ah (s3 y m:Int)) h):bo 142 [ah (m:Int),ah (y:Int)] h R:=by
 apply akU;unfold s3 ET at q;have mL:m=2/\zx y->R (ah 29) h:=λa=>al
 have jH:m=2->¬zx y->R (ah 28) h:=λa bM=>al
 have v30:(m=4\/m=6\/m=9\/m=11)->R (ah 30) h:=λa=>al
 have j2:¬m=2->¬(m=4\/m=6\/m=9\/m=11)->R (ah 31) h:=λa bM=>al
 refine aR ?_;refine⟨λad=>aiI (λau=>?_) λau=>?_,λad=>?_⟩
 .refine aR ?_;grind
 .refine aR ?_;grind
 grind
def WS(aM:db h b D C)(aD:bp b i j C v)(aC:j<=D.length)(bq:∀y m d h',ldate D i j=J (y,m,d)->aB h h'->R (.tuple #[.agg #[.i (y:Int),.i (m:Int),.i (d:Int)],.nilIface]) h')
  (bw:ldate D i j=ab->∀x e h',kr 3 x->aB h h'->e2 h' b D.length C e->R (.tuple #[x,e]) h'):bo 119 [v] h R:=by
 apply akw;obtain⟨e,rfl,aa,ad,an,aT⟩:=aD;have e0:=aM.mH;have hlen:=aM.len;refine bG @tS ?_;have bP:∀c1 c2:Array ao,aB h ((h.push (.cells c1 93)).push (.cells c2 93)):=λc1 c2=>(aB.push _ _).trans (aB.push _ _);have l9:∀c1 c2:Array ao,db ((h.push (.cells c1 93)).push (.cells c2 93)) b D C:=λc1 c2=>aM.ext (bP c1 c2);have cg:∀(c1 c2:Array ao) (h':H),aB ((h.push (.cells c1 93)).push (.cells c2 93)) h'->h'[h.size]?=J (.cells c1 93):=λc1 c2 h' e=>by rw[e.2 _ (by simp;omega),rU]
 have cJ:∀(c1 c2:Array ao) (h':H),aB ((h.push (.cells c1 93)).push (.cells c2 93)) h'->h'[(h.push (.cells c1 93)).size]?=J (.cells c2 93):=λc1 c2 h' e=>by rw[e.2 _ a1,mK]
 have bad:ldate D i j=ab->∀(c1 c2:Array ao),c1.size=3->c2.size=3->ones c2.toList=ai->∀i j u,bp b i j C u->j<=D.length->∀(s:B) (x:ao),∀(aL:s.length<=1000:=by first|decide|assumption),vJ 51 [u,S s,x] ((h.push (.cells c1 93)).push (.cells c2 93)) λiq kV=>
   bZ 3 (aN h.size) (.agg c2) kV λ_ kW=>cO 3 (aN h.size) kW λiY _=>R (.tuple #[iY,iq]) kW:=λa c1 c2 s1 s2 o2 i j u hu aC s x aL=>
  gU (dR:=cP aM.lt (bP c1 c2).1) hu aC λe h' aw er=>⟨aw,E3 (n:=2) (k:=λv h=>R (.tuple #[v,e]) h) er ((bP c1 c2).trans aw) (cg c1 c2 h' aw) (bQ _) aE s1 s2 o2 λx cN bH ar pA=>bw a x e cN bH ar pA⟩
 have kU:ldate D i j=ab->∀(c1 c2:Array ao) (o:Nat),c1.size=3->c2.size=3->o+1<=c2.size->ones (c2.setIfInBounds o (.i 0)).toList=ai->∀(e:ao) (h':H) (X:H->Prop),aB ((h.push (.cells c1 93)).push (.cells c2 93)) h'->e2 h' b D.length C e->
   bZ 1 (.pointer (J ⟨(h.push (.cells c1 93)).size,o,ab⟩)) (.i 0) h' λ_ y9=>Pu (beI ai e .nilIface) y9 λg2 CW=>
   b1 g2 (cO 3 (aN (h.push (.cells c1 93)).size) CW λji AN=>bZ 3 (aN h.size) ji AN λ_ AO=>cO 3 (aN h.size) AO λhS _=>R (.tuple #[hS,e]) AO) (X CW):=λa c1 c2 o s1 s2 ib o2 e h' X aw er=>
  aao (n:=2) (k:=λv h=>R (.tuple #[v,e]) h) er ((bP c1 c2).trans aw) (cg c1 c2 h' aw) (cJ c1 c2 h' aw) (bQ _) a1 a1 aE aE s1 s2 ib rfl rfl o2 λx cN bH ar pA=>bw a x e cN bH ar pA
 have mF:=bw;clear bw;(simp-implicitDefEqProofs+contextual (disch:=(first|omega|with_unfolding_all exact id rfl|with_unfolding_all exact id (lK rfl))) only[go_sem,tS,jK,qH (l9 _ _) aa];try refine c8 ?_)
 refine⟨λau=>bad (by unfold ldate;rw[ak I]) _ _ rfl rfl rfl i j _ (bp.of I I ⟨I,I,I,I⟩) aC _ _,λau=>⟨λaT=>bad (by unfold ldate;rw[ak I]) _ _ rfl rfl rfl i j _ (bp.of I I ⟨I,I,I,I⟩) aC _ _,λaT=>⟨λde=>bad (by unfold ldate;rw[ak I]) _ _ rfl rfl rfl i j _ (bp.of I I ⟨I,I,I,I⟩) aC _ _,λde=>?_⟩⟩⟩;have asW:j=i+10/\g D (i+4)=45/\g D (i+7)=45:=I
 have sv:ldate D i j=(match two (aU D i (i+4)),two (aU D (i+5) (i+7)),two (aU D (i+8) (i+10)) with|J y,J m,J d=>if 1<=m/\m<=12/\1<=d/\d<=s3 y m then J (y,m,d) else ab|_,_,_=>ab):=by unfold ldate;rw[aA asW]
 clear mF;refine uI @q_ ?_;refine z4 (i:=i) (j:=i+4) (l9 _ _) (bp.of I I ⟨by (try unfold cX);grind,I,I,by (try unfold cX);grind⟩) I I (λy a2 x7=>?_) λaI e h' aw er=>?_;rotate_left
 .rw[aI] at sv;refine uI @tS ?_;exact kU sv _ _ 0 rfl rfl aE rfl e h' _ aw er
 refine Gw @q_ @tS @tQ ?_;refine z4 (i:=i+5) (j:=i+7) (l9 _ _) (bp.of I I ⟨by (try unfold cX);grind,I,I,by (try unfold cX);grind⟩) I I (λm hm A6=>?_) λaI e h' aw er=>?_;rotate_left
 .rw[a2,aI] at sv;refine uI @tS ?_;exact kU sv _ _ 1 rfl rfl a1 rfl e h' _ aw er
 refine Gw @q_ @tS @tQ ?_;refine z4 (i:=i+8) (j:=i+10) (l9 _ _) (bp.of I I ⟨by (try unfold cX);grind,I,I,by (try unfold cX);grind⟩) I I (λd aG gn=>?_) λaI e h' aw er=>?_;rotate_left
 .rw[a2,hm,aI] at sv;refine uI @tS ?_;exact kU sv _ _ 2 rfl rfl a1 rfl e h' _ aw er
 rw[a2,hm,aG] at sv;simp only at sv;rw[show i+4-i=4 by omega] at x7;rw[show i+7-(i+5)=2 by omega] at A6;rw[show i+10-(i+8)=2 by omega] at gn;refine Wa @q_ @tS @tQ @jK @jK @jK ?_;refine⟨λC6=>bad al _ _ rfl rfl rfl (i+5) (i+7) _ (bp.of I I ⟨by (try unfold cX);grind,I,I,by (try unfold cX);grind⟩) I _ _,λC6=>⟨λwz=>bad al _ _ rfl rfl rfl (i+5) (i+7) _ (bp.of I I ⟨by (try unfold cX);grind,I,I,by (try unfold cX);grind⟩) I _ _,λwz=>aiv ?_⟩⟩;refine Wa @q_ @tS @tQ @jK @anr @anQ ?_;refine⟨λvh=>bad al _ _ rfl rfl rfl (i+8) (i+10) _ (bp.of I I ⟨by (try unfold cX);grind,I,I,by (try unfold cX);grind⟩) I _ _,λvh=>⟨λh9=>bad al _ _ rfl rfl rfl (i+8) (i+10) _ (bp.of I I ⟨by (try unfold cX);grind,I,I,by (try unfold cX);grind⟩) I _ _,λh9=>?_⟩⟩;grind
end
def jo(D:B)(i j:Nat):Nat:=if h:i<j/\cT (g D i)=ai then jo D (i+1) j+1 else 0
termination_by j-i
def Zs:∀{i:Nat},jo D i j<=j-i:=λ{i}=>by
 induction hm:j-i using Nat.strongRecOn generalizing i with
 |ind m bR=>
  rw[jo];grind
def LC(h:¬(i<j/\cT (g D i)=ai)):jo D i j=0:=by rw[jo,e8 h]
def Qx(h:i<j)(ad:cT (g D i)=ai):jo D i j=jo D (i+1) j+1:=by rw[jo,gw ⟨h,ad⟩]
structure og where
 h:Nat
 m:Nat
 s:Nat
 n:Nat
 p:Nat
def tfrac(D:B)(a b c k j:Nat):Option (og×Nat):=if k<j/\g D k=46 then
  (if jo D (k+1) j=0 then ab else match two (aU D (k+1) (k+1+min (jo D (k+1) j) 9)) with
   |some f=>J (⟨a,b,c,f*10^(9-min (jo D (k+1) j) 9),min (jo D (k+1) j) 9⟩,k+1+jo D (k+1) j)
   |none=>ab)
 else J (⟨a,b,c,0,0⟩,k)
def Gk(D:B)(a b i j:Nat):Option (og×Nat):=if i+5<j/\g D (i+5)=58 then
  (if j<i+8 then ab else match two (aU D (i+6) (i+8)) with
   |some c=>if 59<c then ab else tfrac D a b c (i+8) j
   |none=>ab)
 else J (⟨a,b,0,0,0⟩,i+5)
def ltime(D:B)(i j:Nat):Option (og×Nat):=if j<i+5 then ab else match two (aU D i (i+2)) with
 |none=>ab
 |some a=>if 23<a then ab else if g D (i+2)≠58 then ab else match two (aU D (i+3) (i+5)) with
  |none=>ab
  |some b=>if 59<b then ab else Gk D a b i j
def w4(t:og):List ao:=[ah t.h,ah t.m,ah t.s,ah t.n,ah t.p]
def Es(b7:Nat->ao->ao->ao->ao->H->Prop)(m:Nat)(aW:b7 m v u t r h)(aL:∀m d v u t r h (N:ao->ao->ao->ao->H->Prop),b7 m v u t r h->(∀ez v u t r h,ez<m->b7 ez v u t r h->N v u t r h)->b N d v u t r h):iL 4 [v,u,t,r] h b:=
 ⟨b7,⟨m,aW⟩,λm d v u t r h az=>aL m d v u t r h _ az λez _ _ _ _ _ hm h=>⟨ez,hm,h⟩⟩
def anj(Q:ao->ao->ao->H->Prop)(aa:∀N:ao->ao->ao->H->Prop,(∀v w u h,Q v w u h->N v w u h)->X N)(ad:∀v w u h,Q v w u h->k v w u h):fD 3 X (λ_=>k):=⟨Q,λ_ _ _ _ _ h=>ad _ _ _ _ h,aa Q λ_ _ _ _ h=>h⟩
def agV{c:UInt8}:∀{l:B} {v:Nat},twoLoop v (l++[c])=match twoLoop v l with|some m=>(if c.toNat<48\/57<c.toNat then ab else J (m*10+(c.toNat-48)))|none=>ab
 |[],v=>by rw[sS,twoLoop,twoLoop,twoLoop]
 |d::l,v=>by
  rw[uM,twoLoop,twoLoop,agV];by_cases aG:d.toNat<48\/57<d.toNat
  .rw[aA aG,aA aG]
  .rw[ak aG,ak aG]
def az8(az:i<=t)(aP:t<U D)(bj:two (aU D i t)=J f)(aG:48<=g D t/\g D t<=57):two (aU D i (t+1))=J (f*10+(g D t-48)):=by
 have:aU D i (t+1)=aU D i t++[D[t]]:=by
  unfold aU;rw[Ws,h5 aP];grind
 rw[this,two,agV];rw[two] at bj;rw[bj];have aX:D[t].toNat=g D t:=(fu aP).symm;simp only;rw[aX,ak I]
def ayg(aa:f<10^p)(ad:p<=9):f*10^(9-p)<1000000000:=by
 have e:10^p*10^(9-p)=1000000000:=by rw[<-fw,(I:p+(9-p)=9)]
 calc f*10^(9-p)<10^p*10^(9-p):=vH aa (ob aE)
  _=_:=e
def awO{a n:Nat}(h:a*n<9223372036854775808):bn .mul (ah (a:Int)) (ah (n:Int))=J (ah ((a*n:Nat):Int)):=by
 have:=Bm (a:=a) (n:=n) h;exact this
section
variable{h:H}{R k:K}{b C i j i0 N r n c:Nat}{v p u fn b_ cp dst:ao}{D s kw:B}{ro:Option Nat}
def EC:Z 95=[ah 0,ah 0,ah 0,ah 0,ah 0]:=b4
def an4:Z 226=[ah 0,ah 0,ah 0,ah 0,ah 0,ah 0,ah 0,ah 0,ah 0,ah 0]:=b4
def yc:List ao:=[ah 0,ah 100000000,ah 10000000,ah 1000000,ah 100000,ah 10000,ah 1000,ah 100,ah 10,ah 1]
def ahX:Bd (Z 226) [(0,1,(ah 0)),(1,1,(ah 100000000)),(2,1,(ah 10000000)),(3,1,(ah 1000000)),(4,1,(ah 100000)),(5,1,(ah 10000)),(6,1,(ah 1000)),(7,1,(ah 100)),(8,1,(ah 10)),(9,1,(ah 1))] h k=k (cA (aZ yc)) h:=by rw[an4];rfl
def axj{p:Nat}(aa:1<=p)(ad:p<=9):yc[p]?=J (ah ((10^(9-p):Nat):Int)):=by
 match p,aa,ad with
 |1,_,_=>rfl
 |2,_,_=>rfl
 |3,_,_=>rfl
 |4,_,_=>rfl
 |5,_,_=>rfl
 |6,_,_=>rfl
 |7,_,_=>rfl
 |8,_,_=>rfl
 |9,_,_=>rfl
theorem WT(aM:db h b D C)(aD:bp b i j C v)(aC:j<=D.length)(bq:∀t k x h',ltime D i j=some (t,k)->i<=k->k<=j->aB h h'->bp b k j C x->R (.tuple #[.agg (w4 t).toArray,x,.nilIface]) h')
  (bw:ltime D i j=none->∀x e h',kr 5 x->aB h h'->e2 h' b D.length C e->R (.tuple #[x,.slice none 0 0,e]) h'):bo 120 [v] h R:=by
 apply aky;obtain⟨e,rfl,aa,ad,an,aT⟩:=aD;have e0:=aM.mH;have hlen:=aM.len;refine DY @ahX @EC @h7 ?_;have yY:aB h ((h.push (.cells #[.i 0,.i 0,.i 0,.i 0,.i 0] 95)).push (.cells yc.toArray 226)):=(aB.push _ _).trans (aB.push _ _);have dz:((h.push (.cells #[.i 0,.i 0,.i 0,.i 0,.i 0] 95)).push (.cells yc.toArray 226))[h.size]?=some (.cells #[.i 0,.i 0,.i 0,.i 0,.i 0] 95):=rU;have eH:((h.push (.cells #[.i 0,.i 0,.i 0,.i 0,.i 0] 95)).push (.cells yc.toArray 226))[(h.push (.cells #[.i 0,.i 0,.i 0,.i 0,.i 0] 95)).size]?=some (.cells yc.toArray 226):=mK;have dE:h.size<((h.push (.cells #[.i 0,.i 0,.i 0,.i 0,.i 0] 95)).push (.cells yc.toArray 226)).size:=by simp;omega
 have mD:(h.push (.cells #[.i 0,.i 0,.i 0,.i 0,.i 0] 95)).size<((h.push (.cells #[.i 0,.i 0,.i 0,.i 0,.i 0] 95)).push (.cells yc.toArray 226)).size:=a1
 simp only[EC];revert yY dz eH dE mD;generalize ((h.push (.cells #[.i 0,.i 0,.i 0,.i 0,.i 0] 95)).push (.cells yc.toArray 226))=ct;generalize (h.push (.cells #[.i 0,.i 0,.i 0,.i 0,.i 0] 95)).size=o5;intro yY dz eH dE mD;have bP:∀c2:Array Value,aB h (ct.push (.cells c2 95)):=λc2=>yY.trans (aB.push _ _);have l9:∀c2:Array Value,db (ct.push (.cells c2 95)) b D C:=λc2=>aM.ext (bP c2);have cg:∀(c2:Array Value) (h':H),aB (ct.push (.cells c2 95)) h'->h'[h.size]?=some (.cells #[.i 0,.i 0,.i 0,.i 0,.i 0] 95):=λc2 h' e=>by rw[e.2 _ (by simp;omega),aBE,ak I,dz]
 have cJ:∀(c2:Array Value) (h':H),aB (ct.push (.cells c2 95)) h'->h'[ct.size]?=some (.cells c2 95):=λc2 h' e=>by rw[e.2 _ a1,mK]
 have bad:ltime D i j=none->∀(c2:Array Value),c2.size=5->ones c2.toList=true->∀i j u,bp b i j C u->j<=D.length->∀(s:B) (x:Value),∀(aL:s.length<=1000:=by first|decide|assumption),vJ 51 [u,S s,x] (ct.push (.cells c2 95)) λiq kV=>
   bZ 5 (aN h.size) (.agg c2) kV λ_ kW=>cO 5 (aN h.size) kW λiY _=>R (.tuple #[iY,.slice none 0 0,iq]) kW:=λa c2 s2 o2 i j u hu aC s x aL=>
  gU (dR:=cP aM.lt (bP c2).1) hu aC λe h' aw er=>⟨aw,E3 (n:=4) (k:=λv h=>R (.tuple #[v,.slice none 0 0,e]) h) er ((bP c2).trans aw) (cg c2 h' aw) (bQ _) aE rfl s2 o2 λx cN bH ar pA=>bw a x e cN bH ar pA⟩
 have kU:ltime D i j=none->∀(c2:Array Value) (o:Nat),c2.size=5->o+1<=c2.size->ones (c2.setIfInBounds o (.i 0)).toList=true->∀(e:Value) (h':H) (X:H->Prop),aB (ct.push (.cells c2 95)) h'->e2 h' b D.length C e->
   bZ 1 (.pointer (some ⟨ct.size,o,none⟩)) (.i 0) h' λ_ y9=>Pu (beI true e .nilIface) y9 λg2 CW=>
   b1 g2 (cO 5 (aN ct.size) CW λji AN=>bZ 5 (aN h.size) ji AN λ_ AO=>cO 5 (aN h.size) AO λhS _=>R (.tuple #[hS,.slice none 0 0,e]) AO) (X CW):=λa c2 o s2 ib o2 e h' X aw er=>
  aao (n:=4) (k:=λv h=>R (.tuple #[v,.slice none 0 0,e]) h) er ((bP c2).trans aw) (cg c2 h' aw) (cJ c2 h' aw) (bQ _) I I aE aE rfl s2 ib rfl rfl o2 λx cN bH ar pA=>bw a x e cN bH ar pA
 have done:∀(t:og) (k:Nat) (x:Value),ltime D i j=some (t,k)->i<=k->k<=j->bp b k j C x->bZ 5 (aN h.size) (.agg (w4 t).toArray) (ct.push (.cells (w4 t).toArray 95)) λ_ kW=>cO 5 (aN h.size) kW λiY _=>R (.tuple #[iY,x,.nilIface]) kW:=λt k x a bx bH ae=>
  s0 (n:=4) (k:=λh v _=>R (.tuple #[v,x,.nilIface]) h) (cg _ _ (aB.refl _)) rfl rfl rfl λh' aw=>bq t k x h' a bx bH (bV.fe (bP _) aw λr aF=>al) ae
 clear bq bw;refine uI @jK ?_;refine⟨λau=>bad (by unfold ltime;rw[aA I]) _ rfl rfl i j _ (bp.of I I ⟨I,I,I,I⟩) aC _ _,λau=>?_⟩;have a':ltime D i j=(match two (aU D i (i+2)) with|none=>none|some a=>if 23<a then none else if g D (i+2)≠58 then none else match two (aU D (i+3) (i+5)) with|none=>none|some b=>if 59<b then none else Gk D a b i j):=by
  unfold ltime;rw[ak I]
 refine uI @q_ ?_;refine z4 (i:=i) (j:=i+2) (l9 _) (bp.of I I ⟨by (try unfold cX);grind,I,I,by (try unfold cX);grind⟩) I I (λa bE jS=>?_) λaI e h' aw er=>?_;rotate_left
 .rw[aI] at a';refine ys ?_;exact kU a' _ 0 rfl aE rfl e h' _ aw er
 rw[bE] at a';simp only at a';rw[show i+2-i=2 by omega] at jS;(simp-implicitDefEqProofs+contextual (disch:=(first|omega|with_unfolding_all exact id rfl|with_unfolding_all exact id (lK rfl))) only[go_sem,q_,tQ,jK,qH (l9 _) aa];try refine c8 ?_)
 refine⟨λAJ=>bad al _ rfl rfl i (i+2) _ (bp.of I I ⟨by (try unfold cX);grind,I,I,by (try unfold cX);grind⟩) I _ _,λAJ=>⟨λs8=>bad al _ rfl rfl (i+2) (i+3) _ (bp.of I I ⟨by (try unfold cX);grind,I,I,by (try unfold cX);grind⟩) I _ _,λs8=>?_⟩⟩;rw[ak AJ,ak s8] at a';refine z4 (i:=i+3) (j:=i+5) (l9 _) (bp.of I I ⟨by (try unfold cX);grind,I,I,by (try unfold cX);grind⟩) I I (λm hm A6=>?_) λaI e h' aw er=>?_;rotate_left
 .rw[aI] at a';refine ys ?_;exact kU a' _ 1 rfl a1 rfl e h' _ aw er
 rw[hm] at a';simp only at a';rw[show i+5-(i+3)=2 by omega] at A6;(simp-implicitDefEqProofs+contextual (disch:=(first|omega|with_unfolding_all exact id rfl|with_unfolding_all exact id (lK rfl))) only[go_sem,q_,tQ,jK,qH (l9 _) aa];try refine c8 ?_)
 refine⟨λxK=>bad al _ rfl rfl (i+3) (i+5) _ (bp.of I I ⟨by (try unfold cX);grind,I,I,by (try unfold cX);grind⟩) I _ _,λxK=>?_⟩;rw[ak xK] at a';clear bE hm s8;have H9:i+5<C->cX (C-i) 5 e=i+5:=λa=>by unfold cX;grind
 have Fi:cX (C-i) 5 e<=C:=by unfold cX;grind
 have afn:cX (C-i) 5 e=cX (C-i) 5 e:=rfl;generalize cX (C-i) 5 e=dt at H9 Fi afn⊢;clear afn;refine rv (λu w h'=>∃(c k:Nat) (sp:Bool),bp b k j C u/\w=.bool sp/\h'=ct.push (.cells #[.i (a:Int),.i (m:Int),.i (c:Int),.i 0,.i 0] 95)/\i+5<=k/\ltime D i j=if sp=true then tfrac D a m c k j else some (⟨a,m,c,0,0⟩,k)) (λM cM=>?_) ?_
 .unfold Gk at a';have no:¬(i+5<j/\g D (i+5)=58)->M (.slice (some ⟨b,dt,none⟩) (j-i-5) (C-i-5)) (.bool false) (ct.push (.cells #[.i (a:Int),.i (m:Int),.i 0,.i 0,.i 0] 95)):=λaI=>by
   rw[ak aI] at a';exact cM _ _ _ ⟨0,i+5,false,bp.of I I ⟨H9,I,I,Fi⟩,rfl,rfl,bQ _,al⟩
  (simp-implicitDefEqProofs+contextual (disch:=(first|omega|with_unfolding_all exact id rfl|with_unfolding_all exact id (lK rfl))) only[go_sem,tQ,jK,qH (l9 _) H9,vN (l9 _) H9];try refine c8 ?_)
  refine⟨λmY=>⟨λs8=>⟨λatB=>?_,λatB=>?_⟩,λs8=>no (λx=>s8 x.2)⟩,λmY=>no I⟩
  .rw[aA I,aA I] at a';exact bad a' _ rfl rfl (i+5) j _ (bp.of I I ⟨H9,I,I,Fi⟩) aC _ _
  .rw[aA I,ak I] at a';refine uI @q_ ?_;refine z4 (i:=i+6) (j:=i+8) (l9 _) (bp.of I I ⟨by (try unfold cX);grind,I,I,by (try unfold cX);grind⟩) I I (λc ay eS=>?_) λaI e h' aw er=>?_;rotate_left
   .rw[aI] at a';refine ys ?_;exact kU a' _ 2 rfl a1 rfl e h' _ aw er
   rw[ay] at a';simp only at a';rw[show i+8-(i+6)=2 by omega] at eS;refine Gw @q_ @tQ @jK ?_;refine⟨λxK=>bad al _ rfl rfl (i+6) (i+8) _ (bp.of I I ⟨by (try unfold cX);grind,I,I,by (try unfold cX);grind⟩) I _ _,λxK=>?_⟩;rw[ak xK] at a';exact cM _ _ _ ⟨c,i+8,true,(bp.of I I ⟨by (try unfold cX);grind,I,I,by (try unfold cX);grind⟩),rfl,rfl,I,al⟩
 rintro u w bO ⟨c,k,sp,hu,rfl,rfl,ato,dn⟩;clear a';have Tq:=hu;obtain⟨s4,rfl,cZ,cj,eI,jB⟩:=hu;have HF:¬(sp=true/\k<j/\g D k=46)->bZ 5 (aN h.size) (.agg #[.i (a:Int),.i (m:Int),.i (c:Int),.i 0,.i 0]) (ct.push (.cells #[.i (a:Int),.i (m:Int),.i (c:Int),.i 0,.i 0] 95)) λ_ kW=>cO 5 (aN h.size) kW λiY _=>R (.tuple #[iY,.slice (some ⟨b,s4,none⟩) (j-k) (C-k),.nilIface]) kW:=λaI=>by
  refine done ⟨a,m,c,0,0⟩ k _ ?_ I cj Tq;rw[dn];cases sp with
  |false=>rfl
  |true=>rw[aA rfl,tfrac,ak (λx=>aI ⟨rfl,x⟩)]
 cases sp with
 |false=>
  have:=HF a1;refine uI @jK ?_;exact this
 |true=>
  rw[aA rfl] at dn;(simp-implicitDefEqProofs+contextual (disch:=(first|omega|with_unfolding_all exact id rfl|with_unfolding_all exact id (lK rfl))) only[go_sem,jK,qH (l9 _) cZ,vN (l9 _) cZ];try refine c8 ?_)
  refine⟨λfg=>⟨λmV=>?_,λmV=>HF (λx=>mV x.2.2)⟩,λfg=>HF (λx=>I)⟩;clear HF;unfold tfrac at dn;rw[aA I] at dn;have eS:=Zs (D:=D) (i:=k+1) (j:=j);refine anj (λu w x h'=>∃f n:Nat,n=jo D (k+1) j/\two (aU D (k+1) (k+1+min n 9))=some f/\f<10^(min n 9)/\u=.i (f:Int)/\w=.i ((min n 9:Nat):Int)/\x=.i (n:Int)/\h'=ct.push (.cells #[.i (a:Int),.i (m:Int),.i (c:Int),.i 0,.i 0] 95)) (λM cM=>?_) ?_
  .refine ys ?_;have hW:k+1<C->cX (C-k) 1 s4=k+1:=λa=>by unfold cX;grind
   have gH:cX (C-k) 1 s4<=C:=by unfold cX;grind
   have cc:cX (C-k) 1 s4=cX (C-k) 1 s4:=rfl;generalize cX (C-k) 1 s4=aw at hW gH cc⊢;clear cc;refine Es (λdW u w x y h'=>∃f t:Nat,t<=j-(k+1)/\jo D (k+1) j=t+jo D (k+1+t) j/\two (aU D (k+1) (k+1+min t 9))=some f/\f<10^(min t 9)/\u=.i (f:Int)/\w=.i ((min t 9:Nat):Int)/\x=.i (t:Int)/\y=.i (t:Int)/\h'=ct.push (.cells #[.i (a:Int),.i (m:Int),.i (c:Int),.i 0,.i 0] 95)/\dW=j-(k+1)-t) (j-(k+1)) ⟨0,0,I,a1,by rw[show min 0 9=0 from rfl,nm,aU,iu (by simp;omega)];rfl,aE,rfl,rfl,rfl,rfl,rfl,I⟩ ?_;rintro dW v5 u w x y h' N ⟨f,t,aP,ML,bj,xS,rfl,rfl,rfl,rfl,rfl,rfl⟩ a7;have Fy:min t 9<=9:=aBY _ _;have stop:¬(k+1+t<j/\cT (g D (k+1+t))=true)->M (.i (f:Int)) (.i ((min t 9:Nat):Int)) (.i (t:Int)) (ct.push (.cells #[.i (a:Int),.i (m:Int),.i (c:Int),.i 0,.i 0] 95)):=λaI=>by
    rw[LC aI,nm] at ML;grind
   have C2:f<10^9:=cP xS (l4 aE Fy);have aoA:¬(k+1+t<j/\cT (g D (k+1+t))=true)->t=0->ltime D i j=none:=λaI aW=>by
    rw[LC aI,aW] at ML;grind
   have go:k+1+t<j->cT (g D (k+1+t))=true->two (aU D (k+1) (k+1+min (t+1) 9))=(if t<9 then some (f*10+(g D (k+1+t)-48)) else some f):=λau aG=>by
    have gI:48<=g D (k+1+t)/\g D (k+1+t)<=57:=KH aG;split
    .rw[show min (t+1) 9=t+1 by omega];rw[show min t 9=t by omega] at bj;exact az8 (i:=k+1) (t:=k+1+t) I I bj gI
    grind
   have s7:=dZ D (k+1+t);(simp-implicitDefEqProofs+contextual (disch:=(first|omega|with_unfolding_all exact id rfl|with_unfolding_all exact id (lK rfl))) only[go_sem,qH (l9 _) hW];try refine c8 ?_)
   refine⟨λa'=>WY ?_,λeg=>?_⟩
   .cases aG:cT (g D (k+1+t)) with
    |false=>
     have fy:¬(k+1+t<j/\cT (g D (k+1+t))=true):=λa=>Bool.noConfusion (aG.symm.trans a.2);refine ys ?_;refine⟨λaW=>?_,λ_=>stop fy⟩;refine aha @jK @q_ ?_;exact bad (aoA fy aW) _ rfl rfl k (k+1) _ (bp.of I I ⟨by (try unfold cX);grind,I,I,by (try unfold cX);grind⟩) I _ _
    |true=>
     have gI:48<=g D (k+1+t)/\g D (k+1+t)<=57:=KH aG;have aX:=go I aG;have eC:=Qx (D:=D) (i:=k+1+t) (j:=j) I aG;have aS:k+1+(t+1)=k+1+t+1:=rfl;refine uI @Bm ?_;refine⟨λgg=>a7 _ _ _ _ _ _ I ⟨f*10+(g D (k+1+t)-48),t+1,I,al,al,?_,rfl,?_,rfl,rfl,rfl,rfl⟩,λgg=>a7 _ _ _ _ _ _ I ⟨f,t+1,I,al,al,?_,rfl,?_,rfl,rfl,rfl,rfl⟩⟩
     .rw[show min t 9=t by omega] at xS;rw[show min (t+1) 9=t+1 by omega,ph];omega
     .grind
     .grind
     grind
   grind
  rintro u w x bO ⟨f,n,aI,bj,xS,rfl,rfl,rfl,rfl⟩;have Fy:min n 9<=9:=aBY _ _;rw[<-aI] at dn eS;refine ys ?_;refine⟨λaW=>?_,λaW=>?_⟩
  .refine aha @jK @q_ ?_;exact bad al _ rfl rfl k (k+1) _ (bp.of I I ⟨by (try unfold cX);grind,I,I,by (try unfold cX);grind⟩) I _ _
  .rw[ak aW,bj] at dn;simp only at dn;have aEU:=ayg xS Fy;have C8:=axj (p:=min n 9) I Fy;generalize S5:min n 9=DA at*;have az:iar 10 1 (aN o5) (.i (DA:Int))=some (.pointer (some ⟨o5,DA,none⟩)):=by
    have:=avx (k:=.i64) (n:=10) (sz:=1) (i:=DA) (b:=o5) (o:=0) I;rw[tM,nn] at this;exact this
   have hD:∀(x:Obj) (k:Value->H->Prop),cd (.pointer (some ⟨o5,DA,none⟩)) (ct.push x) k=k (.i ((10^(9-DA):Nat):Int)) (ct.push x):=λx k=>by
    rw[fs (show(ct.push x)[o5]?=some (.cells yc.toArray 226) by grind),O0,C8];rfl
   have bE:bn .add (.i 1) (.i (n:Int))=some (.i ((1+n:Nat):Int)):=qL (a:=1) I;refine Wa az hD @awO @tQ @jK bE ?_;refine done ⟨a,m,c,f*10^(9-DA),DA⟩ (k+1+n) _ dn I I (bp.of I I ⟨by (try unfold cX);grind,I,I,by (try unfold cX);grind⟩)
end
def sh(h g:H)(eb gS t:Nat)(c1 c2:Array ao):Prop:=aB h g/\ag h<=eb/\ag h<=gS/\eb≠gS/\g[eb]?=J (aO c1 t)/\g[gS]?=J (aO c2 t)
def ldt(D:B)(i j:Nat):Option ((Nat×Nat×Nat)×og×Nat):=if j<i+11 then ab else match ldate D i (i+10) with
 |none=>ab
 |some d=>if g D (i+10)=84\/g D (i+10)=32\/g D (i+10)=116 then(match ltime D (i+11) j with
  |none=>ab
  |J (t,k)=>J (d,t,k)) else ab
def t_(d:Nat×Nat×Nat)(t:og):List ao:=ah d.1:: ah d.2.1:: ah d.2.2::w4 t
section
variable{h g g':H}{R k:K}{b C i j i0 N r n c eb gS t o:Nat}{v p u fn b_ cp dst:ao}{D s kw:B}{ro:Option Nat}{c1 c2 cs:Array ao}
def sh.grow(T:sh h g eb gS t c1 c2)(e:aB g g'):sh h g' eb gS t c1 c2:=by
 obtain⟨bx,bH,cq,dT,e3,hJ⟩:=T;exact⟨bx.trans e,bH,cq,dT,by rw[e.2 _ (cm.1 e3).1,e3],by rw[e.2 _ (cm.1 hJ).1,hJ]⟩
def sh.new:sh h (a6 (a6 h (aO c1 t)) (aO c2 t)) (ag h) (ag (a6 h (aO c1 t))) t c1 c2:=
 ⟨(aB.push _ _).trans (aB.push _ _),bQ _,a1,a1,rU,mK⟩
def sh.st(T:sh h g eb gS t c1 c2)(eC:ag cs=n)(aH:ones (bC cs)=ai)(aL:o+n<=ag c2)(q:∀g',sh h g' eb gS t c1 (ht c2 o (bC cs))->k undef g'):bZ n (bU (J ⟨gS,o,ab⟩)) (cA cs) g k:=by
 obtain⟨bx,bH,cq,dT,e3,hJ⟩:=T;exact G9 hJ eC aH aL λan aw af=>q an ⟨bV.fe bx aw λr aF=>al,bH,cq,dT,by rw[aw.2 eb (cm.1 e3).1 (λe=>dT (en e)),e3],af⟩
def sh.err(T:sh h g eb gS t c1 c2)(aP:t≠124)(iD:ag c1=n+1)(gQ:ag c2=n+1)(aH:ones (bC c2)=ai)(er:e2 g b N C v)(q:∀x h',kr (n+1) x->aB h h'->e2 h' b N C v->k x h'):
  cO (n+1) (aN gS) g λx h=>bZ (n+1) (aN eb) x h λ_ h=>cO (n+1) (aN eb) h λv _=>k v h:=by
 obtain⟨bx,bH,cq,dT,e3,hJ⟩:=T;rw[mS hJ gQ];exact E3 er bx e3 bH aP iD gQ aH q
def sh.bad{k:ao->ao->H->Prop}{x:ao}(T:sh h g eb gS t c1 c2)(aP:t≠124)(iD:ag c1=n+1)(gQ:ag c2=n+1)(aH:ones (bC c2)=ai)(hu:bp b i j C u)(aC:j<=N)(q:∀x e h',kr (n+1) x->aB h h'->e2 h' b N C e->k x e h')(aL:U s<=1000:=by first|decide|assumption)(dR:b<ag h:=by first|assumption|exact db.lt b8):
  vJ 51 [u,S s,x] g λv6 h=>bZ (n+1) (aN eb) (cA c2) h λ_ h=>cO (n+1) (aN eb) h λv _=>k v v6 h:=
 gU (dR:=cP dR T.1.1) hu aC λe h' aw er=>⟨aw,by
  obtain⟨bx,bH,cq,dT,e3,hJ⟩:=T.grow aw;exact E3 (k:=λv h=>k v e h) er bx e3 bH aP iD gQ aH λx h' cg cJ eP=>q x e h' cg cJ eP⟩
def sh.fin(T:sh h g eb gS t c1 c2)(iD:ag c1=n+1)(gQ:ag c2=n+1)(aH:ones (bC c2)=ai)(q:∀h',aB h h'->k (cA c2) h'):
  cO (n+1) (aN gS) g λx h=>bZ (n+1) (aN eb) x h λ_ h=>cO (n+1) (aN eb) h λv _=>k v h:=by
 obtain⟨bx,bH,cq,dT,e3,hJ⟩:=T;rw[mS hJ gQ];exact s0 (k:=λh v _=>k v h) e3 iD gQ aH λh' aw=>q h' (bV.fe bx aw λr aF=>al)
def ry:Z 97=[ah 0,ah 0,ah 0,ah 0,ah 0,ah 0,ah 0,ah 0]:=b4
theorem WR(aM:db h b D C)(aD:bp b i j C v)(aC:j<=U D)(bq:∀d t k x h',ldt D i j=J (d,t,k)->i<=k->k<=j->aB h h'->bp b k j C x->R (.tuple #[.agg (aZ (t_ d t)),x,.nilIface]) h')
  (bw:ldt D i j=ab->∀x e h',kr 8 x->aB h h'->e2 h' b (U D) C e->R (.tuple #[x,.slice ab 0 0,e]) h'):bo 118 [v] h R:=by
 apply akv;have cI:=aD;obtain⟨e,rfl,aa,ad,an,aT,e0,hlen⟩:=aD.fL aM;refine ys ?_;have qJ:=sh.new (h:=h) (c1:=aZ (Z 97)) (c2:=aZ (Z 97)) (t:=97);revert qJ;generalize (a6 (a6 h (.cells (aZ (Z 97)) 97)) (.cells (aZ (Z 97)) 97))=ct;generalize ag (a6 h (.cells (aZ (Z 97)) 97))=gS;generalize ag h=eb;intro qJ;have R1:∀{g},aB h g->db g b D C:=λbP=>aM.ext bP;have anJ:ldt D i j=ab->∀x e h',kr 8 x->aB h h'->e2 h' b (U D) C e->R (.tuple #[x,.slice ab 0 0,e]) h':=bw;refine⟨λau=>?_,λau=>?_⟩
 .rw[mS (n:=7) qJ.2.2.2.2.2 (by rw[ry];rfl)];exact qJ.bad (k:=λv e h=>R (.tuple #[v,.slice ab 0 0,e]) h) aE (by rw[ry];rfl) (by rw[ry];rfl) (by rw[ry];rfl) cI aC (bw (by unfold ldt;rw[aA I]))
 have a':ldt D i j=(match ldate D i (i+10) with|none=>ab|some d=>if g D (i+10)=84\/g D (i+10)=32\/g D (i+10)=116 then(match ltime D (i+11) j with|none=>ab|J (t,k)=>J (d,t,k)) else ab):=by unfold ldt;rw[ak I]
 change bo 119 _ _ _;refine WS (i:=i) (j:=i+10) (R1 qJ.1) ck I (λy m d h' aG aw=>?_) λaI x er h' ae aw he=>?_;rotate_left
 .rw[aI] at a';obtain⟨cs,rfl,gH,j'⟩:=ae;have c_:=(qJ.grow aw).grow (aB.push h' (.cells cs 93));refine Gw @tS @h7 (gW he) ?_;exact c_.err (k:=λv h=>R (.tuple #[v,.slice ab 0 0,er]) h) aE (by rw[ry];rfl) (by rw[ry];rfl) (by rw[ry];rfl) (he.ext (aB.push _ _)) λx h' cg cJ eP=>bw a' x er h' cg cJ eP
 rw[aG] at a';simp only at a';have c_:=(qJ.grow aw).grow (aB.push h' (.cells #[.i (y:Int),.i (m:Int),.i (d:Int)] 93));clear qJ;(simp-implicitDefEqProofs+contextual (disch:=(first|omega|with_unfolding_all exact id rfl|with_unfolding_all exact id (lK rfl))) only[go_sem,tS,h7,jK];try refine c8 ?_)
 refine c_.st rfl rfl (by rw[ry];decide) λbd kT=>?_;clear c_;rw[show ht (aZ (Z 97)) 0 (bC (#[.i (y:Int),.i (m:Int),.i (d:Int)]:Array ao))=#[.i (y:Int),.i (m:Int),.i (d:Int),.i 0,.i 0,.i 0,.i 0,.i 0] by rw[ry];rfl] at kT;have s7:=dZ D (i+10);have bad:¬(g D (i+10)=84\/g D (i+10)=32\/g D (i+10)=116)->∀s:B,∀(aL:U s<=1000:=by first|decide|assumption),cO 8 (aN gS) bd λgT h=>Pu (sl 1 (.slice (J ⟨b,e,ab⟩) (j-i) (C-i)) (J (.i 10)) (J (.i 11)) ab) h λjH h=>vJ 51 [jH,S s,.slice ab 0 0] h λmL h=>bZ 8 (aN eb) gT h λx h=>cO 8 (aN eb) h λv30 x=>R (.tuple #[v30,.slice ab 0 0,mL]) h:=λaI s aL=>by
  rw[ak aI] at a';rw[mS (n:=7) kT.2.2.2.2.2 rfl];refine uI @q_ ?_;exact kT.bad (k:=λv e h=>R (.tuple #[v,.slice ab 0 0,e]) h) (i:=i+10) (j:=i+11) aE (by rw[ry];rfl) rfl rfl ck I (bw a')
 clear anJ;refine uI (dI (R1 kT.1) aa) ?_;with_reducible repeat' first|refine⟨?_,?_⟩|intro
 rotate_right
 all_goals first|(with_reducible refine bad ?_ _;omega)|skip
 all_goals
  have Tk:g D (i+10)=84\/g D (i+10)=32\/g D (i+10)=116:=I
  rw[aA Tk] at a';change bo 120 _ _ _;refine WT (i:=i+11) (j:=j) (R1 kT.1) ck I (λt k x h' aG jb ik aw ae=>?_) λaI x er h' ae aw he=>?_;rotate_left
  .rw[aI] at a';obtain⟨cs,rfl,gH,j'⟩:=ae;have vQ:=(kT.grow aw).grow (aB.push h' (.cells cs 95));refine Gw @EC @h7 (gW he) ?_;exact vQ.err (k:=λv h=>R (.tuple #[v,.slice ab 0 0,er]) h) aE (by rw[ry];rfl) rfl rfl (he.ext (aB.push _ _)) λx h' cg cJ eP=>bw a' x er h' cg cJ eP
  .rw[aG] at a';have vQ:=(kT.grow aw).grow (aB.push h' (.cells (aZ (w4 t)) 95));refine Gw @EC @h7 @jK ?_;refine vQ.st rfl rfl (bQ 8) λfW anU=>?_;exact anU.fin (k:=λv h=>R (.tuple #[v,x,.nilIface]) h) (by rw[ry];rfl) rfl rfl λh' ar=>bq (y,m,d) t k x h' a' I ik ar ae
end
