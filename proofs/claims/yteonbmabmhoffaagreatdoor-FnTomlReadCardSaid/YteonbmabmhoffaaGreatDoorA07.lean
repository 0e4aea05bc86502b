/- A part of the proof of FnTomlReadCardSaid: for every string the law FnTomlRead returns true. Conditions: those of the given row and card, no others. -/
import Derived.Test.YteonbmabmhoffaaGreatDoorA06
open Option renaming some->J,none->ab
open Bool renaming true->ai,false->av
open Go renaming Value->ao
open Go.Obj renaming cells->aO
open Go.Value renaming bool->aQ,slice->a5,tuple->bA,pointer->bU,agg->cA,float->cU,nilIface->cR,iface->cW,string->fo
open Or renaming inl->bF,inr->bt
open Go.BinOp renaming eql->cQ,lss->fG,neq->hF,gtr->hf,geq->h0
open List renaming length->U,toArray->aZ,drop->ax,take->bf
open Array renaming size->ag,toList->bC,push->a6,setIfInBounds->dy
namespace Go.Proofs.YteonbmabmhoffaaGreatDoor.F
set_option linter.all false
set_option autoImplicit true
set_option relaxedAutoImplicit true
set_option maxRecDepth 100000
set_option maxHeartbeats 4000000
noncomputable section
def qc(l:B):Prop:=(4<U l/\g l 4=45/\(two (bf 4 l)).isSome=ai)\/(2<U l/\g l 2=58)
instance(l:B):Decidable (qc l):=by unfold qc;infer_instance
noncomputable def scalar(l:B):(Nat×Int×Nat×B)×Nat:=if qc l then(((moment l).1,0,0,(moment l).2.1),(moment l).2.2) else match integer l with
 |some n=>((1,n,0,[]),0)
 |none=>match kK l with
  | .inl b=>((2,0,b,[]),0)
  | .inr c=>((0,0,0,[]),c)
def afW(x:(Nat×Int×Nat×B)×Nat):ao:=bA #[g5 x.1.1 x.1.2.1 x.1.2.2.1 x.1.2.2.2,ah x.2]
section
variable{h:H}{R k:K}{l a:B}{b:Nat}{v:ao}
def api{X Y:H->Prop}(au:U l<=400)(aa:qc l->X h)(ad:¬qc l->Y h):Pu (q3 (S l)) h λv2 h=>Pu (bn hf v2 (ah 4)) h λdD h=>a0 dD ai (λh k=>k (S l) h) h λv4 h=>a0 dD ai (Pu (ixs v4 (ah 4))) h λfI h=>a0 dD ai (Pu (bn cQ fI (bu 45))) h λv6 h=>a0 dD ai (λh k=>k v6 h) h λhH h=>a0 hH ai (λh k=>k (S l) h) h λj4 h=>a0 hH ai (Pu (sls j4 ab (J (ah 4)))) h λj5 h=>a0 hH ai (bD 64 [j5]) h λv10 h=>a0 hH ai (Pu (bn h0 v10 (ah 0))) h λv11 h=>a0 dD ai (Pu (pk hH v11 (aQ av))) h λhv h=>Pu (pk dD hv (aQ av)) h λjG h=>
  a0 jG av (λh k=>k (S l) h) h λlG h=>a0 jG av (Pu (q3 lG)) h λjh h=>a0 jG av (Pu (bn hf jh (ah 2))) h λiq h=>a0 jG av (λh k=>k iq h) h λiY h=>a0 iY ai (λh k=>k (S l) h) h λri h=>a0 iY ai (Pu (ixs ri (ah 2))) h λh4 h=>a0 iY ai (Pu (bn cQ h4 (bu 58))) h λv20 h=>a0 jG av (Pu (pk iY v20 (aQ av))) h λgC h=>Pu (pk jG (aQ ai) gC) h λf' h=>b1 f' (X h) (Y h):=by
 have i2:2<U l->ixs (S l) (ah 2)=J (bu (g l 2:Int)):=λh=>m3 (i:=2) h;have i4:4<U l->ixs (S l) (ah 4)=J (bu (g l 4:Int)):=λh=>m3 (i:=4) h;have jf:4<=U l->sls (S l) ab (J (ah 4))=J (S (bf 4 l)):=λh=>DI (j:=4) h;have L_:bn h0 (ah (-1)) (ah 0)=J (aQ av):=rfl;unfold qc at aa ad;have cp:2<U l->g l 2=58->X h:=λa bH=>aa (bt ⟨a,bH⟩);by_cases dQ:4<U l
 .by_cases aCV:g l 4=45
  .have A5:U (bf 4 l)<=18:=by simp;omega
   refine dG i4 jf ?_;refine od A5 (λx ae _=>?_) λae=>?_
   .refine aR ?_;grind
   .refine dG L_ i2 ?_;grind
  .refine dG i4 i2 ?_;grind
 .refine bG i2 ?_;grind
def ajr(au:U l<=400)(q:∀h',aB h h'->R (afW (scalar l)) h'):bo 48 [S l] h R:=by
 apply aml;rw[gE];have bP:aB h (a6 h (.cells (aZ (Z 28)) 28)):=aB.push _ _;have kb:(a6 h (.cells (aZ (Z 28)) 28))[ag h]?=J (.cells (aZ (Z 28)) 28):=mK;generalize a6 h (.cells (aZ (Z 28)) 28)=cn at*;have gJ:ag (aZ (Z 28))=6:=by rw[j9];rfl
 have dz:ag h<=ag h:=bQ _;generalize abF:ag h=cg at kb dz;have v1:∀g,aB cn g->g[cg]?=J (.cells (aZ (Z 28)) 28):=λg e=>by rw[e.2 _ (cm.1 kb).1];exact kb
 have fin:∀(kd:Nat) (n:Int) (Cy:Nat) (s:B) (sd:Nat) g,scalar l=((kd,n,Cy,s),sd)->aB cn g->bZ 6 (aN cg) (g5 kd n Cy s) g λ_ h=>cO 6 (aN cg) h λv _=>R (.tuple #[v,.i (sd:Int)]) h:=λkd n Cy s sd g hm e=>
  HG (h:=h) (bP.trans e) (v1 g e) gJ I λg' c'=>by have:=q g' c';rw[hm] at this;exact this
 refine api au (λaG=>?_) λaG=>?_
 .refine ajz au λct aw=>?_;unfold ael;refine aR ?_;exact fin _ _ _ _ _ ct (by unfold scalar;rw[aA aG]) aw
 .refine ajA au λct aw=>?_;have tl:scalar l=(match integer l with
   |some n=>((1,n,0,[]),0)
   |none=>match kK l with
    | .inl b=>((2,0,b,[]),0)
    | .inr c=>((0,0,0,[]),c)):=by unfold scalar;rw[ak aG]
  have aFn:∀c:Array ao,ag (aZ (Z 28))=6:=λ_=>gJ;cases az:integer l with
  |some n=>
   rw[az] at tl;unfold Nr;have xe:bn .eql (.i 0) (.i 0)=J (.bool ai):=rfl;refine bG xe ?_;have:=fin 1 n 0 [] 0 (a6 ct (.cells #[.b ((1:Nat):Int),.i n,.u ((0:Nat):Int),S [],.slice ab 0 0,.slice ab 0 0] 28)) tl (aw.trans (aB.push _ _));unfold g5 at this⊢;rw[h7 (n:=6) gJ rfl rfl,jK (n:=6) rfl aE];exact this
  |none=>
   rw[az] at tl;simp only at tl;unfold Nr;have fC:bn .eql (.i 1) (.i 0)=J (.bool av):=rfl;refine bG fC ?_;unfold g5;rw[h7 (n:=6) gJ rfl rfl];refine C67 au λbd ar=>?_;have aS:=(aw.trans (aB.push ct (.cells #[.b ((0:Nat):Int),.i 0,.u ((0:Nat):Int),S [],.slice ab 0 0,.slice ab 0 0] 28))).trans ar;cases bj:kK l with
   |inl x=>
    rw[bj] at tl;unfold Ra;refine aR ?_;grind
   |inr c=>
    rw[bj] at tl;unfold Ra;refine aR ?_;grind
end
def GW(neg:Bool)(n:Nat)(e:Int)(x:Nat):Prop:=(n=0->x=pJ neg 0)/\∀w,mG (lE n e) (jZ e) w->lE n e<jZ e*2^1000->x=pJ neg w
def GW.ap0(ui:n<=2^53)(aa: -22<=e)(ad:e<=22):GW neg n e (pJ neg (sn n e)):=by
 refine⟨λaW=>by rw[aW,aqn aa ad],λw hw _=>?_⟩;rcases zZ n with aW|aW
 .exfalso;subst aW;obtain⟨s,t,cZ,_⟩:=hw;simp only[lE,pY] at cZ;omega
 .rw[adn (wY e) (wY e) rfl (aql aW ui aa ad) hw]
def ayk(h:i<=j)(aC:j<U D):aU D i (j+1)=aU D i j++[D[j]]:=by
 unfold aU;rw[Ws,h5 aC,aBL (by simp;omega)];rfl
def axc(h:i<=j)(aC:j<U D):du (aU D i (j+1))=if g D j=95 then du (aU D i j) else du (aU D i j)++[UInt8.ofNat (g D j)]:=by
 rw[ayk h aC];unfold du;rw[List.filter_append,fu aC];by_cases c:D[j].toNat=95
 .rw[aA c];simp[c]
 .rw[ak c];simp[c]
section
variable{h:H}{R K:K}{b C i j N r n c p f:Nat}{v u:ao}{D s:B}{ms:List Nat}{E:Int}{neg:Bool}
def awI(aI:n<=1000)(q:∀h',aB h h'->oc h' (a5 (J ⟨ag h,0,ab⟩) 0 n) [] (ag h)->K (a5 (J ⟨ag h,0,ab⟩) 0 n) h'):Ms 5 1 (Z 5) (ah 0) (ah (n:Int)) h K:=by
 unfold Ms;refine⟨Int.le_refl _,I,I,?_,by rw[u5];rfl⟩;have e:((n:Int)).toNat=n:=pU n;rw[e];refine q _ (aB.push _ _) ⟨0,n,_,5,rfl,dS _ _,ed _,?_,rfl,rfl⟩;rw[D7,tC,u5];rfl
def Dv(l:B):U (du l)<=U l:=List.length_filter_le _ _
set_option exponentiation.threshold 2000 in
def aic(aM:db h b D C)(aD:bp b i j C v)(aC:j<=U D)(Ti:48<=g D (bg D i)/\g D (bg D i)<=57)(Nh:bg D i<j)(aL:FS (du (aU D i j)) neg ms f E)
  (bq:∀x h',aB h h'->GW neg (b' ms) (E-f) x->R (bA #[cU .f64 x,cR]) h')
  (bw:∀e h',aB h h'->e2 h' b (U D) C e->b' ms≠0->(∀w,mG (lE (b' ms) (E-f)) (jZ (E-f)) w->lE (b' ms) (E-f)<jZ (E-f)*2^1000->False)->R (bA #[cU .f64 0,e]) h'):bo 110 [v] h R:=by
 apply XI;have cI:=aD;obtain⟨e,rfl,aa,ad,an,aT,e0,hlen⟩:=aD.fL aM;have ux:=Oz (D:=D) (i:=i);refine ll (λa g'=>a=ah (bg D i-i:Nat)/\g'=h) (λM cM=>?_) ?_
 .have y:(g D i=43\/g D i=45)->M (ah 1) h:=λa=>cM _ _ ⟨al,rfl⟩;have n:¬(g D i=43\/g D i=45)->M (ah 0) h:=λa=>cM _ _ ⟨by unfold bg;grind,rfl⟩;refine bG (hA aM aa) ?_;grind
 rintro a g' ⟨rfl,rfl⟩;refine yJ ?_;have ka:i+(bg D i-i)=bg D i:=I
 have gj:∀k,cd (bU (J ⟨b,e+(bg D i-i),ab⟩)) g' k=k (bu (g D (bg D i):Int)) g':=λk=>by
  have:=qH (k:=k) aM aa (l:=bg D i-i) I;grind
 have main:bD 134 [a5 (J ⟨b,e,ab⟩) (j-i) (C-i)] g' λjH h=>Pu (exv 0 jH) h λmL h=>Pu (exv 1 jH) h λv30 h=>b1 v30 (R (bA #[mL,cR]) h)<|
   fD 1 (λsc=>bD 135 [a5 (J ⟨b,e,ab⟩) (j-i) (C-i),(bu 95)] h λj2 h=>Pu (bn h0 j2 (ah 0)) h λmM h=>b1 mM (Pu (fb (a5 (J ⟨b,e,ab⟩) (j-i) (C-i))) h λlb h=>Ms 5 1 (Z 5) (ah 0) lb h λkM h=>Pu (fb (a5 (J ⟨b,e,ab⟩) (j-i) (C-i))) h λpR h=>
   iL 2 [kM,(ah 0)] h λqG _ lH kN h=>Pu (bn fG kN pR) h λkj h=>b1 kj (Pu (ia 1 (a5 (J ⟨b,e,ab⟩) (j-i) (C-i)) kN) h λme h=>cd me h λjI h=>Pu (bn hF jI (bu 95)) h λnO h=>
   b1 nO (ew 5 1 (Z 5) [(0,1,jI)] h λnP h=>Ap 5 1 1 (Z 5) lH nP h λl1 h=>Pu (bn .add kN (ah 1)) h λo_ h=>qG l1 o_ h)<|Pu (bn .add kN (ah 1)) h λiH h=>qG lH iH h)<|sc lH h)<|
   sc (a5 (J ⟨b,e,ab⟩) (j-i) (C-i)) h) λ_ kO h=>Cbs kO h λnQ h=>bD 136 [nQ,(ah 64)] h λn' h=>Pu (exv 0 n') h λnd h=>Pu (exv 1 n') h λkk h=>Pu (beI ai kk cR) h λnf h=>
   b1 nf (ew 20 1 (Z 20) [(0,1,kk)] h λmf h=>bD 51 [a5 (J ⟨b,e,ab⟩) (j-i) (C-i),(fo ⟨#[117,110,97,98,108,101,32,116,111,32,112,97,114,115,101,32,102,108,111,97,116,58,32,37,115]⟩),mf] h λmg h=>R (bA #[(cU .f64 0),mg]) h)<|R (bA #[nd,cR]) h:=by
  refine air aM cI aC (λaI=>?_) (λaeD n c' aX h' aw=>?_);rotate_left
  .obtain⟨rfl,rfl,rfl,cZ,cj,eI⟩:=aqC aC aL aX;refine aR ?_;exact bq _ _ aw (GW.ap0 cZ cj eI)
  refine aR ?_;refine ll (λa g=>aB g' g/\∃bb,kt g bb a (du (aU D i j))) (λM cM=>?_) ?_
  .refine ais aM cI aC (λfy=>?_) λl fg fF _=>?_
   .have f1:bn h0 (ah (-1)) (ah 0)=J (aQ av):=rfl;refine bG f1 ?_;refine cM _ _ ⟨aB.refl _,b,?_⟩;rw[aeM λk aq=>by rw[hi aC] at aq;rw[gY I aC];grind];exact bp.tY cI aM aC
   .refine aR ?_;refine awI I λcn bP jT=>?_;refine jn (λm a bb ct=>∃(k r:Nat),bb=ah k/\k<=j-i/\aB g' ct/\ag g'<=r/\oc ct a (du (aU D i (i+k))) r/\m=j-i-k) _ ⟨0,ag g',rfl,ed _,bP,bQ _,by rw[m7 I];exact jT,rfl⟩ ?_;rintro m d a bb ct N ⟨k,r,rfl,aq,he,aF,sq,rfl⟩ a7;have jV:=Dv (aU D i (i+k));by_cases a':k<j-i
    .have Tl:=axc (D:=D) (i:=i) (j:=i+k) I I;rw[hi I] at jV;refine bG (dI (aM.ext he) aa) ?_;refine⟨λbk=>?_,λasP=>?_⟩
     .rw[ak bk] at Tl;refine Hf sq (dZ _ _) I λch cN cC aS fh dN=>?_;exact a7 _ _ _ _ I ⟨k+1,cC,rfl,I,bV.fe he aS (λx ae=>al),by have:=he.1;omega,al,rfl⟩
     .rw[aA (BU asP)] at Tl;exact a7 _ _ _ _ I ⟨k+1,r,rfl,I,he,aF,al,rfl⟩
    .have ti:i+k=j:=I
     rw[ti] at sq;refine aR ?_;exact cM _ _ ⟨he,r,sq.tY⟩
  .rintro a g ⟨eQ,bb,jU⟩;refine xj jU ?_;have sy:=Dv (aU D i j);rw[hi aC] at sy;refine ait I aL (λx h' aw b_ cp=>?_) λx LQ h' aw b_ cp=>?_
   .refine aR ?_;exact bq x h' (eQ.trans aw) ⟨b_,cp⟩
   .have f1:beI ai (cW 257 LQ) cR=J (aQ ai):=rfl;refine bG f1 ?_;rw[pn oJ rfl rfl];refine gU (N:=U D) (dR:=cP aM.lt ((eQ.trans aw).trans (aB.push _ _)).1) cI aC λer cN ar MQ=>?_;exact bw er cN ((eQ.trans aw).trans ((aB.push _ _).trans ar)) MQ b_ cp
 refine bG gj ?_;with_reducible repeat' first|refine⟨?_,?_⟩|intro
 all_goals exact main
def Ge(D:B)(i:Nat):Nat:=if g D (bg D i)=105 then(if g D i=45 then 18442240474082181120 else 9218868437227405312) else 9221120237041090561
def aid(aM:db h b D C)(aD:bp b i j C v)(aC:j<=U D)(Ti:g D (bg D i)=105\/g D (bg D i)=110)(Nh:j=bg D i+3)(q:R (bA #[cU .f64 (Ge D i),cR]) h):bo 110 [v] h R:=by
 apply XI;obtain⟨e,rfl,aa,ad,an,aT,e0,hlen⟩:=aD.fL aM;have ux:=Oz (D:=D) (i:=i);refine ll (λa g'=>a=ah (bg D i-i:Nat)/\g'=h) (λM cM=>?_) ?_
 .have y:(g D i=43\/g D i=45)->M (ah 1) h:=λa=>cM _ _ ⟨al,rfl⟩;have n:¬(g D i=43\/g D i=45)->M (ah 0) h:=λa=>cM _ _ ⟨by unfold bg;grind,rfl⟩;refine bG (hA aM aa) ?_;grind
 rintro a g' ⟨rfl,rfl⟩;refine yJ ?_;have ka:i+(bg D i-i)=bg D i:=I
 have gj:∀k,cd (bU (J ⟨b,e+(bg D i-i),ab⟩)) g' k=k (bu (g D (bg D i):Int)) g':=λk=>by
  have:=qH (k:=k) aM aa (l:=bg D i-i) I;grind
 unfold Ge at q;rcases Ti with ay|ay
 .rw[aA ay] at q;refine dG gj (hA aM aa) ?_;refine⟨λa=>ajR ?_,λa=>Xv ?_⟩
  .grind
  grind
 .rw[ak I] at q;refine dG gj (hA aM aa) ?_;refine aiq ?_;exact q
end
inductive bL|mk(k:Nat)(i:Int)(b:Nat)(s:B)(keys:List B)(items:List bL)
inductive bW(α:Type)|val(a:α)|arr(l:List Nat)|bX(kv:List (B×Nat))
abbrev cH:=Nat->Option (Nat×Nat)
def fr(own:cH)(h h':H):Prop:=ag h<=ag h'/\∀b,b<ag h->(∀x,own b=J x->x.1=1000001)->h'[b]?=h[b]?
def ky(id:Nat)(own:cH)(h h':H):Prop:=ag h<=ag h'/\∀b,b<ag h->(∀s,own b=J (id,s)->1000000<=id)->h'[b]?=h[b]?
def dL(own a_:cH)(n:Nat):Prop:=∀b,b<n->a_ b=own b
def dL.refl(own:cH)(n:Nat):dL own own n:=λ_ _=>rfl
def dL.trans(aa:dL a b n)(ad:dL b c m)(h:n<=m):dL a c n:=λx ae=>(ad x (cP ae h)).trans (aa x ae)
def fr.refl(own:cH)(h:H):fr own h h:=⟨bQ _,λ_ _ _=>rfl⟩
def fr.g_(e:aB h h'):fr own h h':=⟨e.1,λb af _=>e.2 b af⟩
def fr.trans(a:fr eJ h aa)(b:fr o2 aa ad)(e:dL eJ o2 (ag h)):fr eJ h ad:=⟨dH a.1 b.1,λx ae aH=>by rw[b.2 x (cP ae a.1) (by rw[e x ae];exact aH),a.2 x ae aH]⟩
def ky.keep{id:Nat}{h h':H}(k:ky id own h h'):fr own h h':=⟨k.1,λb af aH=>k.2 b af (λs aL=>al)⟩
def ky.refl{id:Nat}{h:H}:ky id own h h:=⟨bQ _,λ_ _ _=>rfl⟩
def ky.trans{id:Nat}{h aa ad:H}(a:ky id eJ h aa)(b:ky id o2 aa ad)(e:dL eJ o2 (ag h)):ky id eJ h ad:=⟨dH a.1 b.1,λx ae aH=>by rw[b.2 x (cP ae a.1) (λs=>by rw[e x ae];exact aH s),a.2 x ae aH]⟩
def sV(own:cH)(h:H)(v:ao)(sz:Nat)(L:List ao):Prop:=∃ro,b2 h v sz L ro/\∀r,ro=J r->own r=ab
def sV.keep(d:sV own h v sz L)(k:fr own h h')(e:dL own a_ (ag h)):sV a_ h' v sz L:=by
 obtain⟨ro,aF,aH⟩:=d;refine⟨ro,aF.at λr er=>?_,λr er=>?_⟩
 .subst er;exact k.2 r aF.lt al
 .subst er;rw[e r aF.lt];grind
inductive gd(own:cH)(h:H):ao->bL->Prop
 |mk {k:Nat} {i:Int} {b:Nat} {s:B} {keys:List B} {items:List bL} {kv iv:ao} {cs:List ao}:sV own h kv 1 (keys.map S)->sV own h iv 6 cs->U cs=6*U items->U keys+U items<=20000->
  (∀n t,items[n]?=J t->gd own h (cA (aZ (bf 6 (ax (6*n) cs)))) t)->gd own h (cA #[bu k,ah i,a4 b,S s,kv,iv]) (.mk k i b s keys items)
def gd.keep(d:gd own h v t)(k:fr own h h')(e:dL own a_ (ag h)):gd a_ h' v t:=by
 induction d with
 |mk aa ad an aW _ bR=>exact .mk (aa.keep k e) (ad.keep k e) an aW bR
def bY:ao:=a5 ab 0 0
def NodeS(h:H)(own:cH)(bJ:List Nat)(id b m:Nat):bW bL->Prop
 | .val t=>own b=J (id,0)/\∃c1 c2 cy dQ eX c6,h[b]?=J (aO #[aQ ai,c1,c2,cy,dQ,eX,c6,aQ av,bY,ah m,bY,bY] 46)/\gd own h (cA #[c1,c2,cy,dQ,eX,c6]) t
 | .arr l=>own b=J (id,0)/\∃c1 c2 cy dQ eX c6 pL ro,h[b]?=J (aO #[aQ av,c1,c2,cy,dQ,eX,c6,aQ ai,pL,ah m,bY,bY] 46)/\b2 h pL 1 (l.map λi=>aN (bJ.getD i 0)) ro/\(∀r,ro=J r->own r=J (id,1))
 | .bX kv=>own b=J (id,0)/\∃c1 c2 cy dQ eX c6 cL qB je e7,h[b]?=J (aO #[aQ av,c1,c2,cy,dQ,eX,c6,aQ av,bY,ah m,cL,qB] 46)/\b2 h cL 1 (kv.map λx=>S x.1) je/\(∀r,je=J r->own r=J (id,1))/\
  b2 h qB 1 (kv.map λx=>aN (bJ.getD x.2 0)) e7/\(∀r,e7=J r->own r=J (id,2))
def NodeS.own{h:H}{own:cH}{id b m:Nat}{bB:bW bL}(d:NodeS h own bJ id b m bB):own b=J (id,0):=by
 cases bB with
 |val t=>exact d.1
 |arr l=>exact d.1
 |bX kv=>exact d.1
def m5:bW bL->Nat
 | .val _=>0
 | .arr l=>U l
 | .bX kv=>U kv
structure fa(h:H)(aj:List (bW bL))(M bJ:List Nat)(own:cH):Prop where
 tv:U M=U aj
 jC:U bJ=U aj
 dv:∀b x,own b=J x->b<ag h
 node:∀(id:Nat) bB,aj[id]?=J bB->NodeS h own bJ id (bJ.getD id 0) (M.getD id 0) bB
 kids:∀(id:Nat) kv (x:B×Nat),aj[id]?=J (.bX kv)->x∈kv->id<x.2/\x.2<U aj
 nM:∀(id:Nat) l (i:Nat),aj[id]?=J (.arr l)->i∈l->id<i/\∃kv,aj[i]?=J (.bX kv)
 small:∀(id:Nat) bB,aj[id]?=J bB->m5 bB<=U aj
def adf(n:Nat):bW bL->Prop
 | .val _=>True
 | .arr l=>∀i∈l,i<n
 | .bX kv=>∀x∈kv,x.2<n
def NodeS.keep{h h':H}{own a_:cH}{j b m id:Nat}{bB:bW bL}(d:NodeS h own bJ j b m bB)(bk:j≠id)(k:ky id own h h')(e:dL own a_ (ag h))(aG:∀b x,own b=J x->b<ag h)(af:adf (U bJ) bB)(dR:∀i,i<U bJ->gN.getD i 0=bJ.getD i 0):NodeS h' a_ gN j b m bB:=by
 have dq:∀b s,own b=J (j,s)->h'[b]?=h[b]?:=λb s aH=>k.2 b (aG b _ aH) λeU=>al
 have hh:∀b s,own b=J (j,s)->a_ b=J (j,s):=λb s aH=>by rw[e b (aG b _ aH)];exact aH
 cases bB with
 |val t=>
  obtain⟨aa,c1,c2,cy,dQ,eX,c6,ad,an⟩:=d;exact⟨hh _ _ aa,c1,c2,cy,dQ,eX,c6,al,an.keep k.keep e⟩
 |arr l=>
  obtain⟨aa,c1,c2,cy,dQ,eX,c6,pL,ro,ad,an,aT⟩:=d;refine⟨hh _ _ aa,c1,c2,cy,dQ,eX,c6,pL,ro,al,?_,λr aF=>hh _ _ (aT r aF)⟩;have aw:(l.map λi=>aN (gN.getD i 0))=l.map λi=>aN (bJ.getD i 0):=yw λi az=>by rw[dR i (af i az)]
  rw[aw];exact an.at λr aF=>dq _ _ (aT r aF)
 |bX kv=>
  obtain⟨aa,c1,c2,cy,dQ,eX,c6,cL,qB,je,e7,ad,an,aT,bN,cB⟩:=d;refine⟨hh _ _ aa,c1,c2,cy,dQ,eX,c6,cL,qB,je,e7,al,an.at λr aF=>dq _ _ (aT r aF),λr aF=>hh _ _ (aT r aF),?_,λr aF=>hh _ _ (cB r aF)⟩;have aw:(kv.map λx=>aN (gN.getD x.2 0))=kv.map λx=>aN (bJ.getD x.2 0):=yw λx ae=>by rw[dR _ (af x ae)]
  rw[aw];exact bN.at λr aF=>dq _ _ (cB r aF)
section
variable{h g:H}{R K:K}{aj:List (bW bL)}{M bJ:List Nat}{own:cH}{id b m:Nat}{kv:List (B×Nat)}{key:B}
def fa.ids(aY:fa h aj M bJ own)(aI:aj[id]?=J bB):adf (U bJ) bB:=by
 rw[aY.jC];cases bB with
 |val t=>trivial
 |arr l=>exact λi az=>by obtain⟨_,kv,aq⟩:=aY.nM id l i aI az;grind
 |bX kv=>exact λx ae=>(aY.kids id kv x aI ae).2
def fa.av1(aY:fa h aj M bJ own)(c0:ag h<=ag h')(aJ:own p=J x)(ae:U aj<=x.1)(k3:x.1≠1000001)(k:∀b,b<ag h->b≠p->h'[b]?=h[b]?)(e:dL own a_ (ag h))(aG:∀b x,a_ b=J x->b<ag h'):fa h' aj M bJ a_:=by
 refine⟨aY.tv,aY.jC,aG,λj bB aC=>?_,aY.kids,aY.nM,aY.small⟩;have nE:j<U aj:=(fk.1 aC).1;have d:=aY.node j bB aC;have dq:∀b s,own b=J (j,s)->h'[b]?=h[b]?:=λb s aH=>k b (aY.dv b _ aH) (λe=>al);have hh:∀b s,own b=J (j,s)->a_ b=J (j,s):=λb s aH=>by rw[e b (aY.dv b _ aH)];exact aH
 have mc:fr own h h':=⟨c0,λb af aH=>k b af (λe=>k3 (aH x (by rw[e,aJ])))⟩;cases bB with
 |val t=>
  obtain⟨aa,c1,c2,cy,dQ,eX,c6,ad,an⟩:=d;exact⟨hh _ _ aa,c1,c2,cy,dQ,eX,c6,al,an.keep mc e⟩
 |arr l=>
  obtain⟨aa,c1,c2,cy,dQ,eX,c6,pL,ro,ad,an,aT⟩:=d;exact⟨hh _ _ aa,c1,c2,cy,dQ,eX,c6,pL,ro,al,an.at λr aF=>dq _ _ (aT r aF),λr aF=>hh _ _ (aT r aF)⟩
 |bX kv=>
  obtain⟨aa,c1,c2,cy,dQ,eX,c6,cL,qB,je,e7,ad,an,aT,bN,cB⟩:=d;exact⟨hh _ _ aa,c1,c2,cy,dQ,eX,c6,cL,qB,je,e7,al,an.at λr aF=>dq _ _ (aT r aF),λr aF=>hh _ _ (aT r aF),bN.at λr aF=>dq _ _ (cB r aF),λr aF=>hh _ _ (cB r aF)⟩
def kvF(key:B):List (B×Nat)->Option Nat
 |[]=>ab
 |x::l=>if x.1=key then J x.2 else kvF key l
def j1(aF:b2 h v 1 L ro):fb v=J (ah (U L:Int))/\∀(k:Nat) (x:ao),L[k]?=J x->∃a,ia 1 v (ah (k:Int))=J a/\∀K:F.K,cd a h K=K x h:=by
 cases ro with
 |none=>
  obtain⟨rfl,rfl⟩:=aF;exact⟨rfl,λk x ae=>by cases ae⟩
 |some r=>
  obtain⟨len,cap,c,t,rfl,aa,ad,an,aT,bN⟩:=aF;have au:U L=len:=I
  subst au;refine⟨rfl,λk x ae=>?_⟩;have aq:=(fk.1 ae).1;refine⟨_,IX aq,λK=>?_⟩;rw[tM,fs aa];have e:c[k]?=J x:=by
   grind
  rw[e];rfl
end
def YF:Z 43=[bU ab]:=b4
def cS(own:cH)(b:Nat)(x:Nat×Nat):cH:=λc=>if c=b then J x else own c
def dX(own:cH)(ro:Option Nat)(x:Nat×Nat):cH:=λc=>if ro=J c then J x else own c
def kJ(aF:b2 h v sz L ro):cellsL v=[v]/\one v=ai:=by
 cases ro with
 |none=>obtain⟨rfl,_⟩:=aF;exact⟨rfl,rfl⟩
 |some r=>obtain⟨_,_,_,_,rfl,_⟩:=aF;exact⟨rfl,rfl⟩
def On{h:H}{t by_:Nat}{z v x:ao}{L:List ao}{K:F.K}(aV:Z t=[z])(oY:cellsL z=[z])(aF:b2 h v 1 L ro)(ae:cellsL x=[x])(kc:one x=ai)(au:(U L+1)*by_<=1099511627776)
  (q:∀ch h' b0,bV ro h h'->b2 h' ch 1 (L++[x]) b0->(b0=ro\/∃r,b0=J r/\ag h<=r)->K ch h'):ew t 1 (Z t) [(0,1,x)] h λy h=>Ap t 1 by_ (Z t) v y h K:=by
 rw[aV,D_ oY ae];have e4:b2 (a6 h (aO #[x] t)) v 1 L ro:=aF.at λr e=>by subst e;exact(aB.push h _).2 r aF.lt
 refine b2.append (n:=1) (new:=#[x]) (M:=[x]) e4 aE rfl rfl ?_ rfl (by simp[ones,kc]) rfl au λch h' b0 aw fh dF=>?_
 .simp[shown,dS]
 .refine q ch h' b0 ⟨dH (aB.push h _).1 aw.1,λb af aI=>by rw[aw.2 b (cP af (aB.push h _).1) aI,(aB.push h _).2 b af]⟩ fh ?_;grind
section
variable{h g:H}{R K:K}{aj:List (bW bL)}{M bJ:List Nat}{own:cH}{id b m nb:Nat}{kv:List (B×Nat)}{key:B}{bB:bW bL}
def av7(az:i<U kv):kvF key (ax i kv)=if kv[i].1=key then J kv[i].2 else kvF key (ax (i+1) kv):=by
 rw[tJ az,kvF]
def GL(aY:fa g aj M bJ own)(da:aj[id]?=J (.bX kv))(c0:U aj<=5000)(bq:∀i,kvF key kv=J i->i<U aj->R (aN (bJ.getD i 0)) g)(bw:kvF key kv=ab->R (bU ab) g):bo 27 [aN (bJ.getD id 0),S key] g R:=by
 apply alZ;have ov:=aY.small id _ da;obtain⟨_,c1,c2,cy,dQ,eX,c6,cL,qB,je,e7,af,il,_,e4,_⟩:=aY.node id _ da;simp only[m5] at ov;obtain⟨fg,TV⟩:=j1 il;obtain⟨fF,I7⟩:=j1 e4;rw[oE] at fg fF;refine dG (c4 af) fg ?_;refine eV (λdW v g'=>∃k:Nat,v=ah k/\k<=U kv/\kvF key (ax k kv)=kvF key kv/\g'=g/\dW=U kv-k) (U kv) ⟨0,rfl,ed _,rfl,rfl,rfl⟩ ?_;rintro dW _ v g' N ⟨k,rfl,aq,bj,rfl,rfl⟩ a7;by_cases a':k<U kv
 .rw[av7 a'] at bj;obtain⟨bx,hW,mW⟩:=TV k (S kv[k].1) al;obtain⟨bH,um,g0⟩:=I7 k (aN (bJ.getD kv[k].2 0)) al;have ae:=aY.kids id kv kv[k] da (zW a');have aD1:=um;refine dG hW mW ?_;refine⟨λhe=>?_,λbk=>?_⟩
  .rw[aA he] at bj;refine hk (c4 af) um g0 ?_;grind
  .rw[ak bk] at bj;exact a7 _ _ _ I ⟨k+1,rfl,a',bj,rfl,rfl⟩
 .rw[iu I,kvF] at bj;refine aR ?_;grind
def Po(aY:fa g aj M bJ own)(da:aj[id]?=J (.bX kv))(c0:U aj<=5000)(FC:NodeS g own (bJ++[nb]) (U aj) nb m bB)(nG:(∃t,bB=.val t)\/bB=.arr []\/bB=.bX [])
  (q:∀g' a_,fa g' (aj.set id (.bX (kv++[(key,U aj)]))++[bB]) (M++[m]) (bJ++[nb]) a_->dL own a_ (ag g)->ky id own g g'->(∀b,ag g<=b->∀x,a_ b=J x->x.1=id/\x.2<=3)->R (aN nb) g'):bo 28 [aN (bJ.getD id 0),S key,aN nb] g R:=by
 apply al0;have ov:=aY.small id _ da;have nC:id<U aj:=(fk.1 da).1;obtain⟨sA,c1,c2,cy,dQ,eX,c6,cL,qB,je,e7,af,il,wA,e4,ib⟩:=aY.node id _ da;simp only[m5] at ov;have dR:bJ.getD id 0<ag g:=aY.dv _ _ sA;generalize lx:bJ.getD id 0=bi at*;refine bG (c4 af) ?_;refine On (z:=S []) tR rfl il rfl rfl al λv1 ct yh aw C9 zo=>?_;have dz:ct[bi]?=J (aO #[aQ av,c1,c2,cy,dQ,eX,c6,aQ av,bY,ah (M.getD id 0:Nat),cL,qB] 46):=by
  rw[aw.2 bi dR (λe=>al)];exact af
 obtain⟨kb,au2⟩:=kJ C9;try refine aR ?_
 refine fx dz a1 kb au2 λbd ar cF=>?_;change bd[bi]?=J (aO #[aQ av,c1,c2,cy,dQ,eX,c6,aQ av,bY,ah (M.getD id 0:Nat),v1,qB] 46) at cF;have aD4:bi<ag ct:=(cm.1 dz).1;have auw:b2 bd qB 1 (kv.map λx=>aN (bJ.getD x.2 0)) e7:=e4.at λr er=>by
  subst er;have hN:=e4.lt;have zm:=ib r rfl;rw[ar.2 r (cP hN aw.1) (λx=>al),aw.2 r hN (λx=>al)]
 have axh:∀r,yh=J r->r≠bi/\e7≠J r/\(r<ag g->own r=J (id,1)):=λr er=>by
  subst er;rcases zo with x|⟨cC,x,fh⟩
  .grind
  .cases x;refine⟨I,λe=>?_,λh=>I⟩;subst e;have:=e4.lt;omega
 try refine bG (c4 cF) ?_
 refine On (z:=bU ab) YF rfl auw rfl rfl al λv2 cb zI aS FH q0=>?_;have asg:bi<ag bd:=(cm.1 cF).1;have eH:cb[bi]?=J (aO #[aQ av,c1,c2,cy,dQ,eX,c6,aQ av,bY,ah (M.getD id 0:Nat),v1,qB] 46):=by
  rw[aS.2 bi asg (λe=>al)];exact cF
 obtain⟨oX,au4⟩:=kJ FH;try refine aR ?_
 refine fx eH a1 oX au4 λeZ bl rG=>?_;change eZ[bi]?=J (aO #[aQ av,c1,c2,cy,dQ,eX,c6,aQ av,bY,ah (M.getD id 0:Nat),v1,v2] 46) at rG;have DD:ag g<=ag bd:=dH aw.1 ar.1;have afR:ag g<=ag eZ:=dH DD (dH aS.1 bl.1);have axi:∀r,zI=J r->r≠bi/\yh≠J r/\(r<ag g->own r=J (id,2)):=λr er=>by
  subst er;rcases q0 with x|⟨cC,x,fh⟩
  .grind
  .cases x;refine⟨I,λe=>?_,λh=>I⟩;subst e;have:=C9.lt;have:=ar.1;omega
 have kE:ky id own g eZ:=⟨afR,λb af fy=>by
  have fj:∀x s,own b=J (id,s)->b=x->False:=λx s aH _=>al
  have aeA:b≠bi:=λe=>fj b 0 (e▸sA) rfl;have b_:J b≠je:=λe=>fj b 1 (wA b e.symm) rfl;have cp:J b≠e7:=λe=>fj b 2 (ib b e.symm) rfl;rw[bl.2 b (by have:=aS.1;omega) (λe=>aeA (en e)),aS.2 b I cp,ar.2 b (by have:=aw.1;omega) (λe=>aeA (en e)),aw.2 b af b_]⟩
 have rK:dL own (dX (dX own yh (id,1)) zI (id,2)) (ag g):=λc ay=>by
  unfold dX;grind
 have auu:b2 eZ v1 1 ((kv++[(key,U aj)]).map λx=>S x.1) yh:=by
  rw[rr];refine C9.at λr er=>?_;subst er;have fg:=C9.lt;obtain⟨fj,h2,_⟩:=axh r rfl;rw[bl.2 r (by have:=aS.1;have:=ar.1;omega) (λe=>fj (en e)),aS.2 r (by have:=ar.1;omega) (λe=>h2 e.symm),ar.2 r fg (λe=>fj (en e))]
 have auy:b2 eZ v2 1 ((kv++[(key,U aj)]).map λx=>aN ((bJ++[nb]).getD x.2 0)) zI:=by
  have em:((kv++[(key,U aj)]).map λx=>aN ((bJ++[nb]).getD x.2 0))=(kv.map λx=>aN (bJ.getD x.2 0))++[aN nb]:=by
   rw[rr];congr 1
   .refine yw λx ae=>?_;have:=(aY.kids id kv x da ae).2;rw[iw,pV (by rw[aY.jC];exact this),<-iw]
   .simp only[kp,ru];rw[iw,pg (by rw[aY.jC];omega),aY.jC,pW];rfl
  rw[em];refine FH.at λr er=>?_;subst er;exact bl.2 r FH.lt (λe=>(axi r rfl).1 (en e))
 have Ho:∀i,i<U bJ->(bJ++[nb]).getD i 0=bJ.getD i 0:=λi az=>by
  grind
 have nq:∀i,i<U aj->(M++[m]).getD i 0=M.getD i 0:=λi az=>by
  rw[iw,pV (by rw[aY.tv];exact az),<-iw]
 refine q eZ _ ?_ rK kE ?_
 .refine⟨by simp[aY.tv],by simp[aY.jC],λc x aH=>?_,λj Uv aC=>?_,λj hO x aC ae=>?_,λj l i aC az=>?_,λj Uv aC=>?_⟩
  .unfold dX at aH;split at aH
   .rename_i e;exact cP (b2.lt (e▸FH)) bl.1
   .split at aH
    .rename_i e;have:=b2.lt (e▸C9);have:=ar.1;have:=aS.1;have:=bl.1;omega
    .exact cP (aY.dv c x aH) afR
  .by_cases nE:j<U aj
   .rw[pV al,KB] at aC;rw[nq j nE,Ho j (by rw[aY.jC];exact nE)];by_cases lz:id=j
    .subst lz;rw[aA rfl,aA nE] at aC;cases aC;rw[lx];refine⟨?_,c1,c2,cy,dQ,eX,c6,v1,v2,yh,zI,rG,auu,λr aF=>?_,auy,λr aF=>?_⟩
     .rw[rK bi dR];exact sA
     .unfold dX;grind
     .unfold dX;grind
    .rw[ak lz] at aC;have d:=aY.node j Uv aC;exact d.keep (O9 lz) kE rK aY.dv (aY.ids aC) Ho
   .have g8:j=U aj:=by
     grind
    subst g8;rw[pg a1,Gz,pW] at aC;simp only[rq,dg] at aC;subst aC;have t':(bJ++[nb]).getD (U aj) 0=nb:=by
     rw[iw,pg (by rw[aY.jC];omega),aY.jC,pW];rfl
    have em:(M++[m]).getD (U aj) 0=m:=by
     rw[iw,pg (by rw[aY.tv];omega),aY.tv,pW];rfl
    rw[t',em];refine FC.keep I kE rK aY.dv ?_ (λ_ _=>rfl);rcases nG with ⟨t,rfl⟩|rfl|rfl
    .trivial
    .intro i az;cases az
    .intro i az;cases az
  .by_cases nE:j<U aj
   .rw[pV al,KB] at aC;simp only[r8,Gz,O1];by_cases lz:id=j
    .subst lz;rw[aA rfl,aA nE] at aC;cases aC;rcases zX.1 ae with ae|ae
     .have:=aY.kids id kv x da ae;omega
     grind
    .rw[ak lz] at aC;have:=aY.kids j hO x aC ae;omega
   grind
  .by_cases nE:j<U aj
   .rw[pV al,KB] at aC;by_cases lz:id=j
    .grind
    .rw[ak lz] at aC;obtain⟨aa,NB,ad⟩:=aY.nM j l i aC az;grind
   grind
  .simp only[r8,Gz,O1];by_cases nE:j<U aj
   .rw[pV al,KB] at aC;by_cases lz:id=j
    .subst lz;rw[aA rfl,aA nE] at aC;cases aC;simp only[m5,r8,O1];omega
    .rw[ak lz] at aC;have:=aY.small j Uv aC;omega
   .have g8:j=U aj:=by
     grind
    subst g8;rw[pg a1,Gz,pW] at aC;simp only[rq,dg] at aC;subst aC;rcases nG with ⟨t,e⟩|e|e<;>(cases e;simp[m5])
 .intro c ay x ae;unfold dX at ae;split at ae
  .grind
  .split at ae
   .grind
   .have:=aY.dv c x ae;omega
end
def kvOf{α:Type}(aj:List (bW α))(id:Nat):List (B×Nat):=match aj[id]? with
 |J (.bX kv)=>kv
 |_=>[]
def dY{α:Type}(aj:List (bW α))(id:Nat)(k:B)(bB:bW α):List (bW α):=aj.set id (.bX (kvOf aj id++[(k,U aj)]))++[bB]
inductive G6(α:Type)|ok(aj:List (bW α))(M:List Nat)(id:Nat)|no(c:Nat)
def belowS{α:Type}:List B->List (bW α)->List Nat->Nat->G6 α
 |[],aj,M,id=>.ok aj M id
 |k::ks,aj,M,id=>match kvF k (kvOf aj id) with
  |none=>belowS ks (dY aj id k (.bX [])) (M++[0]) (U aj)
  |some i=>match aj[i]? with
   |J (.arr l)=>belowS ks aj M (l.getLast?.getD 0)
   |J (.bX _)=>belowS ks aj M i
   |_=>.no 1
def pairS{α:Type}(v:α):List B->List (bW α)->List Nat->Nat->G6 α
 |[],_,_,_=>.no 9
 |k::ks,aj,M,id=>if ks=[] then(match kvF k (kvOf aj id) with
   |some _=>.no 1
   |none=>.ok (dY aj id k (.val v)) (M++[0]) id)
  else match kvF k (kvOf aj id) with
   |none=>pairS v ks (dY aj id k (.bX [])) (M++[2]) (U aj)
   |some i=>match aj[i]? with
    |J (.bX _)=>if M.getD i 0=1 then .no 1 else if M.getD i 0=0 then .no 2 else pairS v ks aj M i
    |_=>.no 1
def cz{α:Type}(aj:List (bW α))(id:Nat):Prop:=∃kv,aj[id]?=J (.bX kv)
def lq{α:Type}(aj:List (bW α)):Prop:=∀(j:Nat) l,aj[j]?=J (.arr l)->l≠[]
def o0{α:Type}{aj:List (bW α)}{id:Nat}(h:aj[id]?=J (.bX kv)):kvOf aj id=kv:=by unfold kvOf;rw[h]
def nW{aj:List (bW α)}{id:Nat}{k:B}{bB:bW α}:(dY aj id k bB)[U aj]?=J bB:=by
 unfold dY;grind
def lp{aj:List (bW α)}{id:Nat}{k:B}{bB:bW α}:U (dY aj id k bB)=U aj+1:=by simp[dY]
def An{aj:List (bW α)}{id j:Nat}{k:B}{bB:bW α}(aC:j<U aj)(bk:id≠j):(dY aj id k bB)[j]?=aj[j]?:=by
 unfold dY;grind
def Am{aj:List (bW α)}{id:Nat}{k:B}{bB:bW α}(aC:id<U aj):(dY aj id k bB)[id]?=J (.bX (kvOf aj id++[(k,U aj)])):=by
 unfold dY;grind
def lq.add{aj:List (bW α)}{id:Nat}{k:B}{bB:bW α}(h:lq aj)(aI:∀l,bB=.arr l->l≠[]):lq (dY aj id k bB):=by
 intro j l aC;rcases jw j (U aj) with au|au
 .by_cases he:id=j
  .subst he;rw[Am au] at aC;cases aC
  .rw[An au he] at aC;exact h j l aC
 .have:=(fk.1 aC).1;rw[lp] at this;have:j=U aj:=I
  subst this;rw[nW] at aC;grind
def pH:Nat×Nat:=(1000000,9)
section
variable{h g:H}{R K:K}{aj:List (bW bL)}{M bJ:List Nat}{own:cH}{id b m nb p t i j sd m9:Nat}{kv:List (B×Nat)}{key D:B}{bB:bW bL}{v:ao}{ks:List B}
def Fg(af:g[p]?=J (aO #[S D,ah (i:Int),ah (sd:Int)] t)):a3 g p D t i sd=g:=af0 _ _ _ af
def fa.rd(aY:fa (a3 h p D t i sd) aj M bJ own)(kC:own p=J pH)(c0:U aj<=5000):fa (a3 h p D t j m9) aj M bJ own:=
 aY.av1 (by rw[dm,dm];omega) kC (by simp only[pH];omega) (by simp only[pH];decide) (λb _ bk=>by rw[g1 bk,g1 bk]) (dL.refl _ _) (λb x aH=>by rw[dm];have:=aY.dv b x aH;rw[dm] at this;exact this)
def fa.new(aY:fa g aj M bJ own)(x:Obj):fa (a6 g x) aj M bJ (cS own (ag g) (U aj,0)):=by
 have e:dL own (cS own (ag g) (U aj,0)) (ag g):=λb af=>by unfold cS;grind
 refine⟨aY.tv,aY.jC,λb y aH=>?_,λj bB aC=>?_,aY.kids,aY.nM,aY.small⟩
 .unfold cS at aH;split at aH
  .grind
  .have:=aY.dv b y aH;simp;omega
 .have nE:j<U aj:=(fk.1 aC).1;exact(aY.node j bB aC).keep (id:=U aj) I ⟨a1,λb af _=>(aB.push g x).2 b af⟩ e aY.dv (aY.ids aC) (λ_ _=>rfl)
def P0:Z 46=[aQ av,bu 0,ah 0,a4 0,S [],bY,bY,aQ av,bY,ah 0,bY,bY]:=b4
def KL(m:Nat):Bd (Z 46) [(9,1,ah (m:Int))] h K=K (cA #[aQ av,bu 0,ah 0,a4 0,S [],bY,bY,aQ av,bY,ah (m:Int),bY,bY]) h:=by rw[P0];rfl
def U6(aY:fa g aj M bJ own)(da:aj[id]?=J (.bX kv))(c0:U aj<=5000)(q:∀g' a_,fa g' (dY aj id key (.bX [])) (M++[m]) (bJ++[ag g]) a_->dL own a_ (ag g)->ky id own g g'->R (aN (ag g)) g'):
  Bd (Z 46) [(9,1,ah (m:Int))] g λv h=>lh 46 v h λv h=>bD 28 [aN (bJ.getD id 0),S key,v] h R:=by
 rw[KL];unfold lh;have hV:=aY.new (aO (aZ (cellsL (cA #[aQ av,bu 0,ah 0,a4 0,S [],bY,bY,aQ av,bY,ah m,bY,bY]))) 46);have e:dL own (cS own (ag g) (U aj,0)) (ag g):=λb af=>by unfold cS;grind
 refine Po (m:=m) (bB:=.bX []) hV da c0 ⟨by unfold cS;grind,bu 0,ah 0,a4 0,S [],bY,bY,bY,bY,ab,ab,dS _ _,⟨rfl,rfl⟩,a1,⟨rfl,rfl⟩,a1⟩ (bt (bt rfl)) λg' a_ dd dr fq _=>?_;refine q g' a_ ?_ (e.trans dr a1) ⟨dH a1 fq.1,λb af aH=>?_⟩
 .unfold dY;rw[o0 da];exact dd
 .rw[fq.2 b (by simp;omega) (λs=>by rw[e b af];exact aH s),(aB.push g _).2 b af]
def K_:beP av (aN b) (bU ab)=J (aQ av):=rfl
def anI:beP ai (aN b) (bU ab)=J (aQ ai):=rfl
def nil_eq:beP av (bU ab) (bU ab)=J (aQ ai):=rfl
def aeI:beP ai (bU ab) (bU ab)=J (aQ av):=rfl
def node_cells(aY:fa g aj M bJ own)(aI:aj[id]?=J bB):∃cs:Array ao,g[bJ.getD id 0]?=J (aO cs 46)/\ag cs=12/\cs[0]?=J (aQ (match bB with| .val _=>ai|_=>av))/\cs[7]?=J (aQ (match bB with| .arr _=>ai|_=>av))/\cs[9]?=J (ah (M.getD id 0:Int)):=by
 have d:=aY.node id bB aI;cases bB with
 |val t=>obtain⟨_,c1,c2,cy,dQ,eX,c6,af,_⟩:=d;exact⟨_,af,rfl,rfl,rfl,rfl⟩
 |arr l=>obtain⟨_,c1,c2,cy,dQ,eX,c6,pL,ro,af,_⟩:=d;exact⟨_,af,rfl,rfl,rfl,rfl⟩
 |bX kv=>obtain⟨_,c1,c2,cy,dQ,eX,c6,cL,qB,je,e7,af,_⟩:=d;exact⟨_,af,rfl,rfl,rfl,rfl⟩
def r'(bJ gN:List Nat)(n:Nat):Prop:=∀x,x<n->gN.getD x 0=bJ.getD x 0
def r'.app{bJ iO:List Nat}:r' bJ (bJ++iO) (U bJ):=λx ae=>al
def ahP(res:G6 bL)(h:H)(D:B)(p t i:Nat)(bJ:List Nat)(own:cH)(R:F.K):Prop:=match res with
 | .ok a8 bK cY=>∀h' gN a_,fa (a3 h' p D t i 0) a8 bK gN a_->dL own a_ (ag h)->fr own (a3 h p D t i 0) (a3 h' p D t i 0)->cz a8 cY->lq a8->r' bJ gN (U bJ)->R (aN (gN.getD cY 0)) (a3 h' p D t i 0)
 | .no c=>c≠0->∀h' v,fr own (a3 h p D t i 0) (a3 h' p D t i 0)->R v (a3 h' p D t (U D) c)
def aja(aJ:p<ag h)(kC:own p=J pH)(aY:fa (a3 h p D t i 0) aj M bJ own)(aq:sV own (a3 h p D t i 0) v 1 (ks.map S))(lA:U ks<=500)(da:cz aj id)(bk:lq aj)(c0:U aj<=1000)(q:ahP (belowS ks aj M id) h D p t i bJ own R):bo 26 [aN p,aN (bJ.getD id 0),v] (a3 h p D t i 0) R:=by
 apply alY;obtain⟨ro,aF,dF⟩:=aq;obtain⟨mC,_⟩:=j1 aF;rw[oE] at mC;refine bG mC ?_;refine jn (λdW a b g'=>∃(k:Nat) (h':H) (a8:List (bW bL)) (bK gN:List Nat) (a_:cH) (cY:Nat),a=aN (gN.getD cY 0)/\b=ah k/\g'=a3 h' p D t i 0/\k<=U ks/\belowS (ax k ks) a8 bK cY=belowS ks aj M id/\fa (a3 h' p D t i 0) a8 bK gN a_/\dL own a_ (ag h)/\fr own (a3 h p D t i 0) (a3 h' p D t i 0)/\cz a8 cY/\lq a8/\U a8<=1000+k/\r' bJ gN (U bJ)/\U bJ<=U gN/\dW=U ks-k) (U ks)
  ⟨0,h,aj,M,bJ,own,id,rfl,rfl,rfl,ed _,rfl,aY,dL.refl _ _,fr.refl _ _,da,bk,c0,λ_ _=>rfl,bQ _,rfl⟩ ?_
 rintro dW _ a b g' N ⟨k,h',a8,bK,gN,a_,cY,rfl,rfl,rfl,aq,ef,gG,iS,cE,Fp,xY,FL,lx,dR,rfl⟩ a7;have hE:p<ag h':=by have:=cE.1;rw[dm,dm] at this;omega
 have A8:a_ p=J pH:=by rw[iS p aJ];exact kC
 have fh:b2 (a3 h' p D t i 0) v 1 (ks.map S) ro:=aF.at λr er=>by
  subst er;exact cE.2 r aF.lt al
 obtain⟨_,gj⟩:=j1 fh;rw[<-ef] at q;by_cases a':k<U ks
 .obtain⟨bx,hW,mW⟩:=gj k (S ks[k]) al;rw[tJ a',belowS] at q ef;obtain⟨kv,ey⟩:=Fp;rw[o0 ey] at q ef;refine dG hW mW ?_;refine GL gG ey I (λx ae tp=>?_) λae=>?_
  .rw[ae] at q ef;simp only at q ef;refine lO ?_;rw[K_,bs,ga];obtain⟨Ds,oW⟩:∃bB,a8[x]?=J bB:=⟨_,h5 tp⟩;obtain⟨cs,af,_,hL,mX,_⟩:=node_cells gG oW;refine hk (c4 af) hL mX ?_;rw[oW] at q ef;cases Ds with
   |val eO=>
    simp only at q;refine aR ?_;refine iK (n:=1) hE ?_;exact q aE _ _ cE
   |arr l=>
    simp only at q ef;obtain⟨_,c1,c2,cy,dQ,eX,c6,pL,rt,cF,acP,_⟩:=gG.node x _ oW;rw[af] at cF;cases cF;obtain⟨acp,ldt⟩:=j1 acP;have qY:=xY x l oW;have h_:=lJ.2 qY;have ov:=gG.small x _ oW;simp only[m5] at ov;rw[oE] at acp;have mZ:l.getLast?.getD 0=l[U l-1]:=al
    obtain⟨bH,um,g0⟩:=ldt (U l-1) (aN (gN.getD l[U l-1] 0)) al;rw[mZ] at ef;have qq:=(gG.nM x l l[U l-1] oW (zW _)).2;have es:bn .sub (ah (U l)) (ah 1)=J (ah (U l-1:Nat)):=m' (a:=U l) (b:=1) I I;refine vE (c4 af) acp es um g0 ?_;exact a7 _ _ _ _ I ⟨k+1,h',a8,bK,gN,a_,l[U l-1],rfl,rfl,rfl,a',ef,gG,iS,cE,qq,xY,I,lx,dR,rfl⟩
   |bX hO=>
    simp only at q ef;refine aR ?_;exact a7 _ _ _ _ I ⟨k+1,h',a8,bK,gN,a_,x,rfl,rfl,rfl,a',ef,gG,iS,cE,⟨_,oW⟩,xY,I,lx,dR,rfl⟩
  .rw[ae] at q ef;simp only at q ef;refine lO ?_;rw[nil_eq,bs,gl];refine U6 (m:=0) gG ey I λbd f_ dd dr fq=>?_;have vk:bd[p]?=J (aO #[S D,ah i,ah (0:Nat)] t):=by
    rw[fq.2 p (by rw[dm];exact hE) (λs=>by rw[A8];intro e;cases e;omega),qS hE]
   have eg:=Fg vk;obtain⟨cs,af,_,hL,mX,_⟩:=node_cells dd (id:=U a8) (bB:=.bX []) nW;have zb:(gN++[ag (a3 h' p D t i 0)]).getD (U a8) 0=ag (a3 h' p D t i 0):=by
    rw[iw,pg (by rw[gG.jC];omega),gG.jC,pW];rfl
   rw[zb] at af;refine hk (c4 af) hL mX ?_;rw[<-eg];rw[<-eg] at dd fq;refine a7 _ _ _ _ I ⟨k+1,bd,_,_,_,f_,U a8,by rw[zb],rfl,rfl,a',ef,dd,?_,cE.trans fq.keep (by rw[dm];exact iS),⟨_,nW⟩,xY.add (λl e=>by cases e),by rw[lp];omega,λx ae=>by rw[r'.app x (cP ae dR)];exact lx x ae,by simp;omega,rfl⟩;exact iS.trans dr (by rw[dm];have:=cE.1;rw[dm,dm] at this;exact this)
 .rw[iu I,belowS] at q;refine aR ?_;exact q h' gN a_ gG iS cE Fp xY lx
end
def fH(c:Nat):Prop:=jN c\/c=43\/c=46\/c=58
instance(c:Nat):Decidable (fH c):=by unfold fH;infer_instance
def scN:B->Nat
 |[]=>0
 |c::l=>if fH c.toNat then scN l+1 else 0
noncomputable def iW(l:B):Nat:=if nY (bf (scN l) l)/\g l (scN l)=32/\48<=g l (scN l+1)/\g l (scN l+1)<=57 then scN l+1+scN (ax (scN l+1) l) else scN l
noncomputable def word(l:B):eW bL:=if bf (scN l) l=[116,114,117,101] then .ok (.mk 3 1 0 [] [] []) (ax (scN l) l) else if bf (scN l) l=[102,97,108,115,101] then .ok (.mk 3 0 0 [] [] []) (ax (scN l) l)
 else if(scalar (bf (iW l) l)).2=0 then .ok (.mk (scalar (bf (iW l) l)).1.1 (scalar (bf (iW l) l)).1.2.1 (scalar (bf (iW l) l)).1.2.2.1 (scalar (bf (iW l) l)).1.2.2.2 [] []) (ax (iW l) l) else .no (scalar (bf (iW l) l)).2
def listL(V:B->eW bL)(F:Nat):Nat->List bL->B->eW (List bL)
 |0,_,_=>.no 9
 |n+1,acc,l=>match space F l with
  | .no c=>.no c
  | .ok _ l=>if top l=93 then .ok acc l.tail else match V l with
   | .no c=>.no c
   | .ok t l=>match space F l with
    | .no c=>.no c
    | .ok _ l=>if top l=44 then listL V F n (acc++[t]) l.tail else if top l≠93 then .no 1 else listL V F n (acc++[t]) l
inductive PS(α:Type)|ok(aj:List (bW α))(M:List Nat)(l:B)|no(c:Nat)
def pairP{α:Type}(V:B->eW α)(F:Nat)(l:B)(aj:List (bW α))(M:List Nat)(id:Nat):PS α:=match key F l with
 | .no c=>.no c
 | .ok ks l=>if top l≠61 then .no 1 else match V (blanks l.tail) with
  | .no c=>.no c
  | .ok t l=>match pairS t ks aj M id with
   | .no c=>.no c
   | .ok aj M _=>.ok aj M l
def wa(a k:B):Bool:=!(Op.bytesLess a k||a==k)
def insPos(k:B)(l:List (B×bL)):Nat->Nat
 |0=>0
 |j+1=>if wa ((l[j]?.map Prod.fst).getD []) k then insPos k l j else j+1
def kD(l:List (B×bL))(x:B×bL):List (B×bL):=bf (insPos x.1 l (U l)) l++x::ax (insPos x.1 l (U l)) l
def tomlS(aj:List (bW bL)):Nat->Nat->bL
 |0,_=>.mk 0 0 0 [] [] []
 |n+1,id=>match aj[id]? with
  |none=>.mk 0 0 0 [] [] []
  |J (.val t)=>t
  |J (.arr l)=>.mk 8 0 0 [] [] (l.map (tomlS aj n))
  |J (.bX kv)=>.mk 9 0 0 [] (((kv.map λx=>(x.1,tomlS aj n x.2)).foldl kD []).map Prod.fst) (((kv.map λx=>(x.1,tomlS aj n x.2)).foldl kD []).map Prod.snd)
def inLoop(V:B->eW bL)(F:Nat):Nat->List (bW bL)->List Nat->B->eW bL
 |0,_,_,_=>.no 9
 |n+1,aj,M,l=>match pairP V F (blanks l) aj M 0 with
  | .no c=>.no c
  | .ok aj M l=>if qt (blanks l) then .no 2 else if top (blanks l)=125 then .ok (tomlS aj (U aj) 0) (blanks l).tail else if top (blanks l)=44 then(if qt (blanks (blanks l).tail) then .no 2 else if top (blanks (blanks l).tail)=125 then .no 2 else inLoop V F n aj M (blanks (blanks l).tail)) else .no 1
def tr(V:B->eW bL)(F:Nat)(l:B):eW bL:=if qt (blanks l) then .no 2 else if top (blanks l)=125 then .ok (tomlS [.bX []] 1 0) (blanks l).tail else inLoop V F F [.bX []] [1] (blanks l)
def strR:eW B->eW bL
 | .ok s r=>.ok (.mk 0 0 0 s [] []) r
 | .no c=>.no c
def arrR:eW (List bL)->eW bL
 | .ok s r=>.ok (.mk 8 0 0 [] [] s) r
 | .no c=>.no c
noncomputable def valueF(F:Nat):Nat->B->eW bL
 |0,_=>.no 9
 |n+1,l=>if[34,34,34]<+:l\/[39,39,39]<+:l then strR (Gd (top l) F (ax 3 l)) else if top l=34 then strR (basic F l.tail) else if top l=39 then strR (literal F l.tail)
  else if top l=91 then arrR (listL (valueF F n) F F [] l.tail) else if top l=123 then tr (valueF F n) F l.tail else word l
def JH:∀{n:Nat} {l r:B} {u:Unit},space n l=.ok u r->U r<=U l
 |0,l,r,u,h=>by simp only[space,eW.ok.injEq] at h;grind
 |n+1,l,r,u,h=>by
  rw[space] at h;have af:=vW l;cases ay:comment (blanks l) with
  |no c=>grind
  |ok u c3=>
   have:=QA ay;rw[ay] at h;simp only at h;cases aI:o3 c3 with
   |none=>grind
   |some dA=>
    rw[aI] at h;have:=JH h;have:=NX aI;omega
def adB:∀{n:Nat} {acc ks:List B} {l r:B},keyLoop F n acc l=.ok ks r->U ks+U r<=U acc+U l
 |0,_,_,_,_,h=>by cases h
 |n+1,acc,ks,l,r,h=>by
  rw[keyLoop] at h;have af:=vW l;split at h
  .grind
  .have cF:=vW (blanks l).tail;simp only[List.length_tail] at cF;cases aL:simple F (blanks (blanks l).tail) with
   |no c=>grind
   |ok k cc=>
    rw[aL] at h;have:=adB h;have:=OA aL;grind
def Ny(h:key F l=.ok ks r):U ks+U r<=U l:=by
 unfold key at h;cases aL:simple F l with
 |no c=>grind
 |ok k cc=>
  rw[aL] at h;have:=adB h;have:=OA aL;grind
def N7:∀{ks:List B} {aj a8:List (bW α)} {M bK:List Nat} {id cY:Nat},pairS v ks aj M id=.ok a8 bK cY->U a8<=U aj+U ks
 |[],_,_,_,_,_,_,h=>by cases h
 |k::ks,aj,a8,M,bK,id,cY,h=>by
  rw[pairS] at h;split at h
  .split at h
   .cases h
   .cases h;rw[lp];simp
  .split at h
   .have:=N7 h;rw[lp] at this;simp;omega
   .split at h
    .split at h
     .cases h
     .split at h
      .cases h
      .have:=N7 h;simp;omega
    .cases h
def Cc{α:Type}(V:B->eW α):Prop:=∀l t r,V l=.ok t r->U r<U l
def N4{α:Type}{V:B->eW α}(eu:Cc V){F:Nat}{l r:B}{aj a8:List (bW α)}{id:Nat}(h:pairP V F l aj M id=.ok a8 bK r):U a8+U r<=U aj+U l/\U r<U l:=by
 unfold pairP at h;cases aq:key F l with
 |no c=>grind
 |ok ks c3=>
  have aa:=Ny aq;rw[aq] at h;simp only at h;split at h
  .cases h
  .cases aD:V (blanks c3.tail) with
   |no c=>grind
   |ok t dA=>
    have ad:=eu _ _ _ aD;have an:=vW c3.tail;simp only[List.length_tail] at an;rw[aD] at h;simp only at h;cases aJ:pairS t ks aj M id with
    |no c=>grind
    |ok hY yM i1=>
     rw[aJ] at h;cases h;have:=N7 aJ;omega
def T7(eu:Cc V):∀{n:Nat} {acc out:List bL} {l r:B},listL V F n acc l=.ok out r->U r<U l
 |0,_,_,_,_,h=>by cases h
 |n+1,acc,out,l,r,h=>by
  rw[listL] at h;cases aa:space F l with
  |no c=>grind
  |ok u c3=>
   have:=JH aa;rw[aa] at h;simp only at h;split at h
   .rename_i aP;have:=Gi (l:=c3) I;grind
   .cases ad:V c3 with
    |no c=>grind
    |ok t dA=>
     have:=eu _ _ _ ad;rw[ad] at h;simp only at h;cases an:space F dA with
     |no c=>grind
     |ok u jX=>
      have:=JH an;rw[an] at h;simp only at h;split at h
      .have:=T7 eu h;grind
      .split at h
       .cases h
       .have:=T7 eu h;omega
def adi(eu:Cc V):∀{n:Nat} {aj:List (bW bL)} {M:List Nat} {t:bL} {l r:B},inLoop V F n aj M l=.ok t r->U r<U l
 |0,_,_,_,_,_,h=>by cases h
 |n+1,aj,M,t,l,r,h=>by
  rw[inLoop] at h;cases aa:pairP V F (blanks l) aj M 0 with
  |no c=>grind
  |ok hY yM c3=>
   have:=(N4 eu aa).2;have:=vW l;have an:=vW c3;rw[aa] at h;simp only at h;split at h
   .cases h
   .split at h
    .grind
    .split at h
     .split at h
      .cases h
      .split at h
       .cases h
       .have:=adi eu h;have:=vW (blanks c3).tail;grind
     .cases h
def avE(eu:Cc V)(h:tr V F l=.ok t r):U r<=U l:=by
 unfold tr at h;have:=vW l;split at h
 .cases h
 .split at h
  .grind
  .have:=adi eu h;omega
def azi:(scalar []).2≠0:=by
 have aa:¬qc []:=by unfold qc;simp
 have ad:integer []=ab:=by rfl
 have an:kK []=.inr 1:=by rfl
 unfold scalar;rw[ak aa,ad,an];simp
def ahb:Cc word:=by
 intro l t r h;unfold word at h;have sN:∀s (n:Nat),bf n l=s->s≠[]->U (ax n l)<U l:=λs n e aL=>by
  subst e;rcases zZ n with rfl|aW
  .grind
  .rcases zZ (U l) with aa|aa
   .grind
   grind
 split at h
 .grind
 .split at h
  .grind
  .split at h
   .rename_i e;simp only[eW.ok.injEq] at h;rw[<-h.2];refine sN _ _ rfl λar=>?_;rw[ar] at e;exact azi e
   .cases h
def avT(h:zu l=J r):U r<=U l:=by
 unfold zu at h;have af:=vW l;cases aI:o3 (blanks l) with
 |none=>grind
 |some x=>
  rw[aI] at h;simp only[dg] at h;rw[<-h];have:=adr (U x) x;have:=NX aI;omega
def Vr:∀{n:Nat} {l s r:B},sevLoop m n l=.ok s r->U r<=U l
 |0,_,_,_,h=>by cases h
 |n+1,l,s,r,h=>by
  rw[sevLoop] at h;have rc:∀{a c3:B},pre a (sevLoop m n c3)=.ok s r->U c3<=U l->U r<=U l:=λ{a c3} e au=>by
   obtain⟨b,af,_⟩:=UX e;have:=Vr af;omega
  split at h
  .cases h
  .split at h
   .grind
   .split at h
    .grind
    .split at h
     .cases h
     .split at h
      .cases aC:zu l.tail with
       |some cc=>
        rw[aC] at h;have aa:=avT aC;have:=Vr h;grind
       |none=>
        rw[aC] at h;simp only at h;cases he:escape l.tail with
        |no c=>grind
        |ok a cc=>
         rw[he] at h;have aa:=(LV he).2;grind
      .cases he:plain l with
       |no c=>grind
       |ok a cc=>
        rw[he] at h;have aa:=(Ga he).2;grind
def Kk:∀n,Cc (valueF F n)
 |0,_,_,_,h=>by cases h
 |n+1,l,t,r,h=>by
  rw[valueF] at h;have st:∀{x:eW B},strR x=.ok t r->∃s,x=.ok s r:=λ{x} e=>by
   cases x with
   |ok s cc=>simp only[strR,eW.ok.injEq] at e;simp_all
   |no c=>cases e
  split at h
  .rename_i aJ;have:0<U l:=by
    grind
   obtain⟨s,aL⟩:=st h;unfold Gd at aL;have aa:=Vr aL;have ad:U ((o3 (ax 3 l)).getD (ax 3 l))<=U (ax 3 l):=by
    cases aI:o3 (ax 3 l) with
    |none=>grind
    |some x=>have:=NX aI;grind
   grind
  .split at h
   .obtain⟨s,aL⟩:=st h;have:=Qi aL;grind
   .split at h
    .obtain⟨s,aL⟩:=st h;have:=T9 aL;grind
    .split at h
     .cases ae:listL (valueF F n) F F [] l.tail with
      |no c=>rw[ae] at h;cases h
      |ok out cc=>
       rw[ae] at h;simp only[arrR,eW.ok.injEq] at h;have:=T7 (Kk n) ae;grind
     .split at h
      .rename_i aP;have:=Gi (l:=l) I;have:=avE (Kk n) h;grind
      .exact ahb _ _ _ h
def old(n:Nat):cH:=λb=>if b<n then J (0,0) else ab
def n8(h:old n b=ab):n<=b:=by
 unfold old at h;grind
def sV.kF(d:sV own h v sz L)(k:∀b,b<ag h->own b=ab->h'[b]?=h[b]?)(e:∀b,b<ag h->own b=ab->a_ b=ab):sV a_ h' v sz L:=by
 obtain⟨ro,aF,aH⟩:=d;refine⟨ro,aF.at λr er=>?_,λr er=>?_⟩
 .subst er;exact k r aF.lt (aH r rfl)
 .subst er;exact e r aF.lt (aH r rfl)
def gd.kF(d:gd own h v t)(k:∀b,b<ag h->own b=ab->h'[b]?=h[b]?)(e:∀b,b<ag h->own b=ab->a_ b=ab):gd a_ h' v t:=by
 induction d with
 |mk aa ad an aW _ bR=>exact .mk (aa.kF k e) (ad.kF k e) an aW bR
def KZ:sV own h bY sz []:=⟨ab,⟨rfl,rfl⟩,λ_ e=>by cases e⟩
def u3:gd own h (g5 k i b s) (.mk k i b s [] []):=gd.mk (kv:=bY) (iv:=bY) (cs:=[]) KZ KZ rfl a1 (λn t h=>by simp at h)
def gd.oi(d:gd own h v t):kr 6 v:=by
 cases d with
 |mk aa ad _ _ _=>
  obtain⟨cc,a,_⟩:=aa;obtain⟨cK,b,_⟩:=ad;refine⟨_,rfl,rfl,?_⟩;show(ai&&(ai&&(ai&&(ai&&(one _&&(one _&&ai))))))=ai;rw[(kJ a).2,(kJ b).2];rfl
def mR(own:cH)(g:H)(iv:ao)(ro:Option Nat)(acc:List bL):Prop:=∃cs,b2 g iv 6 cs ro/\U cs=6*U acc/\∀n t,acc[n]?=J t->gd own g (cA (aZ (bf 6 (ax (6*n) cs)))) t
def mR.keep{own a_:cH}{g g':H}{iv:ao}{acc:List bL}(d:mR own g iv ro acc)(aF:∀r,ro=J r->g'[r]?=g[r]?)(k:∀b,b<ag g->own b=ab->g'[b]?=g[b]?)(e:∀b,b<ag g->own b=ab->a_ b=ab):mR a_ g' iv ro acc:=by
 obtain⟨cs,aa,ad,an⟩:=d;exact⟨cs,aa.at aF,ad,λn t aI=>(an n t aI).kF k e⟩
def mR.row{own:cH}{g:H}{iv:ao}{acc:List bL}(d:mR own g iv ro acc):cellsL iv=[iv]/\one iv=ai:=by obtain⟨cs,aa,_⟩:=d;exact kJ aa
def aza{g:H}{iv v:ao}{ro:Option Nat}{K:F.K}(aF:b2 g iv 6 cs ro)(aD:kr 6 v)(au:U cs<=1000000)(q:∀fz g' b0 (c6:Array ao),v=cA c6->ag c6=6->bV ro g g'->b2 g' fz 6 (cs++bC c6) b0->(b0=ro\/∃r,b0=J r/\ag g<=r)->K fz g'):
  ew 28 1 (Z 28) [(0,6,v)] g λy h=>Ap 28 6 88 (Z 28) iv y h K:=by
 obtain⟨c6,rfl,ay,aH⟩:=aD;have IF:∀{l z:List ao},U z=U l->putL z 0 l=l:=by
  intro l;induction l with
  |nil=>intro z aV;rw[vF aV];rfl
  |cons a l bR=>
   intro z aV;cases z with
   |nil=>cases aV
   |cons b z=>rw[putL,bR al]
 have ef:∀k,ew 28 1 (Z 28) [(0,6,cA c6)] g k=k (a5 (J ⟨ag g,0,ab⟩) 1 1) (a6 g (aO c6 28)):=λk=>by
  have aV:U (repL 1 (Z 28))=U (bC c6):=by rw[j9];simp[repL,ay]
  have cB:U (bC c6)=6:=I
  have R0:U (repL 1 (Z 28))=6:=I
  simp only[ew,fillL,cellsL,R0,cB,IF aV];simp
 rw[ef];have e4:b2 (a6 g (aO c6 28)) iv 6 cs ro:=aF.at λr e=>by subst e;exact(aB.push g _).2 r aF.lt
 refine b2.append (n:=1) (new:=c6) (M:=bC c6) e4 aE (by rw[j9];rfl) rfl ?_ rfl aH (by simp[ay]) al λch h' b0 aw fh dF=>?_
 .simp only[shown,dS];simp_all
 .refine q ch h' b0 c6 rfl ay ⟨dH (aB.push g _).1 aw.1,λb af aI=>by rw[aw.2 b (cP af (aB.push g _).1) aI,(aB.push g _).2 b af]⟩ fh ?_;grind
def P9{g:H}{iv v:ao}{acc:List bL}{own:cH}{b t2:Nat}{c:Array ao}{X:H->Prop}(cr:mR (dX own ro (0,0)) g iv ro acc)(xM:U acc<=100000)(aD:kr 6 v)(af:g[b]?=J (aO c t2))(ay:ag c=6)(AR:own b≠ab)(dF:∀r,ro=J r->own r=ab)
  (q:∀g' fz b0,ag g<=ag g'->(∀x,x<ag g->x≠b->J x≠ro->g'[x]?=g[x]?)->g'[b]?=J (aO (dy c 5 fz) t2)->(∀tt,gd (dX own ro (0,0)) g v tt->mR (dX own b0 (0,0)) g' fz b0 (acc++[tt]))->(b0=ro\/∃r,b0=J r/\ag g<=r)->cellsL fz=[fz]->one fz=ai->X g'):
  ew 28 1 (Z 28) [(0,6,v)] g λhS h=>Ap 28 6 88 (Z 28) iv hS h λjj h=>Pu (fd 5 (aN b)) h λgT h=>bZ 1 gT jj h λ_ h=>X h:=by
 obtain⟨cs,aF,eS,qW⟩:=cr;have dR:b<ag g:=(cm.1 af).1;have im:ro≠J b:=λe=>AR (dF b e);refine aza aF aD I λfz ct b0 c6 Tt oo aw il zo=>?_;obtain⟨aa,ad⟩:=kJ il;have dz:ct[b]?=J (aO c t2):=by rw[aw.2 b dR (λe=>im e.symm)];exact af
 have bj:fd 5 (aN b)=J (bU (J ⟨b,5,ab⟩)):=by rfl
 rw[bj,bs];refine fx (o:=5) dz I aa ad λbd ar cF=>?_;have Ta:b0≠J b:=by
  grind
 have dq:∀x,x<ag g->x≠b->J x≠ro->bd[x]?=g[x]?:=λx ae Dh Bc=>by
  rw[ar.2 x (cP ae aw.1) (λe=>Dh (en e)),aw.2 x ae Bc]
 have e4:b2 bd fz 6 (cs++bC c6) b0:=il.at λr e=>by
  subst e;exact ar.2 r il.lt (λe=>Ta (by rw[e]))
 refine q bd fz b0 (dH aw.1 ar.1) dq cF (λtt gR=>⟨cs++bC c6,e4,al,λn t aI=>?_⟩) zo aa ad;have wW:∀x,x<ag g->dX own ro (0,0) x=ab->dX own b0 (0,0) x=ab:=λx ae aH=>by
  unfold dX at aH⊢;grind
 have I3:∀x,x<ag g->dX own ro (0,0) x=ab->bd[x]?=g[x]?:=λx ae aH=>by
  unfold dX at aH;grind
 by_cases SZ:n<U acc
 .rw[pV SZ] at aI;have:=(qW n t aI).kF I3 wW;grind
 .have hlen:n=U acc:=by
   grind
  subst hlen;rw[pg (bQ _),pW] at aI;simp only[rq,dg] at aI;subst aI;rw[<-eS,ahu,xg (by simp[oo]),OV,<-Tt];exact gR.kF I3 wW
section
variable{h g ct G:H}{p t i j sd m9 b n t2 o m:Nat}{D:B}{c cs:Array ao}{k R:K}{v:ao}
def arY(bk:b≠p):dy (a3 g p D t i sd) b x=a3 (dy g b x) p D t i sd:=by
 unfold a3;grind
def abA(aJ:p<ag g)(aL:ag g<=ag G)(hM:G[p]?=(a3 g p D t i sd)[p]?):∃g',G=a3 g' p D t i sd/\ag g<=ag g'/\ag g'=ag G/\(∀b,b≠p->g'[b]?=G[b]?)/\g'[p]?=g[p]?:=by
 refine⟨dy G p g[p],?_,al,a1,λb af=>al,al⟩;have Fe:p<ag G:=cP aJ aL;unfold a3;rw[set_set];apply aBD;intro q;rw[D3];by_cases aa:p=q
 .subst aa;rw[aA rfl,aA Fe,hM,qS aJ]
 grind
def u2(af:g[b]?=J (aO c t2))(bk:b≠p)(ay:ag c=n)(aD:kr n v)(q:∀g' cs,v=cA cs->ag cs=n->ones (bC cs)=ai->bV (J b) g g'->g'[b]?=J (aO cs t2)->k undef (a3 g' p D t i sd)):bZ n (aN b) v (a3 g p D t i sd) k:=by
 obtain⟨cs,rfl,eC,aH⟩:=aD;show bZ n (bU (J ⟨b,0,ab⟩)) _ _ k;rw[xv (v:=cA cs) (by rw[g1 bk];exact af) (by simpa[cellsL] using eC) aH I (bt (ed _)),arY bk];have a':b<ag g:=(cm.1 af).1;refine q _ cs rfl eC aH ⟨a1,λx ae k3=>al⟩ ?_;simp only[cellsL];rw[Gc (by simp;omega)];simp[a']
def ans(af:g[b]?=J (aO c t2))(bk:b≠p):cd (bU (J ⟨b,o,ab⟩)) (a3 g p D t i sd) k=Pu c[o]? (a3 g p D t i sd) k:=fs (by rw[g1 bk];exact af)
def uW(af:g[b]?=J (aO c t2))(bk:b≠p)(aL:ag c=n+1):cO (n+1) (aN b) (a3 g p D t i sd) k=k (cA c) (a3 g p D t i sd):=mS (by rw[g1 bk];exact af) aL
def TM(bk:b≠p)(af:b<ag g)(e:aB g ct):wN [(bU (J ⟨b,o,ab⟩),m)] (a3 g p D t i sd) (a3 ct p D t j m9):=by
 refine⟨λi _ v aD=>?_,trivial⟩;have dN:((⟨b,o,ab⟩:Addr).add i).block=b:=by unfold Addr.add;grind
 simp only[rd,dN] at aD⊢;rw[g1 bk] at aD⊢;rw[e.2 b af];exact aD
end
def Ak(res:eW bL)(D:B)(h:H)(p t:Nat)(R:K):Prop:=match res with
 | .ok tt l=>∀aa j v,aB h aa->j<=U D->ax j D=l->gd (old (ag h)) (a3 aa p D t j 0) v tt->R v (a3 aa p D t j 0)
 | .no c=>c≠0->∀aa v,aB h aa->kr 6 v->R v (a3 aa p D t (U D) c)
def Lf(F n:Nat):Prop:=∀{h:H} {p t i:Nat} {D:B} {R:K},jM h->2<=p->p<ag h->U D<=400->U D<F->i<=U D->U D-i<n->Ak (valueF F n (ax i D)) D h p t R->bo 29 [aN p] (a3 h p D t i 0) R
def Yu:Prop:=∀{h:H} {p t sd:Nat} {D:B} {R:K},jM h->2<=p->p<ag h->U D<=400->sd≠0->(∀aa v,aB h aa->kr 6 v->R v (a3 aa p D t (U D) sd))->bo 29 [aN p] (a3 h p D t (U D) sd) R
section
variable{h g ct:H}{p t i j n F:Nat}{D:B}{R K:K}{own a_:cH}{iv:ao}{ro:Option Nat}{acc:List bL}{sd m9:Nat}
def mR.ext(cr:mR own (a3 g p D t i sd) iv ro acc)(kC:own p≠ab)(dF:ro≠J p)(e:aB g ct):mR own (a3 ct p D t j m9) iv ro acc:=by
 have c0:ag (a3 g p D t i sd)=ag g:=dm;obtain⟨cs,aa,ad,an⟩:=cr;have nb:∀b,b<ag (a3 g p D t i sd)->b≠p->(a3 ct p D t j m9)[b]?=(a3 g p D t i sd)[b]?:=λb af bk=>by
  rw[g1 bk,g1 bk];exact e.2 b I
 exact mR.keep ⟨cs,aa,ad,an⟩ (λr aF=>nb r (by subst aF;exact aa.lt) (λe=>dF (by rw[aF,e]))) (λb af aH=>nb b af (λe=>kC al)) λ_ _ aH=>aH
def mR.VO(cr:mR own g iv ro acc)(au:U acc<=20000)(e:∀b,b<ag g->own b=ab->a_ b=ab)(dF:∀r,ro=J r->a_ r=ab):gd a_ g (cA #[bu 8,ah 0,a4 0,S [],bY,iv]) (.mk 8 0 0 [] [] acc):=by
 obtain⟨cs,aa,ad,an⟩:=cr;exact gd.mk (k:=8) (i:=0) (b:=0) (s:=[]) (keys:=[]) KZ ⟨ro,aa,dF⟩ ad al λn t aI=>(an n t aI).kF (λ_ _ _=>rfl) e
def WJ:Bd (Z 28) [(0,1,bu 8)] h K=K (g5 8 0 0 []) h:=by rw[j9];rfl
def ajp(eu:Lf F n)(ar3:Yu)(dn:jM h)(dV:2<=p)(aJ:p<ag h)(aM:U D<=400)(iR:U D<F)(az:i<U D)(aI:U D-i<=n)(q:Ak (arrR (listL (valueF F n) F F [] (ax (i+1) D))) D h p t R):bo 44 [aN p] (a3 h p D t i 0) R:=by
 apply amh;rw[gE,uk aJ,dm];have hM:p<ag (a6 h (.cells (aZ (Z 28)) 28)):=by simp;omega
 refine bG @WJ ?_;rw[uk hM,dm];have wF:ag (a6 h (.cells (aZ (Z 28)) 28))=ag h+1:=a1
 rw[wF];have bP:aB h (a6 (a6 h (.cells (aZ (Z 28)) 28)) (.cells (aZ (Z 28)) 28)):=(aB.push _ _).trans (aB.push _ _);have gJ:ag (aZ (Z 28))=6:=by rw[j9];rfl
 have dz:(a6 (a6 h (.cells (aZ (Z 28)) 28)) (.cells (aZ (Z 28)) 28))[ag h]?=J (.cells (aZ (Z 28)) 28):=rU;have za:(a6 (a6 h (.cells (aZ (Z 28)) 28)) (.cells (aZ (Z 28)) 28))[ag h+1]?=J (.cells (aZ (Z 28)) 28):=al
 have te:ag (a6 (a6 h (.cells (aZ (Z 28)) 28)) (.cells (aZ (Z 28)) 28))=ag h+2:=a1
 generalize a6 (a6 h (.cells (aZ (Z 28)) 28)) (.cells (aZ (Z 28)) 28)=cn at*;refine u2 za I gJ ⟨_,rfl,rfl,rfl⟩ λct cs eC _ _ aw ash=>?_;cases eC;have Sh:ct[ag h]?=J (.cells (aZ (Z 28)) 28):=by rw[aw.2 _ I a1];exact dz
 have yY:aB h ct:=bV.fe bP aw λr aF=>al
 have tf:ag h+2<=ag ct:=al
 have dead:∀g c,c≠0->aB h g->(∃c1:Array ao,g[ag h]?=J (.cells c1 28)/\ag c1=6)->listL (valueF F n) F F [] (ax (i+1) D)=.no c->Bd (Z 28) [] (a3 g p D t (U D) c) λv20 y_=>bZ 6 (aN (ag h)) v20 y_ λ_ wg=>cO 6 (aN (ag h)) wg λgC _=>R gC wg:=by
  rintro g c ay eQ ⟨c1,gH,oo⟩ au;rw[yD];refine u2 gH I oo ⟨_,rfl,rfl,rfl⟩ λbd cs eC mz mb ar cF=>?_;rw[uW cF I mz];rw[au] at q;exact q ay bd _ (bV.fe eQ ar λr aF=>al) ⟨_,rfl,mz,mb⟩
 refine sX (λm ae=>∃g,aB h g/\ag h+2<=ag g/\(∃c1:Array ao,g[ag h]?=J (.cells c1 28)/\ag c1=6)/\((∃j di acc iv ro,ae=a3 g p D t j 0/\i<j/\j<=U D/\U acc<=j/\g[ag h+1]?=J (.cells #[.b 8,.i 0,.u 0,S [],bY,iv] 28)/\mR (dX (old (ag h+2)) ro (0,0)) (a3 g p D t j 0) iv ro acc/\
   (∀r,ro=J r->ag h+2<=r)/\U D-j<di/\listL (valueF F n) F di acc (ax j D)=listL (valueF F n) F F [] (ax (i+1) D)/\m=U D-j+1)\/(∃c,ae=a3 g p D t (U D) c/\c≠0/\listL (valueF F n) F F [] (ax (i+1) D)=.no c/\m=0))) (U D-(i+1)+1)
  ⟨ct,yY,tf,⟨_,Sh,gJ⟩,.inl ⟨i+1,F,[],bY,ab,rfl,I,az,ed _,ash,⟨[],⟨rfl,rfl⟩,rfl,λn t aI=>(by simp at aI)⟩,λr aF=>(by cases aF),I,rfl,rfl⟩⟩ ?_
 rintro m _ ae N ⟨g,eQ,ka,⟨c1,gH,oo⟩,e_⟩ a7;have m1:p<ag g:=I
 rcases e_ with ⟨j,di,acc,iv,ro,rfl,eK,aC,xM,vg,cr,dF,ma,fR,rfl⟩|⟨c,rfl,ay,fR,rfl⟩
 .refine j8 m1 (λ_=>?_) (λe=>absurd rfl e);obtain⟨di,rfl⟩:=tL (I:di≠0);rw[listL] at fR;have kC:∀ro:Option Nat,dX (old (ag h+2)) ro (0,0) p≠ab:=λro=>by
   unfold dX old;grind
  have acN:ro≠J p:=λe=>al
  have app:∀(bd:H) (bc sd:Nat) (v:ao) (X:H->Prop),aB g bd->kr 6 v->(∀cb fz b0,aB h cb->ag h+2<=ag cb->cb[ag h]?=J (.cells c1 28)->cb[ag h+1]?=J (.cells #[.b 8,.i 0,.u 0,S [],bY,fz] 28)->(∀r,b0=J r->ag h+2<=r)->
    (∀tt,gd (old (ag g)) (a3 bd p D t bc sd) v tt->mR (dX (old (ag h+2)) b0 (0,0)) (a3 cb p D t bc sd) fz b0 (acc++[tt]))->X (a3 cb p D t bc sd))->
    ew 28 1 (Z 28) [(0,6,v)] (a3 bd p D t bc sd) λhS we=>Ap 28 6 88 (Z 28) iv hS we λjj CV=>Pu (fd 5 (aN (ag h+1))) CV λgT y8=>bZ 1 gT jj y8 λ_ y9=>X y9:=by
   intro bd bc sd v X ar aD fP;have pD:p<ag bd:=ar.lt m1;have asv:(a3 bd p D t bc sd)[ag h+1]?=J (.cells #[.b 8,.i 0,.u 0,S [],bY,iv] 28):=by rw[g1 I,ar.2 _ I];exact vg
   have qk:=cr.ext (j:=bc) (m9:=sd) (kC ro) acN ar;refine P9 (own:=old (ag h+2)) qk I aD asv rfl (by unfold old;grind) (λr aF=>by unfold old;grind) λG fz b0 aL aq af qW Nb _ _=>?_;rw[dm] at aL;obtain⟨cb,rfl,q1,aEZ,oT,mD⟩:=abA (t:=t) (D:=D) (i:=bc) (sd:=sd) pD aL (aq p al I (λe=>acN e.symm));have eI:∀x,x<ag bd->x≠ag h+1->J x≠ro->cb[x]?=bd[x]?:=λx ae ac5 Bc=>by
    by_cases ac6:x=p
    .grind
    .rw[oT x ac6,aq x (by rw[dm];exact ae) ac5 Bc,g1 ac6]
   have gQ:=ar.1;refine fP cb fz b0 ⟨I,λb af=>?_⟩ I ?_ ?_ ?_ λtt gR=>qW tt ?_
   .rw[eI b I I (λe=>al),ar.2 b I,eQ.2 b af]
   .rw[eI _ I I (λe=>al),ar.2 _ I];exact gH
   .grind
   .grind
   .refine gR.kF (λ_ _ _=>rfl) λb af aH=>?_;have cF:=n8 aH;unfold dX;rw[ak,show old (ag h+2) b=ab by unfold old;grind];intro e;subst e;obtain⟨cs,aF,_⟩:=cr;have:=aF.lt;rw[dm] at this;omega
  have agv:∀(bd:H) (v:ao) (c:Nat),c≠0->aB g bd->kr 6 v->listL (valueF F n) F F [] (ax (i+1) D)=.no c->ew 28 1 (Z 28) [(0,6,v)] (a3 bd p D t (U D) c) λhS we=>Ap 28 6 88 (Z 28) iv hS we λjj CV=>Pu (fd 5 (aN (ag h+1))) CV λgT y8=>bZ 1 gT jj y8 λ_ y9=>bD 62 [aN p] y9 λjH h=>bD 14 [aN p,Value.int IntKind.i64 0] h λmL h=>
    Pu (bn BinOp.eql mL (Value.int IntKind.u8 44)) h λv30 h=>b1 v30 (Pu (fd 1 (aN p)) h λmM h=>cd mM h λlb h=>Pu (bn BinOp.add lb (Value.int IntKind.i64 1)) h λkM h=>Pu (fd 1 (aN p)) h λlH h=>bZ 1 lH kM h λx h=>N h)
    (bD 14 [aN p,Value.int IntKind.i64 0] h λkN h=>Pu (bn BinOp.neq kN (Value.int IntKind.u8 93)) h λkj h=>b1 kj (bD 21 [aN p,Value.int IntKind.i64 1] h λx h=>N h) (N h)):=by
   intro bd v c ay ar aD au;refine app bd (U D) c v _ ar aD λcb fz b0 aS q1 eH _ _ _=>?_;have mD:p<ag cb:=I
   refine ajy mD ay (hn mD aM I ?_);rw[g6 (bQ _)];refine aR ?_;refine hn mD aM I ?_;rw[g6 (bQ _)];refine aR ?_;refine iK (n:=1) mD ?_;rw[ak ay];exact a7 0 _ I ⟨cb,aS,q1,⟨c1,eH,oo⟩,.inr ⟨c,rfl,ay,au,rfl⟩⟩
  have adU:∀(bd:H) (j sd:Nat) (K:ao->H->Prop),aB g bd->cd (.pointer (J ⟨ag h+1,5,ab⟩)) (a3 bd p D t j sd) K=K iv (a3 bd p D t j sd):=λbd j sd K ar=>by
   rw[ans (c:=#[.b 8,.i 0,.u 0,S [],bY,iv]) (t2:=28) (by rw[ar.2 _ I];exact vg) I];rfl
  have C2:fd 5 (aN (ag h+1))=J (.pointer (J ⟨ag h+1,5,ab⟩)):=rfl;rw[gl];refine Xn m1 aM aC (n:=F) I ?_;cases aL:space F (ax j D) with
  |no c=>
   rw[aL] at fR;intro ay v _;refine hn m1 aM I ?_;rw[g6 (bQ _)];refine bG C2 ?_;rw[adU g (U D) c _ (aB.refl _)];refine ar3 (dn.ext eQ) dV m1 aM ay λbd v ar aD=>⟨TM I I ar,?_⟩;exact agv bd v c ay ar aD fR.symm
  |ok u c3=>
   rw[aL] at fR;intro bS n3 fg;subst fg;have IP:=JH aL;simp only[ix] at IP;simp only[eF,tail_drop] at fR;refine hn m1 aM I ?_;refine bG C2 ?_;refine⟨λuj=>?_,λuj=>?_⟩
   .rw[aA uj] at fR;rw[<-fR] at q;have vm:=cu (D:=D) (i:=bS) I;rw[uW (n:=5) vg I rfl];refine u2 gH I oo ⟨_,rfl,rfl,by obtain⟨_,e1,_⟩:=cr;show(ai&&(ai&&(ai&&(ai&&(ai&&(one _&&ai))))))=ai;rw[(kJ e1).2];rfl⟩ λbd cs eC mz mb ar cF=>?_;cases eC;rw[uW cF I mz];refine q bd (bS+1) _ (bV.fe eQ ar λr aF=>al) vm rfl ?_;have qk:mR (dX (old (ag h+2)) ro (0,0)) (a3 bd p D t (bS+1) 0) iv ro acc:=by
     refine cr.keep (λr aF=>?_) (λb af aH=>?_) λ_ _ aH=>aH
     .have e4:=dF r aF;subst aF;obtain⟨_,e1,_⟩:=cr;have:=e1.lt;rw[dm] at this;rw[g1 I,g1 I,ar.2 r this (λe=>al)]
     .have cF:ag h+2<=b:=by
       unfold dX at aH;split at aH
       .cases aH
       .exact n8 aH
      rw[dm] at af;rw[g1 I,g1 I,ar.2 b af (λe=>al)]
    refine qk.VO I (λb _ aH=>?_) λr aF=>?_
    .unfold dX at aH;split at aH
     .cases aH
     .have:=n8 aH;unfold old;grind
    .have:=dF r aF;unfold old;grind
   .rw[ak uj] at fR;rw[adU g bS 0 _ (aB.refl _)];have M':∀res,valueF F n (ax bS D)=res->Ak res D g p t (λji s_=>wN [((.pointer (J ⟨ag h+1,5,ab⟩):ao),1)] (a3 g p D t bS 0) s_/\(λji s_=>ew 28 1 (Z 28) [(0,6,ji)] s_ λhS we=>Ap 28 6 88 (Z 28) iv hS we λjj CV=>Pu (fd 5 (aN (ag h+1))) CV λgT y8=>bZ 1 gT jj y8 λ_ y9=>bD 62 [aN p] y9 λjH h=>bD 14 [aN p,Value.int IntKind.i64 0] h λmL h=>
      Pu (bn BinOp.eql mL (Value.int IntKind.u8 44)) h λv30 h=>b1 v30 (Pu (fd 1 (aN p)) h λmM h=>cd mM h λlb h=>Pu (bn BinOp.add lb (Value.int IntKind.i64 1)) h λkM h=>Pu (fd 1 (aN p)) h λlH h=>bZ 1 lH kM h λx h=>N h)
      (bD 14 [aN p,Value.int IntKind.i64 0] h λkN h=>Pu (bn BinOp.neq kN (Value.int IntKind.u8 93)) h λkj h=>b1 kj (bD 21 [aN p,Value.int IntKind.i64 1] h λx h=>N h) (N h))) ji s_):=by
     intro res M';rw[M'] at fR;cases res with
     |no c=>
      intro ay bd v ar aD;exact⟨TM I I ar,agv bd v c ay ar aD fR.symm⟩
     |ok tt dA=>
      have hlen:=Kk n _ _ _ M';intro bd bc v ar ij fF gR;subst fF;simp only[ix] at hlen;refine⟨TM I I ar,?_⟩;refine app bd bc 0 v _ ar gR.oi λcb fz b0 aS q1 eH abG Nb qW=>?_;have mD:p<ag cb:=I
      have arJ:=qW tt gR;refine Xn mD aM ij (n:=F) I ?_;cases gQ:space F (ax bc D) with
      |no c=>
       simp only[gQ] at fR;intro ay v _;refine hn mD aM I ?_;rw[g6 (bQ _)];refine aR ?_;refine hn mD aM I ?_;rw[g6 (bQ _)];refine aR ?_;refine iK (n:=1) mD ?_;rw[ak ay];exact a7 0 _ I ⟨cb,aS,q1,⟨c1,eH,oo⟩,.inr ⟨c,rfl,ay,fR.symm,rfl⟩⟩
      |ok u jX=>
       simp only[gQ] at fR;have auV:=JH gQ;intro eL wv mB;subst mB;simp only[ix] at auV;simp only[eF,tail_drop] at fR;have aes:∀vy,mR (dX (old (ag h+2)) b0 (0,0)) (a3 cb p D t vy 0) fz b0 (acc++[tt]):=λvy=>arJ.ext (kC b0) (λe=>al) (aB.refl _);have jS:U (acc++[tt])<=eL:=by simp;omega
       refine hn mD aM I ?_;refine aR ?_;refine⟨λmw=>?_,λmw=>?_⟩
       .rw[aA mw] at fR;have xU:=cu (D:=D) (i:=eL) I;exact a7 (U D-(eL+1)+1) _ I ⟨cb,aS,q1,⟨c1,eH,oo⟩,.inl ⟨eL+1,di,_,fz,b0,rfl,I,xU,I,abG,aes _,Nb,I,fR,rfl⟩⟩
       .rw[ak mw] at fR;refine hn mD aM I ?_;refine aR ?_;refine⟨λuj=>?_,λuj=>?_⟩
        .rw[aA uj] at fR;refine iK (n:=1) mD ?_;rw[aA rfl];exact a7 0 _ I ⟨cb,aS,q1,⟨c1,eH,oo⟩,.inr ⟨1,rfl,aE,fR.symm,rfl⟩⟩
        .rw[ak I] at fR;exact a7 (U D-eL+1) _ I ⟨cb,aS,q1,⟨c1,eH,oo⟩,.inl ⟨eL,di,_,fz,b0,rfl,I,wv,jS,abG,aes _,Nb,I,fR,rfl⟩⟩
    exact eu (dn.ext eQ) dV m1 aM iR n3 I (M' _ rfl)
 .refine j8 m1 (λe=>absurd e ay) λ_=>?_;rw[ga];grind
end
def Mo:bn hf (S a) (S k)=J (aQ (wa a k)):=by simp only[bn,S,wa,aBH]
section
variable{h:H}{K:K}{v x:ao}{sz t by_ n len at_ b o m:Nat}{z L cx:List ao}{ro:Option Nat}
def ahM{old new:Array ao}{k:F.K}(ae:lenV x=J n)(aI:0<n)(m0:shown h sz n x=J new)(aH:ones (bC new)=ai)(A7:ag new=n*sz)(hold:shown h sz len (a5 base len len)=J old)(wB:ag old=len*sz)(e0:(len+n)*by_<=1099511627776)(aV:U z=sz)
  (q:∀ch h',aB h h'->b2 h' ch sz (bC old++bC new) (J (ag h))->k ch h'):Ap t sz by_ z (a5 base len len) x h k:=by
 simp only[Ap,ae,m0,hold];refine⟨aH,A7,?_⟩;rw[ak I];refine⟨wB,e0,λc ay _=>q _ _ (aB.push _ _) ⟨len+n,c,_,t,rfl,dS _ _,ay,?_,?_,?_⟩⟩
 .simp only[Array.size_append,wB,A7,D7,tC,aV];rw[<-zY,<-zY];grind
 .grind
 grind
def aym:∀{l z:List ao},U z=U l->putL z 0 l=l:=by
 intro l;induction l with
 |nil=>intro z aV;rw[vF aV];rfl
 |cons a l bR=>
  intro z aV;cases z with
  |nil=>cases aV
  |cons b z=>rw[putL,bR al]
def D'(aV:U z=sz)(ot:cellsL x=cx)(eS:U cx=sz):ew t 1 z [(0,sz,x)] h k=k (a5 (J ⟨ag h,0,ab⟩) 1 1) (a6 h (aO (aZ cx) t)):=by
 have aa:repL 1 z=z:=by simp[repL]
 have ad:putL z 0 cx=cx:=aym I;have an:Nat.ble sz sz=ai:=Nat.ble_eq_true_of_le (bQ _);simp only[ew,fillL,ot,eS,aa,aV,ad];simp[an]
def Hc{r k:Nat}:((⟨r,0,ab⟩:Addr).add k).block=r/\((⟨r,0,ab⟩:Addr).add k).off=k/\((⟨r,0,ab⟩:Addr).add k).spot=ab:=by
 unfold Addr.add;grind
def b2.Vu(aF:b2 h v sz L (J r)):∃len new,lenV v=J len/\U L=len*sz/\shown h sz len v=J new/\bC new=L/\ag new=len*sz:=by
 obtain⟨len,cap,c,t,rfl,af,rJ,eC,au,hD⟩:=aF;have hle:len*sz<=ag c:=al
 refine⟨len,c.extract 0 (len*sz),rfl,au,?_,?_,by simp;omega⟩
 .simp only[shown,af];grind
 simp_all
def agp(aF:b2 h v sz L ro)(hD:U L=len*sz)(xN:at_<=len)(c0:0<sz)(aV:U z=sz)(ot:cellsL x=cx)(eS:U cx=sz)(mb:ones cx=ai)(at7:ones L=ai)(e0:(U L+sz)*by_<=1099511627776):
  ∃mh jk,sl sz v ab (J (ah (at_:Int))) (J (ah (at_:Int)))=J mh/\sl sz v (J (ah (at_:Int))) ab ab=J jk/\
   ∀(aa:H) (K:F.K),aB h aa->b<ag aa->(∀ch h' cC,aB aa h'->ag aa<=cC->b2 h' ch sz (bf (at_*sz) L++(cx++ax (at_*sz) L)) (J cC)->K ch h')->
    ew t 1 z [(0,sz,x)] aa λy g=>yB t sz by_ z y jk [(bU (J ⟨b,o,ab⟩),m)] g λw g=>Ap t sz by_ z mh w g K:=by
 have FE:∀{a b:List ao},ones (a++b)=(ones a&&ones b):=by
  intro a b;induction a with
  |nil=>rfl
  |cons x a bR=>simp only[uM,ones,bR,Wj]
 have n2:ones (ax (at_*sz) L)=ai:=by
  have:=at7;rw[<-O4 (at_*sz) L,FE,pf] at this;exact this.2
 have gn:U (ax (at_*sz) L)=(len-at_)*sz:=by rw[ix,hD,Nat.sub_mul]
 have key:∀Qg Qh (EM:Nat),(∀aa,(∀r,ro=J r->aa[r]?=h[r]?)->(∃UG,shown aa sz at_ (a5 Qg at_ at_)=J UG/\bC UG=bf (at_*sz) L)/\∃NV,shown aa sz (len-at_) (a5 Qh (len-at_) EM)=J NV/\bC NV=ax (at_*sz) L)->
   ∀aa K,aB h aa->b<ag aa->(∀ch h' cC,aB aa h'->ag aa<=cC->b2 h' ch sz (bf (at_*sz) L++(cx++ax (at_*sz) L)) (J cC)->K ch h')->
    ew t 1 z [(0,sz,x)] aa λy g=>yB t sz by_ z y (a5 Qh (len-at_) EM) [(bU (J ⟨b,o,ab⟩),m)] g λw g=>Ap t sz by_ z (a5 Qg at_ at_) w g K:=by
  intro Qg Qh EM qp aa K e af q;rw[D' aV ot eS];have dF:∀r,ro=J r->r<ag aa:=λr er=>by subst er;exact cP aF.lt e.1
  have ar:aB aa (a6 aa (aO (aZ cx) t)):=aB.push _ _;obtain⟨_,NV,atQ,atS⟩:=qp (a6 aa (aO (aZ cx) t)) (λr er=>by rw[ar.2 r (dF r er)];subst er;exact e.2 r aF.lt);have auA:b2 (a6 aa (aO (aZ cx) t)) (a5 (J ⟨ag aa,0,ab⟩) 1 1) sz cx (J (ag aa)):=⟨1,1,aZ cx,t,rfl,dS _ _,bQ _,by simp[eS],I,a1⟩;unfold yB;refine b2.append (n:=len-at_) (new:=NV) (M:=ax (at_*sz) L) auA c0 aV rfl atQ atS n2 gn (dH (jx _ al) e0) λw g b0 aS FJ Nb=>?_;refine⟨⟨λi _ v aD=>?_,trivial⟩,?_⟩
  .have Sk:((⟨b,o,ab⟩:Addr).add i).block=b:=by unfold Addr.add;grind
   simp only[rd,Sk] at aD⊢;rw[aS.2 b (by simp;omega) (λe=>al)];exact aD
  .have q1:ag aa+1<=ag g:=by have:=aS.1;grind
   have oN:aB aa g:=⟨I,λy a2=>by rw[aS.2 y (by simp;omega) (λe=>al),ar.2 y a2]⟩;obtain⟨⟨UG,at1,acy⟩,_⟩:=qp g (λr er=>by rw[oN.2 r (dF r er)];subst er;exact e.2 r aF.lt);obtain⟨cC,apR⟩:∃cC,b0=J cC:=al
   subst apR;obtain⟨FV,new,fg,fF,mB,A5,mY⟩:=FJ.Vu;have Is:FV*sz=(1+(len-at_))*sz:=al
   have atA:FV=1+(len-at_):=GB c0 Is;refine ahM fg I mB al mY at1 ?_ ?_ aV λch h' bl vr=>?_
   .rw[<-Kv,acy,yv,hD];simp_all
   .refine dH (jx _ ?_) e0;rw[hD,atA];have aw:at_+(1+(len-at_))=len+1:=I
    rw[aw];have:=vG (len+1) c0;grind
   .rw[acy,A5] at vr;exact q ch h' _ (oN.trans bl) oN.1 vr
 have VT:∀y d:Nat,at_<=y->ub y (J (ah at_)) d=J at_:=λy d a2=>by simp[ub];omega
 cases ro with
 |none=>
  obtain⟨rfl,rfl⟩:=aF;have h_:len=0:=by
   rcases zZ len with aW|aW
   .exact aW
   .have:=iI aW c0;grind
  subst h_;have ar6:at_=0:=I
  subst ar6;exact⟨a5 ab 0 0,a5 ab 0 0,by simp[sl,ub],by simp[sl,ub],key ab ab 0 λaa _=>⟨⟨#[],rfl,a1⟩,⟨#[],rfl,a1⟩⟩⟩
 |some r=>
  obtain⟨vB,cap,c,tt,rfl,af,rJ,eC,au,abv⟩:=aF;have fg:vB=len:=GB c0 I;subst fg;have gH:vB*sz<=ag c:=al
  have j':at_*sz<=vB*sz:=jx _ xN;have abw:bf (vB*sz) (bC c)=L:=al
  have afU:sl sz (a5 (J ⟨r,0,ab⟩) vB cap) ab (J (ah at_)) (J (ah at_))=J (a5 (if at_=0 then J ⟨r,0,ab⟩ else J ((⟨r,0,ab⟩:Addr).add (0*sz))) at_ at_):=by
   simp only[sl,VT cap _ I,VT at_ _ (bQ _)];simp[ub]
  have afV:sl sz (a5 (J ⟨r,0,ab⟩) vB cap) (J (ah at_)) ab ab=J (a5 (if cap=at_ then J ⟨r,0,ab⟩ else J ((⟨r,0,ab⟩:Addr).add (at_*sz))) (vB-at_) (cap-at_)):=by
   have aa:ub cap ab cap=J cap:=rfl;have ad:ub cap ab vB=J vB:=rfl;simp only[sl,aa,ad,VT vB _ xN,jl]
  have ayr:∃a,(if at_=0 then J (⟨r,0,ab⟩:Addr) else J ((⟨r,0,ab⟩:Addr).add (0*sz)))=J a/\a.block=r/\a.off=0/\a.spot=ab:=by
   split
   .grind
   .have:=@Hc r (0*sz);grind
  have ays:∃a,(if cap=at_ then J (⟨r,0,ab⟩:Addr) else J ((⟨r,0,ab⟩:Addr).add (at_*sz)))=J a/\a.block=r/\(a.off=at_*sz\/(vB=at_/\a.off=0))/\a.spot=ab:=by
   split
   .grind
   .have:=@Hc r (at_*sz);grind
  obtain⟨aob,ar9,hW,um,Sd⟩:=ayr;obtain⟨aoc,asa,dz,cF,eH⟩:=ays;rw[ar9] at afU;rw[asa] at afV;refine⟨_,_,afU,afV,key (J aob) (J aoc) (cap-at_) λaa bO=>⟨⟨c.extract 0 (at_*sz),?_,?_⟩,?_⟩⟩
  .simp only[shown,hW,bO r rfl,af,um,Sd];grind
  .rw[aBF,List.extract_eq_drop_take,<-abw,Wu,yy j'];simp
  .rcases cF with cF|⟨atC,cF⟩
   .refine⟨c.extract (at_*sz) (at_*sz+(vB-at_)*sz),?_,?_⟩
    .simp only[shown,dz,bO r rfl,af,cF,eH];rw[aA ⟨trivial,al⟩]
    .rw[aBF,List.extract_eq_drop_take,<-abw,BW];grind
   .refine⟨#[],?_,?_⟩
    .subst atC;simp only[shown,dz,bO r rfl,af,cF,eH,pW,pY];grind
    grind
end
def fa.Nv(aY:fa h aj M bJ own)(e:aB h h')(o:dL own a_ (ag h))(aG:∀b x,a_ b=J x->b<ag h'):fa h' aj M bJ a_:=
 ⟨aY.tv,aY.jC,aG,λj bB aC=>(aY.node j bB aC).keep (id:=U aj) al ⟨e.1,λb af _=>e.2 b af⟩ o aY.dv (aY.ids aC) (λ_ _=>rfl),aY.kids,aY.nM,aY.small⟩
def chunks{Q:List ao->bL->Prop}{cs c6:List ao}{fi:List bL}{tt:bL}(ay:U cs=6*U fi)(cB:U c6=6)(bE:a<=U fi)(l':∀n t,fi[n]?=J t->Q (bf 6 (ax (6*n) cs)) t)(eR:Q c6 tt):
  U (bf (a*6) cs++(c6++ax (a*6) cs))=6*U (bf a fi++tt::ax a fi)/\∀n t,(bf a fi++tt::ax a fi)[n]?=J t->Q (bf 6 (ax (6*n) (bf (a*6) cs++(c6++ax (a*6) cs)))) t:=by
 have aP:U (bf (a*6) cs)=a*6:=al
 have qW:U (bf a fi)=a:=al
 refine⟨al,λn t aI=>?_⟩;by_cases aa:n<a
 .rw[pV I,D6,aA aa] at aI;have:=l' n t aI;have au:=(fk.1 aI).1;rw[aBL I,ahD al,BW,Wu,yy I];exact this
 .by_cases ad:n=a
  .grind
  .obtain⟨m,rfl⟩:∃m,n=a+1+m:=⟨n-(a+1),I⟩;rw[pg I,qW,(I:a+1+m-a=m+1),uN,KA] at aI;have:=l' _ t aI;rw[Kx,iu I,aP,sS,Kx,iu I,sS,tI,(I:a*6+(6*(a+1+m)-a*6-U c6)=6*(a+m))];exact this
def ahV{K:K}:Bd (Z 28) [(0,1,bu 9)] h K=K (g5 9 0 0 []) h:=by rw[j9];rfl
def K1(own:cH)(G:H)(iv:ao)(fi:List bL):Prop:=∃(cs:List ao) (ro:Option Nat),b2 G iv 6 cs ro/\(∀r,ro=J r->own r=ab)/\ones cs=ai/\U cs=6*U fi/\∀n t,fi[n]?=J t->gd own G (cA (aZ (bf 6 (ax (6*n) cs)))) t
def K1.keep(d:K1 own G iv fi)(k:∀b,b<ag G->own b=ab->fJ[b]?=G[b]?):K1 own fJ iv fi:=by
 obtain⟨cs,ro,aa,ad,an,aT,bN⟩:=d;exact⟨cs,ro,aa.at λr er=>by subst er;exact k r aa.lt (ad r rfl),ad,an,aT,λn t aI=>(bN n t aI).kF k λ_ _ aH=>aH⟩
def avG{G:H}{b j:Nat}{ke:ao}{c:Array ao}{t2:Nat}{key:B}{ro:Option Nat}{X Y:H->Prop}(af:G[b]?=J (aO c t2))(ay:c[4]?=J ke)(aF:b2 G ke 1 ((acc.map Prod.fst).map S) ro)(aC:j<=U acc)(au:U acc<=10000)
  (aa:∀bI,j=bI+1->insPos key acc j=insPos key acc bI->X G) (ad:insPos key acc j=j->Y G):Pu (bn hf (ah (j:Int)) (ah 0)) G λiH h=>a0 iH ai (Pu (fd 4 (aN b))) h λkO h=>a0 iH ai (cd kO) h λnQ h=>a0 iH ai (λh k=>k (ah (j:Int)) h) h λn' h=>a0 iH ai (Pu (bn .sub n' (ah 1))) h λnd h=>a0 iH ai (Pu (ia 1 nQ nd)) h λkk h=>a0 iH ai (cd kk) h λnf h=>a0 iH ai (λh k=>k (S key) h) h λmf h=>a0 iH ai (Pu (bn hf nf mf)) h λmg h=>Pu (pk iH mg (aQ av)) h λng h=>b1 ng (X h) (Y h):=by
 obtain⟨_,gj⟩:=j1 aF;have tc:fd 4 (aN b)=J (bU (J ⟨b,4,ab⟩)):=rfl;cases j with
 |zero=>
  have xe:bn hf (ah (0:Nat)) (ah 0)=J (aQ av):=rfl;refine bG xe ?_;exact ad rfl
 |succ j=>
  have a':j<U acc:=I
  obtain⟨bx,hW,mW⟩:=gj j (S acc[j].1) al;have es:bn .sub (ah (j+1:Nat)) (ah 1)=J (ah j):=m' (a:=j+1) (b:=1) I I;have fC:bn hf (ah (j+1:Nat)) (ah 0)=J (aQ ai):=by
   simp only[bn];simp_all
  have ly:insPos key acc (j+1)=if wa acc[j].1 key then insPos key acc j else j+1:=by rw[insPos,h5 a'];rfl
  rw[fC];refine xb tc (c4 af) ay es hW mW @Mo @Mo ?_;cases aX:wa acc[j].1 key with
  |true=>
   refine aR ?_;grind
  |false=>
   refine aR ?_;grind
def W':∀(n:Nat) {g:H} {R:K} {aj:List (bW bL)} {M bJ:List Nat} {own:cH} {id:Nat},fa g aj M bJ own->id<U aj->U aj<=5000->U aj-id<=n->(∀g' v,aB g g'->gd own g' v (tomlS aj n id)->R v g')->bo 19 [aN (bJ.getD id 0)] g R:=by
 intro n;induction n with
 |zero=>omega
 |succ n bR=>
  intro g R aj M bJ own id aY da c0 aI q;apply alE;rw[gE];have bP:aB g (a6 g (aO (aZ (Z 28)) 28)):=aB.push _ _;obtain⟨bB,nG⟩:∃bB,aj[id]?=J bB:=⟨_,h5 da⟩;have FC:=aY.node id bB nG;have dR:bJ.getD id 0<ag g:=aY.dv _ _ FC.own;rw[tomlS,nG] at q;have gJ:ag (aZ (Z 28))=6:=by rw[j9];rfl
  cases bB with
  |val tt=>
   obtain⟨_,c1,c2,cy,dQ,eX,c6,af,gR⟩:=FC;have cF:=bP.2 _ dR;rw[af] at cF;refine bG (c4 cF) ?_;rw[yL (n:=5) cF a1];obtain⟨cs,eC,cB,aH⟩:=gR.oi;cases eC;refine s0 (n:=5) (k:=λh v _=>R v h) mK gJ rfl aH λh' aw=>q h' _ (bV.fe bP aw λr aF=>al) ?_;have ar:aB g h':=bV.fe bP aw λr aF=>al
   exact gR.kF (λb af _=>ar.2 b af) λ_ _ aH=>aH
  |arr l=>
   obtain⟨_,c1,c2,cy,dQ,eX,c6,pL,rt,af,e1,acP⟩:=FC;have cF:=bP.2 _ dR;rw[af] at cF;have ov:=aY.small id _ nG;simp only[m5] at ov;refine dG (c4 cF) @WJ ?_;unfold g5;rw[h7 (n:=6) gJ rfl rfl];have wF:ag (a6 g (aO (aZ (Z 28)) 28))=ag g+1:=a1
   have aw:aB g (a6 (a6 g (aO (aZ (Z 28)) 28)) (aO #[bu (8:Nat),ah 0,a4 (0:Nat),S [],a5 ab 0 0,a5 ab 0 0] 28)):=bP.trans (aB.push _ _);have kb:(a6 (a6 g (aO (aZ (Z 28)) 28)) (aO #[bu (8:Nat),ah 0,a4 (0:Nat),S [],a5 ab 0 0,a5 ab 0 0] 28))[ag g]?=J (aO (aZ (Z 28)) 28):=rU;have De:(a6 (a6 g (aO (aZ (Z 28)) 28)) (aO #[bu (8:Nat),ah 0,a4 (0:Nat),S [],a5 ab 0 0,a5 ab 0 0] 28))[ag g+1]?=J (aO #[bu (8:Nat),ah 0,a4 (0:Nat),S [],a5 ab 0 0,a5 ab 0 0] 28):=by rw[<-wF];exact mK
   have te:ag (a6 (a6 g (aO (aZ (Z 28)) 28)) (aO #[bu (8:Nat),ah 0,a4 (0:Nat),S [],a5 ab 0 0,a5 ab 0 0] 28))=ag g+2:=a1
   rw[wF];generalize a6 (a6 g (aO (aZ (Z 28)) 28)) (aO #[bu (8:Nat),ah 0,a4 (0:Nat),S [],a5 ab 0 0,a5 ab 0 0] 28)=ct at*;have eH:ct[bJ.getD id 0]?=_:=(aw.2 _ dR).trans af;obtain⟨mC,_⟩:=j1 e1;rw[oE] at mC;have C2:fd 5 (aN (ag g+1))=J (bU (J ⟨ag g+1,5,ab⟩)):=rfl;refine dG (c4 eH) mC ?_;let lD:cH:=λb=>if b=ag g\/b=ag g+1 then J (1000001,0) else own b
   have vq:dL own lD (ag g):=λb af=>al
   have asM:∀b x,lD b=J x->b<ag g+2:=λb x aH=>by
    change (if _ then _ else _)=_ at aH;split at aH
    .omega
    .have:=aY.dv b x aH;omega
   have MY:∀b,lD b=ab->own b=ab:=λb aH=>by
    grind
   refine eV (λm v ae=>∃(G:H) (k:Nat) (iv:ao) (ro:Option Nat),v=ah k/\k<=U l/\ae=G/\aB g G/\ag g+2<=ag G/\(∃c1,G[ag g]?=J (aO c1 28)/\ag c1=6)/\G[ag g+1]?=J (aO #[bu 8,ah 0,a4 0,S [],bY,iv] 28)/\
    mR (dX lD ro (0,0)) G iv ro ((bf k l).map (tomlS aj n))/\(∀r,ro=J r->ag g+2<=r)/\m=U l-k) (U l) ⟨ct,0,bY,ab,rfl,ed _,rfl,aw,I,⟨_,kb,gJ⟩,De,⟨[],⟨rfl,rfl⟩,rfl,λn t aI=>(by simp at aI)⟩,λr aF=>(by cases aF),rfl⟩ ?_
   rintro m _ v G N ⟨_,k,iv,ro,rfl,aq,rfl,nv,Mx,⟨xB,sr,wi⟩,qj,cr,dF,rfl⟩ a7;have C':b2 G pL 1 (l.map λi=>aN (bJ.getD i 0)) rt:=e1.at λr er=>by subst er;exact nv.2 r e1.lt
   obtain⟨_,gj⟩:=j1 C';by_cases a':k<U l
   .obtain⟨bx,hW,mW⟩:=gj k (aN (bJ.getD l[k] 0)) al;have acg:=aY.nM id l l[k] nG (zW a');have lA:l[k]<U aj:=al
    refine i_ hW mW C2 (c4 qj) ?_;have Tf:∀r,ro=J r->r<ag G:=λr aF=>by subst aF;obtain⟨_,aa,_⟩:=cr;exact aa.lt
    have ar0:fa G aj M bJ (dX lD ro (0,0)):=by
     refine aY.Nv nv (λb af=>?_) λb x aH=>?_
     .unfold dX;grind
     .unfold dX at aH;grind
    refine bR (R:=λv h'=>aB G h'/\_) ar0 lA c0 I λg' v c' gR=>⟨c',?_⟩;have sj:=nv.trans c';have FL:=c'.1;refine P9 (own:=lD) (b:=ag g+1) (cr.keep (a_:=dX lD ro (0,0)) (λr aF=>c'.2 r (Tf r aF)) (λb af _=>c'.2 b af) λ_ _ aH=>aH) al gR.oi ((c'.2 _ I).trans qj) rfl al (λr aF=>by
     have:=dF r aF;cases aH:lD r with
     |none=>rfl
     |some x=>grind) λpq fz b0 gQ ik cF Iq q0 _ _=>?_
    have Td:∀r,b0=J r->ag g+2<=r:=λr aF=>by
     grind
    try refine aR ?_
    refine a7 (U l-(k+1)) _ _ I ⟨pq,k+1,fz,b0,rfl,a',rfl,⟨I,λb af=>?_⟩,I,⟨xB,?_,wi⟩,cF,?_,Td,rfl⟩
    .rw[ik b I I (λe=>al)];exact sj.2 b af
    .rw[ik _ I I (λe=>al),c'.2 _ I];exact sr
    .have:=Iq _ gR;rw[Wt a',rr];exact this
   .have lA:k=U l:=I
    refine aR ?_;rw[mS (n:=5) qj rfl];refine s0 (n:=5) (k:=λh v _=>R v h) sr wi rfl (by obtain⟨_,aa,_⟩:=cr;show(ai&&(ai&&(ai&&(ai&&(ai&&(one _&&ai))))))=ai;rw[(kJ aa).2];rfl) λh' ar=>q h' _ (bV.fe nv ar λr aF=>al) ?_;have qk:mR (dX lD ro (0,0)) h' iv ro ((bf k l).map (tomlS aj n)):=by
     refine cr.keep (λr aF=>?_) (λb af aH=>?_) λ_ _ aH=>aH
     .have:=dF r aF;subst aF;obtain⟨_,aa,_⟩:=cr;exact ar.2 r aa.lt (λe=>al)
     .refine ar.2 b af λe=>?_;cases e;unfold dX at aH;grind
    rw[lA,O5] at qk;refine qk.VO (by simp;omega) (λb _ aH=>?_) λr aF=>?_
    .unfold dX at aH;grind
    .have:=dF r aF;cases aH:own r with
     |none=>rfl
     |some x=>grind
  |bX kv=>
   obtain⟨_,c1,c2,cy,dQ,eX,c6,cL,qB,rV,rx,af,IL,Na,acO,aEY⟩:=FC;have cF:=bP.2 _ dR;rw[af] at cF;have ov:=aY.small id _ nG;simp only[m5] at ov;refine dG (c4 cF) @ahV ?_;unfold g5;rw[h7 (n:=6) gJ rfl rfl];have wF:ag (a6 g (aO (aZ (Z 28)) 28))=ag g+1:=a1
   have aw:aB g (a6 (a6 g (aO (aZ (Z 28)) 28)) (aO #[bu (9:Nat),ah 0,a4 (0:Nat),S [],a5 ab 0 0,a5 ab 0 0] 28)):=bP.trans (aB.push _ _);have kb:(a6 (a6 g (aO (aZ (Z 28)) 28)) (aO #[bu (9:Nat),ah 0,a4 (0:Nat),S [],a5 ab 0 0,a5 ab 0 0] 28))[ag g]?=J (aO (aZ (Z 28)) 28):=rU;have De:(a6 (a6 g (aO (aZ (Z 28)) 28)) (aO #[bu (9:Nat),ah 0,a4 (0:Nat),S [],a5 ab 0 0,a5 ab 0 0] 28))[ag g+1]?=J (aO #[bu (9:Nat),ah 0,a4 (0:Nat),S [],a5 ab 0 0,a5 ab 0 0] 28):=by rw[<-wF];exact mK
   have te:ag (a6 (a6 g (aO (aZ (Z 28)) 28)) (aO #[bu (9:Nat),ah 0,a4 (0:Nat),S [],a5 ab 0 0,a5 ab 0 0] 28))=ag g+2:=a1
   rw[wF];generalize a6 (a6 g (aO (aZ (Z 28)) 28)) (aO #[bu (9:Nat),ah 0,a4 (0:Nat),S [],a5 ab 0 0,a5 ab 0 0] 28)=ct at*;have eH:ct[bJ.getD id 0]?=_:=(aw.2 _ dR).trans af;obtain⟨Fx,_⟩:=j1 IL;rw[oE] at Fx;have tc:fd 4 (aN (ag g+1))=J (bU (J ⟨ag g+1,4,ab⟩)):=rfl;have zf:fd 5 (aN (ag g+1))=J (bU (J ⟨ag g+1,5,ab⟩)):=rfl;refine dG (c4 eH) Fx ?_;let lD:cH:=λb=>if b=ag g\/b=ag g+1 then J (1000001,0) else own b
   have vq:dL own lD (ag g):=λb af=>al
   have asM:∀b x,lD b=J x->b<ag g+2:=λb x aH=>by
    change (if _ then _ else _)=_ at aH;split at aH
    .omega
    .have:=aY.dv b x aH;omega
   have MY:∀b,lD b=ab->own b=ab:=λb aH=>by
    grind
   have S4:lD (ag g+1)≠ab:=al
   have aER:lD (ag g)≠ab:=al
   have aEj:∀r,ag g+2<=r->lD r=ab:=λr aF=>by
    cases aH:lD r with
    |none=>rfl
    |some x=>grind
   let y3:B×Nat->B×bL:=λx=>(x.1,tomlS aj n x.2)
   refine eV (λm v ae=>∃(k:Nat) (ke k5:ao) (acc:List (B×bL)),v=ah k/\k<=U kv/\aB g ae/\ag g+2<=ag ae/\(∃c1,ae[ag g]?=J (aO c1 28)/\ag c1=6)/\ae[ag g+1]?=J (aO #[bu 9,ah 0,a4 0,S [],ke,k5] 28)/\
    sV lD ae ke 1 ((acc.map Prod.fst).map S)/\K1 lD ae k5 (acc.map Prod.snd)/\acc=((bf k kv).map y3).foldl kD []/\U acc=k/\m=U kv-k) (U kv) ⟨0,bY,bY,[],rfl,ed _,aw,I,⟨_,kb,gJ⟩,De,KZ,⟨[],ab,⟨rfl,rfl⟩,λr aF=>(by cases aF),rfl,rfl,λn t aI=>(by simp at aI)⟩,rfl,rfl,rfl⟩ ?_
   rintro m _ v G N ⟨k,ke,k5,acc,rfl,aq,nv,Mx,⟨xB,sr,wi⟩,qj,ab3,qW,xM,jS,rfl⟩ a7;have auM:b2 G cL 1 (kv.map λx=>S x.1) rV:=IL.at λr er=>by subst er;exact nv.2 r IL.lt
   obtain⟨_,TX⟩:=j1 auM;by_cases a':k<U kv
   .obtain⟨bx,hW,mW⟩:=TX k (S kv[k].1) al;obtain⟨afz,C_,Tc⟩:=ab3;obtain⟨It,_⟩:=j1 C_;rw[oE,oE] at It;have acg:=aY.kids id kv kv[k] nG (zW a');refine vE hW mW tc (c4 qj) It ?_;refine eV (λm v ae=>∃j:Nat,v=ah j/\j<=U acc/\G=ae/\insPos kv[k].1 acc j=insPos kv[k].1 acc (U acc)/\m=j) (U acc) ⟨U acc,rfl,bQ _,rfl,rfl,rfl⟩ ?_;rintro j _ v ae Af ⟨_,rfl,aC,rfl,zi,rfl⟩ rD;refine avG qj rfl C_ aC I (λbI g8 ly=>?_) λly=>?_
    .subst g8;refine aR ?_;exact rD bI _ _ I ⟨bI,rfl,I,rfl,I,rfl⟩
    .obtain⟨cs,Ju,sC,Tb,FE,eS,xP⟩:=qW;rw[oE] at eS;have hV:ones ((acc.map Prod.fst).map S)=ai:=by
      induction (acc.map Prod.fst) with
      |nil=>rfl
      |cons a l avz=>exact avz
     obtain⟨mh,jk,s8,hq,asy⟩:=agp (b:=ag g+1) (o:=4) (m:=1) (t:=9) (by_:=16) (z:=Z 9) (x:=S kv[k].1) (cx:=[S kv[k].1]) C_ (len:=U acc) (at_:=j) a1 aC aE (by rw[tR];rfl) rfl rfl rfl hV (by simp;omega);have acU:=λ{fJ:H} (sC:b2 fJ k5 6 cs Ju) x cx (aa:cellsL x=cx) (ad:U cx=6) (an:ones cx=ai)=>agp (b:=ag g+1) (o:=5) (m:=1) (t:=28) (by_:=88) (z:=Z 28) (x:=x) (cx:=cx) sC (len:=U acc) (at_:=j) I aC aE I aa ad an FE I;obtain⟨aGS,aGT,adw,adx,_⟩:=acU sC (g5 0 0 0 []) _ rfl rfl rfl;rw[ly] at zi;have A1:ag g+1<ag G:=I
     refine i_ tc (c4 qj) s8 hq ?_;refine asy G _ (aB.refl _) A1 λch uU cC aw fh x3=>?_;try rw[tc,bs]
     have arG:=(aw.2 _ A1).trans qj;obtain⟨kb,oX⟩:=kJ x3;refine fx (o:=4) arG a1 kb oX λpq ar R3=>?_;change pq[ag g+1]?=J (aO #[bu 9,ah 0,a4 0,S [],ch,k5] 28) at R3;have aGz:=aw.1;have DD:=ar.1;have cj:∀b,b<ag G->b≠ag g+1->pq[b]?=G[b]?:=λb af bk=>by rw[ar.2 b I (λe=>bk (en e)),aw.2 b af]
     have EY:aB g pq:=⟨I,λb af=>by rw[cj b I I];exact nv.2 b af⟩;have rG:pq[bJ.getD id 0]?=_:=(EY.2 _ dR).trans af;have auN:b2 pq qB 1 (kv.map λx=>aN (bJ.getD x.2 0)) rx:=acO.at λr er=>by subst er;exact EY.2 r acO.lt
     obtain⟨_,awh⟩:=j1 auN;obtain⟨bH,um,g0⟩:=awh k (aN (bJ.getD kv[k].2 0)) al;refine xb zf (c4 R3) (c4 rG) adw adx um g0 g0 ?_;refine bR (R:=λv h'=>aB pq h'/\_) (aY.Nv EY vq λb x aH=>al) acg.2 c0 I λp6 v aS gR=>⟨aS,?_⟩;have afT:=aS.1;obtain⟨c6,rfl,oo,at6⟩:=gR.oi;have auE:b2 pq k5 6 cs Ju:=sC.at λr er=>by subst er;exact cj r sC.lt (λe=>S4 al)
     obtain⟨aGX,aGY,ahh,ahi,avZ⟩:=acU auE (cA c6) (bC c6) rfl I at6;rw[adw] at ahh;rw[adx] at ahi;cases ahh;cases ahi;refine avZ p6 _ aS I λv2 XX cK bl e4 Tg=>?_;try rw[zf,bs]
     have aGA:=bl.1;have arF:=(bl.2 _ I).trans ((aS.2 _ I).trans R3);obtain⟨qs,ow⟩:=kJ Tg;refine fx (o:=5) arF a1 qs ow λxm dt abl=>?_;change xm[ag g+1]?=J (aO #[bu 9,ah 0,a4 0,S [],ch,v2] 28) at abl;have aGB:=dt.1;have ox:∀b,b<ag pq->b≠ag g+1->xm[b]?=pq[b]?:=λb af bk=>by rw[dt.2 b I (λe=>bk (en e)),bl.2 b I,aS.2 b af]
     have adt:∀b,b<ag G->b≠ag g+1->xm[b]?=G[b]?:=λb af bk=>al
     have avW:∀b,b<ag p6->b≠ag g+1->xm[b]?=p6[b]?:=λb af bk=>by rw[dt.2 b I (λe=>bk (en e)),bl.2 b af]
     have apF:aB g xm:=⟨I,λb af=>by rw[adt b I I];exact nv.2 b af⟩;try refine aR ?_
     have SM:((kD acc (y3 kv[k])).map Prod.fst).map S=bf (j*1) ((acc.map Prod.fst).map S)++([S kv[k].1]++ax (j*1) ((acc.map Prod.fst).map S)):=by
      unfold kD;rw[show insPos (y3 kv[k]).1 acc (U acc)=j from zi.symm,nn];simp only[rr,kp,Wr,ahx];rfl
     have ab8:(kD acc (y3 kv[k])).map Prod.snd=bf j (acc.map Prod.snd)++(y3 kv[k]).2::ax j (acc.map Prod.snd):=by
      unfold kD;rw[show insPos (y3 kv[k]).1 acc (U acc)=j from zi.symm];simp only[rr,kp,Wr,ahx]
     have vt:cC<ag uU:=x3.lt;refine a7 (U kv-(k+1)) _ _ I ⟨k+1,ch,v2,kD acc (y3 kv[k]),rfl,a',apF,I,⟨xB,?_,wi⟩,abl,⟨J cC,?_,λr aF=>?_⟩,?_,?_,?_,rfl⟩
     .grind
     .rw[SM];refine x3.at λr er=>?_;cases er;rw[ox cC I I,ar.2 cC vt (λe=>al)]
     .grind
     .rw[ab8];have Sr:=chunks (Q:=λc t=>gd lD xm (cA (aZ c)) t) (cs:=cs) (c6:=bC c6) (fi:=acc.map Prod.snd) (a:=j) (tt:=(y3 kv[k]).2) al I al
       (λn t aI=>(xP n t aI).kF (λb af aH=>adt b af (λe=>S4 al)) λ_ _ aH=>aH) (by rw[OV];exact gR.kF (λb af aH=>avW b af (λe=>S4 al)) λ_ _ aH=>aH)
      refine⟨_,J cK,Tg.at λr er=>?_,λr aF=>?_,?_,Sr.1,Sr.2⟩
      .cases er;exact dt.2 _ Tg.lt (λe=>al)
      .grind
      .have M4:∀{a b:List ao},ones (a++b)=(ones a&&ones b):=by
        intro a b;induction a with
        |nil=>rfl
        |cons x a bR=>simp only[uM,ones,bR,Wj]
       have aa:=FE;rw[<-O4 (j*6) cs,M4,pf] at aa;grind
     .rw[Wt a',rr,ahv,<-xM];rfl
     .unfold kD;grind
   .have lA:k=U kv:=I
    refine aR ?_;rw[mS (n:=5) qj rfl];obtain⟨afz,C_,Tc⟩:=ab3;obtain⟨cs,Ju,sC,Tb,FE,eS,xP⟩:=qW;refine s0 (n:=5) (k:=λh v _=>R v h) sr wi rfl (by show(ai&&(ai&&(ai&&(ai&&(one _&&(one _&&ai))))))=ai;rw[(kJ C_).2,(kJ sC).2];rfl) λh' ar=>q h' _ (bV.fe nv ar λr aF=>al) ?_;have dq:∀b,b<ag G->lD b=ab->h'[b]?=G[b]?:=λb af aH=>ar.2 b af (λe=>al);have Se:acc=(kv.map y3).foldl kD []:=al
    have ou:gd own h' (cA #[bu 9,ah 0,a4 0,S [],ke,k5]) (.mk 9 0 0 [] (acc.map Prod.fst) (acc.map Prod.snd)):=
     gd.mk (k:=9) (i:=0) (b:=0) (s:=[]) ⟨afz,C_.at λr er=>by subst er;exact dq r C_.lt (Tc r rfl),λr aF=>MY r (Tc r aF)⟩ ⟨Ju,sC.at λr er=>by subst er;exact dq r sC.lt (Tb r rfl),λr aF=>MY r (Tb r aF)⟩ eS al λn t aI=>(xP n t aI).kF dq λb _ aH=>MY b aH
    rw[Se] at ou;exact ou
section
variable{h g G:H}{p t i j n F:Nat}{D:B}{R K:K}{own a_:cH}{aj:List (bW bL)}{M bJ:List Nat}{id m sd m9:Nat}{kv:List (B×Nat)}{key:B}{tt:bL}{v:ao}{L:List ao}{r:Nat}
def fr.rd(k:fr own (a3 h p D t i s) (a3 g p D t i s)):fr own (a3 h p D t bI eU) (a3 g p D t bI eU):=by
 refine⟨by have:=k.1;rw[dm,dm] at this⊢;exact this,λb af aH=>?_⟩;rw[dm] at af;have ka:ag h<=ag g:=by have:=k.1;rw[dm,dm] at this;exact this
 by_cases ja:b=p
 .subst ja;rw[qS af,qS (cP af ka)]
 .have:=k.2 b (by rw[dm];exact af) aH;rw[g1 ja,g1 ja] at this⊢;exact this
def aB.a3(e:aB h g):aB (a3 h p D t i sd) (a3 g p D t i sd):=by
 refine⟨by rw[dm,dm];exact e.1,λb af=>?_⟩;rw[dm] at af;by_cases ja:b=p
 .subst ja;rw[qS af,qS (e.lt af)]
 .rw[g1 ja,g1 ja];exact e.2 b af
def afK(aF:b2 h v 1 L (J r))(hD:L≠[])(au:U L<=10000):∃ch,sl 1 v ab (J (ah ((U L-1:Nat):Int))) ab=J ch/\b2 h ch 1 L.dropLast (J r):=by
 obtain⟨len,cap,c,t,rfl,aa,ad,an,aT,bN⟩:=aF;have h_:=lJ.2 hD;have nF:len=U L:=I
 subst nF;refine⟨_,agm I ad,U L-1,cap,c,t,rfl,aa,I,an,a1,?_⟩;rw[ahw,List.dropLast_eq_take];grind
def ayo{c6:Array ao}(aY:fa g aj M bJ own)(da:aj[id]?=J (.bX kv))(c0:U aj<=5000)(aD:gd own g (cA c6) tt)(q:∀g' a_,fa g' (dY aj id key (.val tt)) (M++[0]) (bJ++[ag g]) a_->dL own a_ (ag g)->ky id own g g'->R (aN (ag g)) g'):
  Bd (Z 46) [(0,1,aQ ai),(1,6,cA c6)] g λv h=>lh 46 v h λv h=>bD 28 [aN (bJ.getD id 0),S key,v] h R:=by
 obtain⟨c1,c2,cy,dQ,eX,Cz,rfl⟩:∃c1 c2 cy dQ eX Cz,c6=#[c1,c2,cy,dQ,eX,Cz]:=by
  cases aD;grind
 have ef:∀K,Bd (Z 46) [(0,1,aQ ai),(1,6,cA #[c1,c2,cy,dQ,eX,Cz])] g K=K (cA #[aQ ai,c1,c2,cy,dQ,eX,Cz,aQ av,bY,ah 0,bY,bY]) g:=λK=>by rw[P0];rfl
 rw[ef];unfold lh;have bP:=aB.push g (aO (aZ (cellsL (cA #[aQ ai,c1,c2,cy,dQ,eX,Cz,aQ av,bY,ah 0,bY,bY]))) 46);have hV:=aY.new (aO (aZ (cellsL (cA #[aQ ai,c1,c2,cy,dQ,eX,Cz,aQ av,bY,ah 0,bY,bY]))) 46);have e:dL own (cS own (ag g) (U aj,0)) (ag g):=λb af=>by unfold cS;grind
 refine Po (m:=0) (bB:=.val tt) hV da c0 ⟨by unfold cS;grind,c1,c2,cy,dQ,eX,Cz,dS _ _,aD.kF (λb af _=>bP.2 b af) λb af aH=>by rw[e b af];exact aH⟩ (bF ⟨_,rfl⟩) λg' a_ dd dr fq _=>?_;refine q g' a_ ?_ (e.trans dr a1) ⟨dH a1 fq.1,λb af aH=>?_⟩
 .unfold dY;rw[o0 da];exact dd
 .rw[fq.2 b (by simp;omega) (λs=>by rw[e b af];exact aH s),bP.2 b af]
def anH(res:PS bL)(h:H)(D:B)(p t:Nat)(bJ:List Nat)(own:cH)(R:ao->H->Prop):Prop:=match res with
 | .ok a8 bK l=>∀h' gN a_ j,j<=U D->ax j D=l->fa (a3 h' p D t j 0) a8 bK gN a_->dL own a_ (ag h)->fr own (a3 h p D t 0 0) (a3 h' p D t 0 0)->r' bJ gN (U bJ)->R (bA #[]) (a3 h' p D t j 0)
 | .no c=>c≠0->∀h',fr own (a3 h p D t 0 0) (a3 h' p D t 0 0)->R (bA #[]) (a3 h' p D t (U D) c)
theorem W7(eu:Lf F n)(dn:jM h)(dV:2<=p)(aJ:p<ag h)(kC:own p=J pH)(aY:fa (a3 h p D t i 0) aj M bJ own)(da:cz aj id)(aM:U D<=400)(iR:U D<F)(az:i<=U D)(aI:U D-i<=n)(c0:U aj<=1000)(q:anH (pairP (valueF F n) F (ax i D) aj M id) h D p t bJ own R):bo 17 [aN p,aN (bJ.getD id 0)] (a3 h p D t i 0) R:=by
 apply aln;unfold pairP at q;refine Xd dn dV aJ aM az iR ?_;have abS:∀b x,own b=J x->b<ag h:=λb x aH=>by have:=aY.dv b x aH;rw[dm] at this;exact this
 have zv:∀g,aB h g->fr own (a3 h p D t 0 0) (a3 g p D t 0 0):=λg e=>fr.g_ e.a3;cases aq:key F (ax i D) with
 |no c=>
  rw[aq] at q;intro ay aa v aw;refine j8 (aw.lt aJ) (λe=>absurd e ay) λ_=>?_;refine aR ?_;exact q ay aa (zv aa aw)
 |ok ks c3=>
  rw[aq] at q;simp only at q;have zc:=Ny aq;intro aa j v r aw aF aC au bk lA e1;subst au;simp only[eF,tail_drop] at q;simp only[ix] at zc;have dE:=aw.lt aJ;have zk:=lJ.2 bk;refine j8 dE (λ_=>?_) (λe=>absurd rfl e);refine aR ?_;refine hn dE aM I ?_;refine aR ?_;refine⟨λhq=>?_,λhq=>?_⟩
  .rw[aA hq] at q;refine iK (n:=1) dE ?_;rw[aA rfl];exact q aE aa (zv aa aw)
  .rw[ak hq] at q;have aDT:g D j=61:=I
   have g8:=cu (D:=D) (i:=j) I;refine sa dE aM g8 λbc ij wv fF=>?_;rw[<-fF] at q;refine eu (dn.ext aw) dV dE aM iR wv I ?_;have gJ:ag (aZ (Z 28))=6:=by rw[j9];rfl
   have iD:=aw.1;cases aD:valueF F n (ax bc D) with
   |no c=>
    rw[aD] at q;intro ay ad lG ar au3;have gQ:=ar.1;have mE:p<ag ad:=I
    rw[gE,uk mE,dm];refine u2 (b:=ag ad) mK I gJ au3 λg' cs _ _ _ eQ af=>?_;have bl:aB h g':=bV.fe ((aw.trans ar).trans (aB.push _ _)) eQ λr aF=>al
    refine j8 (bl.lt aJ) (λe=>absurd e ay) λ_=>?_;refine aR ?_;exact q ay g' (zv g' bl)
   |ok tt dA=>
    rw[aD] at q;simp only at q;intro ad eL lG ar xU mB gR;subst mB;have gQ:=ar.1;have mE:p<ag ad:=I
    rw[gE,uk mE,dm];refine u2 (b:=ag ad) mK I gJ gR.oi λcb cs eC cB mb eQ ase=>?_;subst eC;have QV:=aw.trans ar;have aS:aB h cb:=bV.fe (QV.trans (aB.push _ _)) eQ λr aF=>al
    have TJ:∀b,b<ag ad->cb[b]?=ad[b]?:=λb af=>by rw[eQ.2 b (by simp;omega) (λe=>al),(aB.push ad _).2 b af]
    have q1:ag ad+1<=ag cb:=al
    have oR:fa (a3 cb p D t eL 0) aj M bJ own:=by
     have aa:=aY.rd (j:=eL) (m9:=0) kC I;exact aa.Nv aS.a3 (dL.refl _ _) λb x aH=>by rw[dm];grind
    have dF:own r=ab:=by
     cases aH:own r with
     |none=>rfl
     |some x=>grind
    have hN:=e1.lt;obtain⟨mC,_⟩:=j1 e1;rw[oE] at mC;obtain⟨OR,Nl,Nd⟩:=afK e1 m8 (by simp;omega);rw[oE] at Nl;obtain⟨acr,_⟩:=j1 Nd;rw[ahw,oE] at acr;have es:bn .sub (ah (U ks)) (ah 1)=J (ah (U ks-1:Nat)):=m' (a:=U ks) (b:=1) I I;refine j8 (aS.lt aJ) (λ_=>?_) (λe=>absurd rfl e);refine i_ mC es Nl acr ?_;refine jn (λdW a b G=>∃(k:Nat) (h':H) (a8:List (bW bL)) (bK gN:List Nat) (a_:cH) (cY:Nat),a=aN (gN.getD cY 0)/\b=ah k/\G=a3 h' p D t eL 0/\k<=U ks-1/\pairS tt (ax k ks) a8 bK cY=pairS tt ks aj M id/\fa (a3 h' p D t eL 0) a8 bK gN a_/\dL own a_ (ag cb)/\fr own (a3 cb p D t 0 0) (a3 h' p D t 0 0)/\cz a8 cY/\U a8<=1000+k/\r' bJ gN (U bJ)/\U bJ<=U gN/\dW=U ks-k) (U ks)
     ⟨0,cb,aj,M,bJ,own,id,rfl,rfl,rfl,ed _,rfl,oR,dL.refl _ _,fr.refl _ _,da,c0,λ_ _=>rfl,bQ _,rfl⟩ ?_
    rintro dW _ a b G N ⟨k,h',a8,bK,gN,a_,cY,rfl,rfl,rfl,ql,ef,gG,iS,cE,Fp,FL,lx,dR,rfl⟩ a7;have wE:ag cb<=ag h':=by have:=cE.1;rw[dm,dm] at this;exact this
    have hE:p<ag h':=I
    have A8:a_ p=J pH:=by rw[iS p I];exact kC
    have abp:fr own (a3 h p D t 0 0) (a3 h' p D t 0 0):=(zv cb aS).trans cE (dL.refl _ _);have dq:∀b,b<ag cb->own b=ab->h'[b]?=cb[b]?:=λb af aH=>by
     have ja:b≠p:=λe=>al
     have:=cE.2 b (by rw[dm];exact af) al;rw[g1 ja,g1 ja] at this;exact this
    have sD:r≠p:=I
    have IL:b2 (a3 h' p D t eL 0) v 1 (ks.map S) (J r):=e1.at λcC er=>by cases er;rw[g1 sD,dq r I dF,TJ r I,ar.2 r hN]
    have auL:b2 (a3 h' p D t eL 0) OR 1 (ks.map S).dropLast (J r):=Nd.at λcC er=>by cases er;rw[g1 sD,dq r I dF,TJ r I,ar.2 r hN]
    obtain⟨_,T0⟩:=j1 IL;obtain⟨_,awg⟩:=j1 auL;have pK:∀c,c≠0->pairS tt ks aj M id=.no c->R (bA #[]) (a3 h' p D t (U D) (if 0=0 then c else 0)):=λc ay IE=>by
     rw[IE] at q;rw[aA rfl];exact q ay h' abp
    obtain⟨kv,ey⟩:=Fp;by_cases a':k<U ks-1
    .obtain⟨bx,hW,mW⟩:=awg k (S ks[k]) al;have wm:ax (k+1) ks≠[]:=λe=>by have:=mQ List.length e;grind
     rw[tJ I,pairS,ak wm,o0 ey] at ef;refine dG hW mW ?_;refine GL gG ey I (λx ae tp=>?_) λae=>?_
     .rw[ae] at ef;simp only at ef;rw[K_,bs,ga];obtain⟨Ds,oW⟩:∃bB,a8[x]?=J bB:=⟨_,h5 tp⟩;obtain⟨cx,iC,_,hL,mX,vg⟩:=node_cells gG oW;rw[oW] at ef;cases Ds with
      |val eO=>
       simp only at ef hL mX;refine dG (c4 iC) hL ?_;exact iK (n:=1) hE (pK 1 aE ef.symm)
      |arr l=>
       simp only at ef hL mX;refine hk (c4 iC) hL mX ?_;exact iK (n:=1) hE (pK 1 aE ef.symm)
      |bX hO=>
       simp only at ef hL mX;refine i_ (c4 iC) hL mX vg ?_;refine⟨λC6=>?_,λC6=>⟨λsw=>?_,λsw=>?_⟩⟩
       .rw[aA I] at ef;exact iK (n:=1) hE (pK 1 aE ef.symm)
       .rw[ak I,aA I] at ef;exact iK (n:=2) hE (pK 2 aE ef.symm)
       .rw[ak I,ak I] at ef;exact a7 _ _ _ _ I ⟨k+1,h',a8,bK,gN,a_,x,rfl,rfl,rfl,I,ef,gG,iS,cE,⟨_,oW⟩,I,lx,dR,rfl⟩
     .rw[ae] at ef;simp only at ef;rw[nil_eq,bs,gl];refine U6 (m:=2) gG ey I λbd f_ dd dr fq=>?_;have vk:bd[p]?=J (aO #[S D,ah eL,ah (0:Nat)] t):=by
       rw[fq.2 p (by rw[dm];exact hE) (λs=>by rw[A8];intro e;cases e;omega),qS hE]
      have eg:=Fg vk;have zb:(gN++[ag (a3 h' p D t eL 0)]).getD (U a8) 0=ag (a3 h' p D t eL 0):=by
       rw[iw,pg (by rw[gG.jC];omega),gG.jC,pW];rfl
      refine aR ?_;rw[<-eg];rw[<-eg] at dd fq;have oT:fr a_ (a3 h' p D t 0 0) (a3 bd p D t 0 0):=fq.keep.rd;refine a7 _ _ _ _ I ⟨k+1,bd,_,_,_,f_,U a8,by rw[zb],rfl,rfl,I,ef,dd,?_,cE.trans oT (by rw[dm];exact iS),⟨_,nW⟩,by rw[lp];omega,λx ae=>by rw[r'.app x (cP ae dR)];exact lx x ae,by simp;omega,rfl⟩;exact iS.trans dr (by rw[dm];exact wE)
    .have ti:k=U ks-1:=I
     obtain⟨bx,hW,mW⟩:=T0 (U ks-1) (S ks[U ks-1]) al;have n2:ax k ks=[ks[U ks-1]]:=by
      subst ti;rw[tJ I,iu I]
     rw[n2,pairS,aA rfl,o0 ey] at ef;refine i_ mC es hW mW ?_;refine GL gG ey I (λx ae tp=>?_) λae=>?_
     .rw[ae] at ef;simp only at ef;rw[anI,bs,gl];exact iK (n:=1) hE (pK 1 aE ef.symm)
     .rw[ae] at ef;simp only at ef;rw[aeI,bs,ga];have asf:h'[ag ad]?=J (aO cs 28):=by rw[dq _ I (by cases aH:own (ag ad) with|none=>rfl|some x=>grind)];exact ase
      rw[uW (n:=5) asf I cB];refine ayo (tt:=tt) gG ey I ?_ λbd f_ dd dr fq=>?_
      .refine gR.kF (λb af aH=>?_) λb af aH=>?_
       .have cF:=n8 aH;rw[dm] at af;have sA:own b=ab:=by cases aH:own b with|none=>rfl|some x=>grind
        rw[g1 I,g1 I,dq b I sA,TJ b af]
       .have cF:=n8 aH;rw[dm] at af;have sA:own b=ab:=by cases aH:own b with|none=>rfl|some x=>grind
        rw[iS b I];exact sA
      .have vk:bd[p]?=J (aO #[S D,ah eL,ah (0:Nat)] t):=by
        rw[fq.2 p (by rw[dm];exact hE) (λs=>by rw[A8];intro e;cases e;omega),qS hE]
       have eg:=Fg vk;rw[<-eg];rw[<-eg] at dd fq;have oT:fr a_ (a3 h' p D t 0 0) (a3 bd p D t 0 0):=fq.keep.rd;rw[<-ef] at q;refine q bd _ f_ eL xU rfl dd ?_ (abp.trans oT (λb af=>by rw[dm] at af;exact iS b I)) λx ae=>by rw[r'.app x (cP ae dR)];exact lx x ae
       exact λb af=>by rw[dr b (by rw[dm];omega),iS b I]
end
