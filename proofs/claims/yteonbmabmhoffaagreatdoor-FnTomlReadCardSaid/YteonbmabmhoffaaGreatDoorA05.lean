/- A part of the proof of FnTomlReadCardSaid: for every string the law FnTomlRead returns true. Conditions: those of the given row and card, no others. -/
import Derived.ScopeJumps
import Derived.Test.YteonbmabmhoffaaGreatDoorA04
open Option renaming some->J,none->ab
open Bool renaming true->ai,false->av
open Go renaming Value->ao
open Go.Obj renaming cells->aO
open Go.Value renaming bool->aQ,slice->a5,int->ba,tuple->bA,pointer->bU,agg->cA,float->cU,nilIface->cR,iface->cW
open Or renaming inl->bF,inr->bt
open Go.BinOp renaming eql->cQ,lss->fG,neq->hF,gtr->hf,geq->h0
open List renaming length->U,toArray->aZ,take->bf
open Array renaming size->ag,toList->bC,push->a6
namespace Go.Proofs.YteonbmabmhoffaaGreatDoor.F
set_option linter.all false
set_option autoImplicit true
set_option relaxedAutoImplicit true
set_option maxRecDepth 100000
set_option maxHeartbeats 4000000
noncomputable section
def uZ(h g:H)(p t:Nat)(c:Array ao):Prop:=aB h g/\ag h<=p/\g[p]?=J (aO c t)
def gzone(D:B)(k j:Nat):Option (Int×Nat):=if g D k=90\/g D k=122 then J (0,k+1)
 else if j≠k+6 then ab else if¬(g D k=45\/g D k=43) then ab else if g D (k+3)≠58 then ab else
  match two (aU D (k+1) (k+3)) with
  |none=>ab
  |some a=>if 23<a then ab else match two (aU D (k+4) (k+6)) with
   |none=>ab
   |some c=>if 59<c then ab else J ((if g D k=45 then-(((a*3600+c*60:Nat)):Int) else((a*3600+c*60:Nat):Int)),k+6)
def godt(D:B)(i j:Nat):Option ((Nat×Nat×Nat)×og×Int):=match ldt D i j with
 |none=>ab
 |J (d,t,k)=>if k=j then ab else match gzone D k j with
  |none=>ab
  |J (z,k')=>if k'<j then ab else J (d,t,z)
def wV(d:Nat×Nat×Nat)(t:og)(z:Int):List ao:=t_ d t++[ah z]
section
variable{h g g':H}{R k:K}{b C i j i0 N r n c eb gS t o:Nat}{v p u fn b_ cp dst e:ao}{D s kw:B}{ro:Option Nat}{c1 c2 cs:Array ao}
def uZ.grow(T:uZ h g eb t c1)(e:aB g g'):uZ h g' eb t c1:=by
 obtain⟨bx,bH,cq⟩:=T;exact⟨bx.trans e,bH,by rw[e.2 _ (cm.1 cq).1,cq]⟩
def uZ.new:uZ h (a6 h (aO c1 t)) (ag h) t c1:=⟨aB.push _ _,bQ _,mK⟩
def uZ.err(T:uZ h g eb t c1)(aP:t≠124)(iD:ag c1=n+1)(gQ:ag cs=n+1)(aH:ones (bC cs)=ai)(er:e2 g b N C v)(q:∀x h',kr (n+1) x->aB h h'->e2 h' b N C v->k x h'):
  bZ (n+1) (aN eb) (cA cs) g λ_ h=>cO (n+1) (aN eb) h λv _=>k v h:=
 E3 er T.1 T.2.2 T.2.1 aP iD gQ aH q
def uZ.bad{k:ao->ao->H->Prop}{x:ao}(T:uZ h g eb t c1)(aP:t≠124)(iD:ag c1=n+1)(gQ:ag cs=n+1)(aH:ones (bC cs)=ai)(hu:bp b i j C u)(aC:j<=N)(q:∀x e h',kr (n+1) x->aB h h'->e2 h' b N C e->k x e h')(aL:U s<=1000:=by first|decide|assumption)(dR:b<ag h:=by first|assumption|exact db.lt b8):
  bo 51 [u,S s,x] g λv6 h=>bZ (n+1) (aN eb) (cA cs) h λ_ h=>cO (n+1) (aN eb) h λv _=>k v v6 h:=
 gU (dR:=cP dR T.1.1) hu aC λe h' aw er=>(T.grow aw).err (k:=λv h=>k v e h) aP iD gQ aH er λx h' cg cJ eP=>q x e h' cg cJ eP
def uZ.fin(T:uZ h g eb t c1)(iD:ag c1=n+1)(gQ:ag cs=n+1)(aH:ones (bC cs)=ai)(q:∀h',aB h h'->k (cA cs) h'):
  bZ (n+1) (aN eb) (cA cs) g λ_ h=>cO (n+1) (aN eb) h λv _=>k v h:=
 s0 (k:=λh v _=>k v h) T.2.2 iD gQ aH λh' aw=>q h' (bV.fe T.1 aw λr aF=>by cases aF;exact T.2.1)
def Gy:List ao:=[ah 0,ah 0,ah 0,ah 0,ah 0,ah 0,ah 0,ah 0,ah 0]
def yP:Z 99=Gy:=b4
def yE:Bd (Z 99) [] h k=k (cA (aZ Gy)) h:=by rw[yP];rfl
def ahY{t:og}{z:Int}:Bd (Z 99) [(0,8,cA (aZ (t_ d t))),(8,1,ah z)] h k=k (cA (aZ (wV d t z))) h:=by rw[yP];rfl
def aeq(h:n<9223372036854775808):bn .mul (ah (-1)) (ah (n:Int))=J (ah (-(n:Int))):=by
 simp only[bn,ei];congr 2;simp only[jv];omega
def aer(h:n<9223372036854775808):bn .mul (ah 1) (ah (n:Int))=J (ah (n:Int)):=by
 simp only[bn,ei];congr 2;simp only[jv];omega
theorem aii(aM:db h b D C)(aD:bp b i j C v)(aC:j<=D.length)(bq:∀d t z h',godt D i j=some (d,t,z)->aB h h'->R (.tuple #[.agg (wV d t z).toArray,.nilIface]) h')
  (bw:godt D i j=none->∀x e h',kr 9 x->aB h h'->e2 h' b D.length C e->R (.tuple #[x,e]) h'):bo 117 [v] h R:=by
 apply aku;have e0:=aM.mH;have hlen:=aM.len;have a':godt D i j=(match ldt D i j with|none=>none|some (d,t,k)=>if k=j then none else match gzone D k j with|none=>none|some (z,k')=>if k'<j then none else some (d,t,z)):=rfl;refine ys ?_;have qJ:=uZ.new (h:=h) (c1:=(Z 99).toArray) (t:=99);revert qJ;generalize (h.push (.cells (Z 99).toArray 99))=ct;generalize h.size=eb;intro qJ;change bo 118 _ _ _;refine WR (aM.ext qJ.1) aD aC (λd t k x h' aG jb ik aw ae=>?_) λaI x er h' ae aw he=>?_;rotate_left
 .rw[aI] at a';obtain⟨cs,rfl,gH,j'⟩:=ae;have c_:=(qJ.grow aw).grow (aB.push h' (.cells cs 97));(simp-implicitDefEqProofs+contextual (disch:=(first|omega|with_unfolding_all exact id rfl|with_unfolding_all exact id (lK rfl))) only[go_sem,ry,h7,gW he,↓yE];try refine c8 ?_)
  exact c_.err (k:=λv h=>R (.tuple #[v,er]) h) aE (by rw[yP];rfl) rfl rfl (he.ext (aB.push _ _)) λx h' cg cJ eP=>bw a' x er h' cg cJ eP
 rw[aG] at a';simp only at a';have c_:=(qJ.grow aw).grow (aB.push h' (.cells (t_ d t).toArray 97));clear qJ aw aG;have jr:=ae;obtain⟨e,rfl,aa,ad,an,aT⟩:=ae;have Sc:(h'.push (.cells (t_ d t).toArray 97))[h'.size]?=some (.cells (t_ d t).toArray 97):=mK;(simp-implicitDefEqProofs+contextual (disch:=(first|omega|with_unfolding_all exact id rfl|with_unfolding_all exact id (lK rfl))) only[go_sem,ry,h7,jK,↓yE];try refine c8 ?_)
 revert c_ Sc;generalize (h'.push (.cells (t_ d t).toArray 97))=bd;generalize h'.size=ae6;intro c_ Sc;have fX:db bd b D C:=aM.ext c_.1;have bad:godt D i j=none->∀i j u,bp b i j C u->j<=D.length->∀(s:B) (x:Value),∀(aL:s.length<=1000:=by first|decide|assumption),bD 51 [u,S s,x] bd λjG h=>bZ 9 (aN eb) (.agg Gy.toArray) h λx h=>cO 9 (aN eb) h λlG x=>R (.tuple #[lG,jG]) h:=λaI i j u hu aC s x aL=>
  c_.bad (k:=λv e h=>R (.tuple #[v,e]) h) aE (by rw[yP];rfl) rfl rfl hu aC (bw aI)
 have pass:godt D i j=none->∀e cb,aB bd cb->e2 cb b D.length C e->bZ 9 (aN eb) (.agg Gy.toArray) cb λx h=>cO 9 (aN eb) h λlG x=>R (.tuple #[lG,e]) h:=λaI e cb aS er=>
  (c_.grow aS).err (k:=λv h=>R (.tuple #[v,e]) h) aE (by rw[yP];rfl) rfl rfl er λx h' cg cJ eP=>bw aI x e h' cg cJ eP
 have fin:∀z,godt D i j=some (d,t,z)->∀cb,aB bd cb->bZ 9 (aN eb) (.agg (wV d t z).toArray) cb λx h=>cO 9 (aN eb) h λlG x=>R (.tuple #[lG,.nilIface]) h:=λz aV cb aS=>
  (c_.grow aS).fin (k:=λv h=>R (.tuple #[v,.nilIface]) h) (by rw[yP];rfl) rfl rfl λh' bl=>bq d t z h' aV bl
 clear bq bw;refine⟨λaW=>bad al _ _ _ jr aC _ _,λaW=>?_⟩;rw[ak I] at a';refine rv (λu w h'=>∃(z:Int) (k':Nat),bp b k' j C u/\w=.i z/\h'=bd/\gzone D k j=some (z,k')) (λM cM=>?_) ?_
 .have s7:=dZ D k;have qQ:gzone D k j=none->godt D i j=none:=λa=>by rw[a',a]
  have ok:(g D k=90\/g D k=122)->M (.slice (some ⟨b,cX (C-k) 1 e,none⟩) (j-k-1) (C-k-1)) (.i 0) bd:=λa=>
   cM _ _ _ ⟨0,k+1,(bp.of I I ⟨by (try unfold cX);grind,I,I,by (try unfold cX);grind⟩),rfl,rfl,by unfold gzone;rw[aA a]⟩
  (simp-implicitDefEqProofs+contextual (disch:=(first|omega|with_unfolding_all exact id rfl|with_unfolding_all exact id (lK rfl))) only[go_sem,vN fX aa];try refine c8 ?_)
  refine⟨λaV=>ok (.inl aV),λaV=>⟨λgp=>ok (.inr gp),λgp=>?_⟩⟩;clear ok;have rI:gzone D k j=(if j≠k+6 then none else if¬(g D k=45\/g D k=43) then none else if g D (k+3)≠58 then none else match two (aU D (k+1) (k+3)) with
   |none=>none
   |some a=>if 23<a then none else match two (aU D (k+4) (k+6)) with
    |none=>none
    |some c=>if 59<c then none else some ((if g D k=45 then-(((a*3600+c*60:Nat)):Int) else((a*3600+c*60:Nat):Int)),k+6)):=by unfold gzone;rw[ak (λa=>a.elim aV gp)]
  refine V9 @yE ?_;refine⟨λFv=>bad (qQ al) _ _ _ jr aC _ _,λFv=>?_⟩;rw[ak I] at rI;refine ll (λu h'=>∃m_:Int,u=.i m_/\h'=bd/\((m_= -1/\g D k=45)\/(m_=1/\g D k=43))) (λyM Mz=>?_) ?_
  .refine DY @yE (hA fX aa) (hA fX aa) ?_;refine⟨λBe=>Mz _ _ ⟨-1,rfl,rfl,.inl ⟨rfl,Be⟩⟩,λBe=>⟨λFP=>Mz _ _ ⟨1,rfl,rfl,.inr ⟨rfl,FP⟩⟩,λFP=>?_⟩⟩;exact bad (qQ al) k (k+1) _ (bp.of I I ⟨I,I,I,I⟩) I _ _
  .rintro u bO ⟨m_,rfl,rfl,ux⟩;have uh:g D k=45\/g D k=43:=ux.elim (λa=>.inl a.2) (λa=>.inr a.2);rw[ak (λa=>a uh)] at rI;refine DY @yE (dI fX aa) @q_ ?_;refine⟨λs8=>bad (qQ al) (k+3) (k+4) _ (bp.of I I ⟨by (try unfold cX);grind,I,I,by (try unfold cX);grind⟩) I _ _,λs8=>?_⟩;rw[ak s8] at rI;change bo 141 _ _ _;refine z4 (i:=k+1) (j:=k+3) fX (bp.of I I ⟨by (try unfold cX);grind,I,I,by (try unfold cX);grind⟩) I I (λa bE jS=>?_) λaI er h' aw he=>?_;rotate_left
   .rw[aI] at rI;refine DY @yE (gW he) (gW he) ?_;grind
   rw[bE] at rI;simp only at rI;rw[show k+3-(k+1)=2 by omega] at jS;refine DY @yE @q_ @q_ ?_;refine⟨λAJ=>bad (qQ al) (k+1) (k+3) _ (bp.of I I ⟨by (try unfold cX);grind,I,I,by (try unfold cX);grind⟩) I _ _,λAJ=>?_⟩;rw[ak AJ] at rI;change bo 141 _ _ _;refine z4 (i:=k+4) (j:=k+6) fX (bp.of I I ⟨by (try unfold cX);grind,I,I,by (try unfold cX);grind⟩) I I (λc ay eS=>?_) λaI er h' aw he=>?_;rotate_left
   .rw[aI] at rI;refine DY @yE (gW he) (gW he) ?_;grind
   rw[ay] at rI;simp only at rI;rw[show k+6-(k+4)=2 by omega] at eS;refine DY @yE @q_ @Bm ?_;refine⟨λxK=>bad (qQ al) (k+4) (k+6) _ (bp.of I I ⟨by (try unfold cX);grind,I,I,by (try unfold cX);grind⟩) I _ _,λxK=>?_⟩;rw[ak xK] at rI;rcases ux with ⟨rfl,aL⟩|⟨rfl,aL⟩
   .rw[aA aL] at rI;refine uI @aeq ?_;exact cM _ _ _ ⟨_,_,(bp.of I I ⟨by (try unfold cX);grind,I,I,by (try unfold cX);grind⟩),rfl,rfl,rI⟩
   .rw[ak I] at rI;refine uI @aer ?_;exact cM _ _ _ ⟨_,_,(bp.of I I ⟨by (try unfold cX);grind,I,I,by (try unfold cX);grind⟩),rfl,rfl,rI⟩
 .rintro u w bO ⟨z,k',hu,rfl,rfl,aV⟩;rw[aV] at a';simp only at a';have Tq:=hu;obtain⟨c',rfl,dd,dr,fq,pd⟩:=hu;(simp-implicitDefEqProofs+contextual (disch:=(first|omega|with_unfolding_all exact id rfl|with_unfolding_all exact id (lK rfl))) only[go_sem];try refine c8 ?_)
  refine⟨λau=>bad al _ _ _ Tq aC _ _,λau=>?_⟩;rw[ak I] at a';(simp-implicitDefEqProofs+contextual (disch:=(first|omega|with_unfolding_all exact id rfl|with_unfolding_all exact id (lK rfl))) only[go_sem,mS Sc,↓ahY];try refine c8 ?_)
  have mZ:=fin z a' _ ((aB.push bO (.cells (wV d t z).toArray 99)));rw[h7 (n:=9) (cs:=(wV d t z).toArray) (by rw[yP];rfl) rfl rfl,jK (n:=9) rfl aE];exact mZ
end
def gint(r m:Nat)(D:B)(n i j:Nat):Option Nat:=if h:i<j then(if g D i=95 then gint r m D n (i+1) j else match fQ (g D i) with
 |some d=>if(m-d)/r<n then ab else gint r m D (n*r+d) (i+1) j
 |none=>ab) else J n
termination_by j-i
def vL(r:Nat)(D:B)(i j:Nat):Prop:=∀l,i<=l->l<j->g D l=95\/∃d,fQ (g D l)=J d/\d<r
def HR(h:¬i<j):gint r m D n i j=J n:=by rw[gint,e8 h]
def HS(h:i<j)(ad:g D i=95):gint r m D n i j=gint r m D n (i+1) j:=by rw[gint,gw h,aA ad]
def Md(h:i<j)(ad:g D i≠95)(an:fQ (g D i)=J d):gint r m D n i j=if(m-d)/r<n then ab else gint r m D (n*r+d) (i+1) j:=by rw[gint,gw h,ak ad,an]
def rH(h:fQ c=J d):(48<=c/\c<=57/\d=c-48)\/(97<=c/\c<=102/\d=c-97+10)\/(65<=c/\c<=70/\d=c-65+10):=by
 unfold fQ at h;grind
section
variable{h:H}{R k:K}{b C i j N r n c:Nat}{v u e:ao}{D:B}
def Vs{x s:Nat}(aL:s<=56)(ae:x*2^s<18446744073709551616):bn .shl (a4 (x:Int)) (ba dq (s:Int))=J (a4 ((x*2^s:Nat):Int)):=by
 have e:bn .shl (a4 x) (ba dq (s:Int))=J (a4 (IntKind.u64.wrap ((x:Int)*2^(min s 64)))):=by
  show(if((s:Nat):Int)<0 then ab else J (Value.int .u64 (IntKind.u64.wrap ((x:Int)*2^(min ((s:Nat):Int).toNat 64)))))=_;grind
 rw[e,yy I];congr 2
 rw[show((x:Int)*2^s)=((x*2^s:Nat):Int) by norm_cast,BP ae]
def UO{x d s:Nat}(ae:x*2^s+d<18446744073709551616)(aG:d<2^s):bn .or (a4 ((x*2^s:Nat):Int)) (a4 (d:Int))=J (a4 ((x*2^s+d:Nat):Int)):=by
 rw[jY I I,xh x,aB3 aG]
def aoi{a:Nat}(h:a+OfNat.ofNat c<256):bn .add (bu (a:Int)) (bu (no_index (OfNat.ofNat c):Int))=J (bu ((a+OfNat.ofNat c:Nat):Int)):=by
 have e:∀m:Nat,a+m<256->bn .add (bu a) (bu m)=J (bu (a+m:Nat)):=λm hm=>by
  simp only[bn,ei];congr 2;rw[<-Int.natCast_add];simp[IntKind.wrap,IntKind.bits,IntKind.signed];omega
 exact e _ h
def Em(res:Option Int)(h:H)(b N C:Nat)(R:K):Prop:=(∀n,res=J n->R (bA #[ah n,cR]) h)/\(res=ab->∀e h',aB h h'->e2 h' b N C e->R (bA #[ah 0,e]) h')
def ain(aM:db h b D C)(aD:bp b i j C v)(aC:j<=U D)(ad:i+2<=j)(aX:vL 2 D (i+2) j)(q:Em ((gint 2 9223372036854775807 D 0 (i+2) j).map λn:Nat=>(n:Int)) h b (U D) C R):bo 130 [v] h R:=by
 apply akI;have cI:=aD;obtain⟨e,rfl,aa,ad,an,aT,e0,hlen⟩:=aD.fL aM;refine ys ?_;have hW:i+2<C->cX (C-i) 2 e=i+2:=λa=>by unfold cX;grind
 generalize cX (C-i) 2 e=aw at hW⊢;refine jn (λdW v u h'=>∃n k:Nat,v=a4 n/\u=ah k/\k<=j-(i+2)/\n<=9223372036854775807/\gint 2 9223372036854775807 D n (i+2+k) j=gint 2 9223372036854775807 D 0 (i+2) j/\h'=h/\dW=j-(i+2)-k) (j-(i+2)) ⟨0,0,rfl,rfl,ed _,ed _,rfl,rfl,I⟩ ?_;rintro dW d v u h' N ⟨n,k,rfl,rfl,aq,aI,aP,rfl,rfl⟩ a7;rw[<-aP] at q;have s7:=dZ D (i+2+k);have qp:n<=4611686018427387903->bn .shl (a4 n) (a4 1)=J (a4 (n*2^1:Nat)):=λa=>Vs (s:=1) aE I;have zm:∀c:Nat,c<2->n<=4611686018427387903->bn .or (a4 (n*2^1:Nat)) (a4 (c:Nat))=J (a4 (n*2^1+c:Nat)):=λc a bM=>UO I I;by_cases aG:k<j-(i+2)/\g D (i+2+k)≠95
 .obtain⟨au,hg⟩:=aG;obtain⟨d,aG,h9⟩:=(aX (i+2+k) I I).resolve_left hg;have ay:=rH aG;have sr:g D (i+2+k)=48+d:=I
  rw[Md I hg aG] at q aP;clear ay;refine i_ (dI aM hW) qp zm sr ?_;have ar:n*2^1+(48+d-48)=n*2+d:=I
  rw[ar];refine⟨λaf=>gU cI aC λe h' aw er=>q.2 al e h' aw er,λaf=>?_⟩;rw[ak I] at aP;exact a7 _ _ _ _ I ⟨n*2+d,k+1,rfl,rfl,I,I,aP,rfl,rfl⟩
 .refine bG (dI aM hW) ?_;refine⟨λau=>?_,λau=>?_⟩
  .exact a7 _ _ _ _ I ⟨n,k+1,rfl,rfl,I,aI,by rw[<-aP,HS (i:=i+2+k) I I];rfl,rfl,rfl⟩
  .exact q.1 n (by rw[HR I];rfl)
def aio(aM:db h b D C)(aD:bp b i j C v)(aC:j<=U D)(ad:i+2<=j)(aX:vL 8 D (i+2) j)(q:Em ((gint 8 9223372036854775807 D 0 (i+2) j).map λn:Nat=>(n:Int)) h b (U D) C R):bo 131 [v] h R:=by
 apply akJ;have cI:=aD;obtain⟨e,rfl,aa,ad,an,aT,e0,hlen⟩:=aD.fL aM;refine ys ?_;have hW:i+2<C->cX (C-i) 2 e=i+2:=λa=>by unfold cX;grind
 generalize cX (C-i) 2 e=aw at hW⊢;refine jn (λdW v u h'=>∃n k:Nat,v=a4 n/\u=ah k/\k<=j-(i+2)/\n<=9223372036854775807/\gint 8 9223372036854775807 D n (i+2+k) j=gint 8 9223372036854775807 D 0 (i+2) j/\h'=h/\dW=j-(i+2)-k) (j-(i+2)) ⟨0,0,rfl,rfl,ed _,ed _,rfl,rfl,I⟩ ?_;rintro dW d v u h' N ⟨n,k,rfl,rfl,aq,aI,aP,rfl,rfl⟩ a7;rw[<-aP] at q;have s7:=dZ D (i+2+k);have qp:n<=1152921504606846975->bn .shl (a4 n) (a4 3)=J (a4 (n*2^3:Nat)):=λa=>Vs (s:=3) aE I;have zm:∀c:Nat,c<8->n<=1152921504606846975->bn .or (a4 (n*2^3:Nat)) (a4 (c:Nat))=J (a4 (n*2^3+c:Nat)):=λc a bM=>UO I I;by_cases aG:k<j-(i+2)/\g D (i+2+k)≠95
 .obtain⟨au,hg⟩:=aG;obtain⟨d,aG,h9⟩:=(aX (i+2+k) I I).resolve_left hg;have ay:=rH aG;have sr:g D (i+2+k)=48+d:=I
  rw[Md I hg aG] at q aP;clear ay;refine i_ (dI aM hW) qp zm sr ?_;have ar:n*2^3+(48+d-48)=n*8+d:=I
  rw[ar];refine⟨λaf=>gU cI aC λe h' aw er=>q.2 al e h' aw er,λaf=>?_⟩;rw[ak I] at aP;exact a7 _ _ _ _ I ⟨n*8+d,k+1,rfl,rfl,I,I,aP,rfl,rfl⟩
 .refine bG (dI aM hW) ?_;refine⟨λau=>?_,λau=>?_⟩
  .exact a7 _ _ _ _ I ⟨n,k+1,rfl,rfl,I,aI,by rw[<-aP,HS (i:=i+2+k) I I];rfl,rfl,rfl⟩
  .exact q.1 n (by rw[HR I];rfl)
def aim(aM:db h b D C)(aD:bp b i j C v)(aC:j<=U D)(ad:i+2<=j)(aX:vL 16 D (i+2) j)(q:Em ((gint 16 9223372036854775807 D 0 (i+2) j).map λn:Nat=>(n:Int)) h b (U D) C R):bo 129 [v] h R:=by
 apply akG;have cI:=aD;obtain⟨e,rfl,aa,ad,an,aT,e0,hlen⟩:=aD.fL aM;refine aR ?_;have hW:i+2<C->cX (C-i) 2 e=i+2:=λa=>by unfold cX;grind
 generalize cX (C-i) 2 e=aw at hW⊢;refine jn (λdW v u h'=>∃n k:Nat,v=a4 n/\u=ah k/\k<=j-(i+2)/\n<=9223372036854775807/\gint 16 9223372036854775807 D n (i+2+k) j=gint 16 9223372036854775807 D 0 (i+2) j/\h'=h/\dW=j-(i+2)-k) (j-(i+2)) ⟨0,0,rfl,rfl,ed _,ed _,rfl,rfl,I⟩ ?_;rintro dW d v u h' N ⟨n,k,rfl,rfl,aq,aI,aP,rfl,rfl⟩ a7;rw[<-aP] at q;have s7:=dZ D (i+2+k);by_cases aG:k<j-(i+2)/\g D (i+2+k)≠95
 .obtain⟨au,hg⟩:=aG;obtain⟨d,aG,h9⟩:=(aX (i+2+k) I I).resolve_left hg;have ay:=rH aG;rw[Md I hg aG] at q aP;refine bG (dI aM hW) ?_;refine ll (λu cN=>u=bu d/\cN=h') (λM cM=>?_) ?_
  .have go:∀x:Nat,x=d->M (bu x) h':=λx e=>cM _ _ ⟨by rw[e],rfl⟩;refine bG @aoi ?_;with_reducible repeat' first|refine⟨?_,?_⟩|intro
   all_goals grind
  rintro u cN ⟨rfl,rfl⟩;have qp:n<=576460752303423487->bn .shl (a4 n) (a4 4)=J (a4 (n*2^4:Nat)):=λa=>Vs (s:=4) aE I;have zm:n<=576460752303423487->bn .or (a4 (n*2^4:Nat)) (a4 d)=J (a4 (n*2^4+d:Nat)):=λbM=>UO I I;clear ay;refine dG qp zm ?_;refine⟨λaf=>gU cI aC λe h' aw er=>q.2 al e h' aw er,λaf=>?_⟩;rw[ak I] at aP;exact a7 _ _ _ _ I ⟨n*16+d,k+1,rfl,rfl,I,I,aP,rfl,rfl⟩
 .refine bG (dI aM hW) ?_;refine⟨λau=>?_,λau=>?_⟩
  .exact a7 _ _ _ _ I ⟨n,k+1,rfl,rfl,I,aI,by rw[<-aP,HS (i:=i+2+k) I I];rfl,rfl,rfl⟩
  .exact q.1 n (by rw[HR I];rfl)
def L7(D:B)(i j:Nat):Option Int:=(gint 10 (if g D i=45 then 9223372036854775808 else 9223372036854775807) D 0 (if g D i=45\/g D i=43 then i+1 else i) j).map λn:Nat=>if g D i=45 then-(n:Int) else(n:Int)
def aw1(h:n<=9223372036854775808):un .neg (ah (IntKind.i64.wrap (n:Int)))=J (ah (-(n:Int))):=by
 simp only[un];congr 2;simp only[jv];omega
def aip(aM:db h b D C)(aD:bp b i j C v)(aC:j<=U D)(eK:i<j)(aX:vL 10 D (if g D i=45\/g D i=43 then i+1 else i) j)(q:Em (L7 D i j) h b (U D) C R):bo 132 [v] h R:=by
 apply akK;have cI:=aD;obtain⟨e,rfl,aa,ad,an,aT,e0,hlen⟩:=aD.fL aM;unfold L7 at q;have s7:=dZ D i;refine aR ?_;refine rv (λu w h'=>∃(s:Nat) (ea:Bool),u=ah s/\w=aQ ea/\h'=h/\(if g D i=45\/g D i=43 then i+1 else i)=i+s/\s<=1/\(ea=ai↔g D i=45)) (λM cM=>?_) ?_
 .have fC:bn .add (ah 0) (ah 1)=J (ah (1:Nat)):=qL (a:=0) (b:=1) aE;refine dG (hA aM aa) fC ?_;refine⟨λc1=>cM _ _ _ ⟨1,ai,rfl,rfl,rfl,aA (bF c1),aE,by simp[c1]⟩,λc1=>⟨λc2=>cM _ _ _ ⟨1,av,rfl,rfl,rfl,aA (bt c2),aE,by simp[c1]⟩,λc2=>cM _ _ _ ⟨0,av,rfl,rfl,rfl,ak I,aE,by simp[c1]⟩⟩⟩
 rintro u w h' ⟨s,ea,rfl,rfl,rfl,aL,iD,C8⟩;rw[aL] at q aX;refine ll (λu cN=>u=a4 (((if g D i=45 then 9223372036854775808 else 9223372036854775807:Nat)):Int)/\cN=h') (λM cM=>?_) ?_
 .cases ea with
  |true=>rw[aA (C8.1 rfl)] at cM;refine aR ?_;grind
  |false=>rw[ak (λa=>al)] at cM;refine aR ?_;grind
 rintro u cN ⟨rfl,rfl⟩;have sw:(if g D i=45 then 9223372036854775808 else 9223372036854775807)=9223372036854775808\/(if g D i=45 then 9223372036854775808 else 9223372036854775807)=9223372036854775807:=al
 have acu:(if g D i=45 then 9223372036854775808 else 9223372036854775807)=9223372036854775808->ea=ai:=λa=>C8.2 al;generalize (if g D i=45 then 9223372036854775808 else 9223372036854775807)=m at q sw acu⊢;refine jn (λdW u v h'=>∃n k:Nat,v=a4 n/\u=ah (s+k:Nat)/\k<=j-(i+s)/\n<=m/\gint 10 m D n (i+(s+k)) j=gint 10 m D 0 (i+s) j/\h'=cN/\dW=j-(i+s)-k) (j-(i+s)) ⟨0,0,rfl,rfl,ed _,ed _,rfl,rfl,I⟩ ?_;rintro dW d u v h' N ⟨n,k,rfl,rfl,aq,aI,aP,rfl,rfl⟩ a7;rw[<-aP] at q;have s7:=dZ D (i+(s+k));by_cases aG:k<j-(i+s)/\g D (i+(s+k))≠95
 .obtain⟨au,hg⟩:=aG;obtain⟨d,aG,h9⟩:=(aX (i+(s+k)) I I).resolve_left hg;have ay:=rH aG;have sr:g D (i+(s+k))=48+d:=I
  rw[Md I hg aG] at q aP;clear ay;have b5:bn .quo (a4 m) (a4 10)=J (a4 (m/10:Nat)):=afk (b:=10) aE I;have MZ:¬m/10<n->bn .mul (a4 n) (a4 10)=J (a4 (n*10:Nat)):=λa=>zB (b:=10) I;have ar:48+d-48=d:=I
  refine vE (dI aM aa) sr b5 MZ ar ?_;refine⟨λaf=>gU cI aC λe h' aw er=>q.2 al e h' aw er,λaf=>⟨λcF=>gU cI aC λe h' aw er=>q.2 al e h' aw er,λcF=>?_⟩⟩;rw[ak I] at aP;exact a7 _ _ _ _ I ⟨n*10+d,k+1,rfl,rfl,I,I,aP,rfl,rfl⟩
 .refine bG (dI aM aa) ?_;refine⟨λau=>?_,λau=>?_⟩
  .exact a7 _ _ _ _ I ⟨n,k+1,rfl,rfl,I,aI,by rw[<-aP,HS (i:=i+(s+k)) I I];rfl,rfl,rfl⟩
  .rw[HR I] at q;cases ea with
   |true=>
    refine bG @aw1 ?_;refine q.1 _ ?_;grind
   |false=>
    have acs:m=9223372036854775807:=sw.resolve_left λa=>Bool.noConfusion (acu a);have hw:IntKind.i64.wrap (n:Int)=n:=by simp only[jv];omega
    refine bG hw ?_;refine q.1 _ ?_;grind
def AG(D:B)(i j:Nat):Option Int:=if i+2<j/\g D i=48 then(gint (if g D (i+1)=120 then 16 else if g D (i+1)=98 then 2 else 8) 9223372036854775807 D 0 (i+2) j).map λn:Nat=>(n:Int) else L7 D i j
def GZ(D:B)(i j:Nat):Prop:=i<j/\(i+2<j/\g D i=48->(g D (i+1)=120/\vL 16 D (i+2) j)\/(g D (i+1)=98/\vL 2 D (i+2) j)\/(g D (i+1)=111/\vL 8 D (i+2) j))/\(¬(i+2<j/\g D i=48)->vL 10 D (if g D i=45\/g D i=43 then i+1 else i) j)
def aib(aM:db h b D C)(aD:bp b i j C v)(aC:j<=U D)(ok:GZ D i j)(q:Em (AG D i j) h b (U D) C R):bo 109 [v] h R:=by
 apply akn;have cI:=aD;obtain⟨e,rfl,aa,ad,an,aT,e0,hlen⟩:=aD.fL aM;obtain⟨eK,F4,Jj⟩:=ok;unfold AG at q;have s7:=dZ D (i+1);have dec:¬(i+2<j/\g D i=48)->bo 132 [a5 (J ⟨b,e,ab⟩) (j-i) (C-i)] h λv h'=>Pu (exv 0 v) h' λx h'=>Pu (exv 1 v) h' λy h'=>R (bA #[x,y]) h':=λa=>by
  rw[ak a] at q;exact aip aM cI aC eK (Jj a) ⟨λn aI=>q.1 n aI,λaI e h' aw er=>q.2 aI e h' aw er⟩
 by_cases aF:i+2<j/\g D i=48
 .have aq:=F4 aF;rw[aA aF] at q;clear F4 Jj dec;have fin:∀r,vL r D (i+2) j->(r=if g D (i+1)=120 then 16 else if g D (i+1)=98 then 2 else 8)->Em ((gint r 9223372036854775807 D 0 (i+2) j).map λn:Nat=>(n:Int)) h b (U D) C λv h'=>Pu (exv 0 v) h' λx h'=>Pu (exv 1 v) h' λy h'=>R (bA #[x,y]) h':=λr _ e=>by
   rw[e];exact⟨λn aI=>q.1 n aI,λaI e h' aw er=>q.2 aI e h' aw er⟩
  obtain⟨il,e4⟩:=aF;rcases aq with ⟨c1,aq⟩|⟨c1,aq⟩|⟨c1,aq⟩
  .have f:=aim aM cI aC I aq (fin _ aq (by rw[c1];rfl));clear fin aq;refine i_ (dI aM aa) (hA aM aa) c1 e4 ?_;exact f
  .have f:=ain aM cI aC I aq (fin _ aq (by rw[c1];rfl));clear fin aq;refine i_ (dI aM aa) (hA aM aa) c1 e4 ?_;exact f
  .have f:=aio aM cI aC I aq (fin _ aq (by rw[c1];rfl));clear fin aq;refine i_ (dI aM aa) (hA aM aa) c1 e4 ?_;exact f
 .have dec:=dec aF;clear F4 Jj;refine dG (dI aM aa) (hA aM aa) ?_;exact⟨λ_=>dec,λ_=>dec⟩
end
section
variable{h:H}{R k:K}{b C i j N r n c:Nat}{v u e:ao}{D:B}
def Xx{g:Nat}{fn:Func}{ex:Array ao->Sem ao}{v:ao}(bj:P.funcs[g]?=J fn)(af:fn.body=ab)(ad:Extern.findNext fn=ab)(an:Extern.find fn=J ex)(aT:ex (aZ args)=pure v):z6 g args h k=k v h:=by
 have run:∀w,(callFunc g (aZ args)).run P w=.ok (.value v) w:=λw=>by
  have aa:=Uu g fn bj;simp[callFunc,bj,aa,af,ad,an,aT]
 apply propext;constructor
 .rintro⟨aDp,ch,aw,ar,aS,bl⟩;simp_all
 .intro a;exact⟨fn,v,bj,af,run,a⟩
def GQ{x:Nat}:z6 124 [a4 (x:Int)] h k=k (cU .f64 x) h:=
 Xx (fn:=Tryz.f124) Tryz.func124 b4 b4 (ex:=Extern.MathFloatBits.float64frombits) b4 rfl
def GP:z6 57 [cU .f64 x] h k=k (a4 (x:Int)) h:=
 Xx (fn:=Tryz.f57) Tryz.func57 b4 b4 (ex:=Extern.MathFloatBits.float64bits) b4 rfl
def TB:Nat:=9218868437227405312
def Xv(q:R (cU .f64 9218868437227405312) h):bo 93 [ah 1] h R:=by
 apply XV;refine aR ?_;exact(GQ (x:=9218868437227405312)).mpr q
def ajR(q:R (cU .f64 18442240474082181120) h):bo 93 [ah (-1)] h R:=by
 apply XV;have z:bn h0 (ah (-1)) (ah 0)=J (aQ av):=rfl;refine bG z ?_;exact(GQ (x:=18442240474082181120)).mpr q
def aiq(q:R (cU .f64 9221120237041090561) h):bo 133 [] h R:=by
 apply akL;refine aR ?_;exact(GQ (x:=9221120237041090561)).mpr q
def ais(aM:db h b D C)(aD:bp b i j C v)(aC:j<=U D)(bq:(∀l,i<=l->l<j->g D l≠x)->R (ah (-1)) h)(bw:∀l,i<=l->l<j->g D l=x->R (ah ((l-i:Nat):Int)) h):bo 135 [v,bu (x:Int)] h R:=by
 apply akN;obtain⟨e,rfl,aa,ad,an,aT,e0,hlen⟩:=aD.fL aM;refine aR ?_;refine eV (λdW u h'=>∃k:Nat,u=ah k/\k<=j-i/\(∀l,i<=l->l<i+k->g D l≠x)/\h'=h/\dW=j-i-k) (j-i) ⟨0,rfl,ed _,λl a bM=>I,rfl,I⟩ ?_;rintro dW d u h' N ⟨k,rfl,aq,fy,rfl,rfl⟩ a7;refine bG (dI aM aa) ?_;refine⟨λau=>⟨λae=>?_,λae=>?_⟩,λau=>?_⟩
 .grind
 .exact a7 _ _ _ I ⟨k+1,rfl,I,λl a bM=>by
   grind,rfl,rfl⟩
 grind
end
def jF(a b:Nat):Nat:=a/b+(if b<2*(a%b)\/(2*(a%b)=b/\a/b%2=1) then 1 else 0)
def afD(ay:0<c):jF (a*c) (b*c)=jF a b:=by
 unfold jF;rw[Nat.mul_div_mul_right _ _ ay,Nat.mul_mod_mul_right];have aa:b*c<2*(a%b*c)↔b<2*(a%b):=by
  rw[<-qE];simp_all
 have ad:2*(a%b*c)=b*c↔2*(a%b)=b:=by
  rw[<-qE];exact Nat.mul_left_inj I
 simp only[aa,ad]
def Jv(af:0<b)(aG:0<d)(h:a*d=c*b):jF a b=jF c d:=by
 rw[<-afD (a:=a) (b:=b) aG,<-afD (a:=c) (b:=d) af,h,xh b d]
def ZD:Ieee.Toward.even.cut neg n drop=jF n (2^drop):=by
 unfold Ieee.Toward.cut jF;have key:∀kz:Nat,(n/kz+(decide (kz<2*(n%kz))||(kz==2*(n%kz)&&n/kz%2==1)).toNat)=n/kz+(if kz<2*(n%kz)\/(2*(n%kz)=kz/\n/kz%2=1) then 1 else 0):=λkz=>by
  congr 1
  by_cases aa:kz<2*(n%kz)
  .simp[aa]
  .by_cases ad:2*(n%kz)=kz/\n/kz%2=1
   .have an:(kz==2*(n%kz))=ai:=beq_iff_eq.2 ad.1.symm;have aT:(n/kz%2==1)=ai:=beq_iff_eq.2 ad.2;rw[aA (bt ad),an,aT,Bool.and_true,OW];rfl
   .rw[ak (λa=>a.elim aa ad)];grind
 simp only[Nat.one_shiftLeft];rw[key];by_cases aG:drop<=n.log2+2
 .rw[yy aG]
 .rw[Nat.min_eq_right I];have aI:n<2^(n.log2+1):=KG;have aw:2^(n.log2+2)=2*2^(n.log2+1):=al
  have ar:2^(n.log2+2)<=2^drop:=l4 aE I;have z:∀kz,2*n<kz->n/kz+(if kz<2*(n%kz)\/(2*(n%kz)=kz/\n/kz%2=1) then 1 else 0)=0:=λkz aX=>by
   rw[O7 I,GC I,ak I]
  rw[z _ I,z _ I]
def mG(P Q w:Nat):Prop:=∃s t:Nat,2^52*(Q*2^t)<=P*2^s/\P*2^s<2^53*(Q*2^t)/\s<=t+1074/\t<=s+971/\w=(t+1074-s)*2^52+jF (P*2^s) (Q*2^t)
def zP:2^a<2^b↔a<b:=aB2 aE
def adn{P Q fT fU w bh:Nat}(eR:0<Q)(CT:0<fU)(ae:P*fU=fT*Q)(h:mG P Q w)(h':mG fT fU bh):w=bh:=by
 obtain⟨s,t,aa,ad,an,aT,rfl⟩:=h;obtain⟨eU,eO,cZ,cj,eI,jB,rfl⟩:=h';have p:∀n,0<2^n:=λn=>pX n;have lt:∀{P Q fT fU s t eU eO:Nat},0<Q->0<fU->P*fU=fT*Q->2^52*(Q*2^t)<=P*2^s->fT*2^eU<2^53*(fU*2^eO)->t+eU<=eO+s:=by
  intro P Q fT fU s t eU eO eR CT ae aa cj;have bx:2^52*(Q*2^t)*(fU*2^eU)<=P*2^s*(fU*2^eU):=jx _ aa;have bH:fT*2^eU*(Q*2^s)<2^53*(fU*2^eO)*(Q*2^s):=vH cj (iI eR (p _));have cq:P*2^s*(fU*2^eU)=fT*2^eU*(Q*2^s):=by
   grind
  have dT:2^52*(Q*2^t)*(fU*2^eU)<2^53*(fU*2^eO)*(Q*2^s):=I
  rw[(iN:2^52*(Q*2^t)*(fU*2^eU)=(2^52*2^t*2^eU)*(Q*fU)),(iN:2^53*(fU*2^eO)*(Q*2^s)=(2^53*2^eO*2^s)*(Q*fU)),<-fw,<-fw,<-fw,<-fw] at dT;have e3:=yx dT;rw[zP] at e3;omega
 have aw:=lt eR CT ae aa cj;have ar:=lt CT eR ae.symm cZ ad;have e:t+eU=eO+s:=I
 have aF:jF (P*2^s) (Q*2^t)=jF (fT*2^eU) (fU*2^eO):=by
  refine Jv (iI eR (p _)) (iI CT (p _)) ?_;rw[(iN:P*2^s*(fU*2^eO)=P*fU*(2^eO*2^s)),ae,<-fw,<-e,fw];ac_rfl
 rw[aF,(I:t+1074-s=eO+1074-eU)]
def Jw(af:0<b)(h:a<m*b):jF a b<=m:=by
 have aa:a/b<m:=Nat.div_lt_of_lt_mul al;unfold jF;split<;>omega
def Ua:Ieee.double.leastPlace= -1074:=aE
def Lw:Ieee.double.binade=2^52:=rfl
def Nq:Ieee.double.infRung=2047*2^52:=rfl
def aaf:Ieee.double.fractionBits=52:=rfl
def Ux{mag P Q u v:Nat}{place:Int}(hm:0<mag)(eR:0<Q)(jV:place=v-u)(ae:mag*2^v*Q=P*2^u)(aa: -1022<=place+mag.log2)(ad:place+mag.log2<=1023):mG P Q (Ieee.double.nearest av mag place):=by
 have p:∀n,0<2^n:=λn=>pX n;unfold Ieee.Format.nearest;rw[ak I];simp only[Ua,Lw,Nq,aaf,Ieee.Format.word,uL,lL];have mZ:max (place+(mag.log2:Int)-((52:Nat):Int)) (-1074)=place+mag.log2-52:=I
 rw[mZ];generalize au:place+(mag.log2:Int)-52=last at*;have wy:2^mag.log2<=mag:=KF I;have Fw:mag<2^(mag.log2+1):=KG;generalize mag.log2=Bl at*;generalize bE:(place-last).toNat=a;generalize af:(last-place).toNat=b;rw[ZD,Nat.shiftLeft_eq];have aL:∃s t:Nat,(t:Int)-s=last:=⟨(-last).toNat,last.toNat,I⟩;obtain⟨s,t,e_⟩:=aL;have CD:mag*2^a*(Q*2^t)=P*2^s*2^b:=by
  refine GB (p v) ?_;rw[(iN:mag*2^a*(Q*2^t)*2^v=mag*2^v*Q*(2^a*2^t)),ae,(iN:P*2^u*(2^a*2^t)=P*(2^u*2^a*2^t)),(iN:P*2^s*2^b*2^v=P*(2^s*2^b*2^v))];rw[<-fw,<-fw,<-fw,<-fw];congr 2;omega
 have br:2^52*2^b<=mag*2^a:=by
  rw[<-fw,(I:52+b=Bl+a),fw];exact jx _ wy
 have az:mag*2^a<2^53*2^b:=by
  rw[<-fw,(I:53+b=Bl+1+a),fw];simp_all
 have r:jF (mag*2^a) (2^b)=jF (P*2^s) (Q*2^t):=Jv (p _) (iI eR (p _)) CD;have Ff:=iI eR (p t);have dJ:2^52*(Q*2^t)<=P*2^s:=by
  refine Wy ?_ (p b);rw[<-CD,(iN:2^52*(Q*2^t)*2^b=2^52*2^b*(Q*2^t))];exact jx _ br
 have xT:P*2^s<2^53*(Q*2^t):=by
  refine yx (a:=2^b) ?_;rw[<-CD,(iN:2^53*(Q*2^t)*2^b=2^53*2^b*(Q*2^t))];exact vH az Ff
 refine⟨s,t,dJ,xT,I,I,?_⟩;have aq:=Jw Ff xT;rw[r,(I:(last- -1074).toNat=t+1074-s)];exact yy I
def agA:Ieee.double.signWeight=2^63:=rfl
def ayZ{E K:Nat}(h:E<=2045)(aa:2^52<=K)(ad:K<2^53):Ieee.double.read (E*2^52+K)=.number av K ((E:Int)-1074):=by
 unfold Ieee.Format.read;rw[agA,Lw,Nq,Ua];have aw:(E*2^52+K)/2^63%2=0:=I
 have ar:(E*2^52+K)%2^63=E*2^52+K:=I
 simp only[aw,ar];rw[ak I,aA I];have aS:(E*2^52+K)%2^52=K-2^52:=I
 have bl:(E*2^52+K)/2^52=E+1:=I
 rw[aS,bl,(I:2^52+(K-2^52)=K),(I:E+1-1=E),(I:(-1074+(E:Int))=(E:Int)-1074)];rfl
def Dl(x w:Nat):Prop:=∃K a b:Nat,Ieee.double.read w=.number av K ((a:Int)-b)/\K*2^a=x*2^b
def afE{K b:Nat}(af:0<b):jF (K*b) b=K:=by
 unfold jF;rw[Nat.mul_div_cancel _ af,Nat.mul_mod_left,ak I];omega
def Jd(aW:0<n)(h:n<=2^53):Dl n (Ieee.double.nearest av n 0):=by
 have p:∀n,0<2^n:=λn=>pX n;have wy:2^n.log2<=n:=KF I;have Fw:n<2^(n.log2+1):=KG;have aEF:n.log2<=53:=(aHb (a:=2) aE).1 (dH wy h);obtain⟨s,t,cZ,cj,eI,jB,hw⟩:=Ux (mag:=n) (P:=n) (Q:=1) (u:=0) (v:=0) (place:=0) aW aE I I I I;rw[Nat.one_mul] at cZ cj hw;rw[hw];have bx:2^(52+t)<2^(n.log2+1+s):=by
  rw[fw,fw];exact nT cZ (vH Fw (p s))
 rw[zP] at bx;have fin:∀K,n*2^s=K*2^t->Dl n ((t+1074-s)*2^52+jF (n*2^s) (2^t)):=λK cE=>by
  rw[cE,afE (p t)];rw[cE] at cZ cj;refine⟨K,t,s,?_,cE.symm⟩;rw[ayZ I (Wy cZ (p t)) (yx cj)];grind
 by_cases acZ:t<=s
 .refine fin (n*2^(s-t)) ?_;rw[qE,<-fw];grind
 .have au:n.log2=53:=I
  rw[au] at wy;have aI:n=2^53:=I
  refine fin (2^52) ?_;rw[aI,(I:t=s+1),<-fw,<-fw];grind
def aep(jr:0<x)(n4:0<y)(ae:Dl x OS)(a2:Dl y OT)(af:x*y<2^1000):∃w,Ieee.double.mul OS OT=J w/\mG (x*y) 1 w:=by
 obtain⟨K,a,b,aa,ad⟩:=ae;obtain⟨eD,bM,dP,xJ,nw⟩:=a2;refine⟨Ieee.double.nearest av (K*eD) (((a:Int)-b)+((bM:Int)-dP)),?_,?_⟩
 .simp only[Ieee.Format.mul,aa,xJ,Ieee.Datum.product,jl,Ieee.Format.write];rfl
 .have p:∀n,0<2^n:=λn=>pX n;have cE:0<K:=by
   apply xi;intro e;rw[e,pY] at ad;have:=iI jr (p b);omega
  have g7:0<eD:=by
   apply xi;intro e;rw[e,pY] at nw;have:=iI n4 (p dP);omega
  have hm:=iI cE g7;have aD:K*eD*2^(a+bM)=x*y*2^(b+dP):=by
   grind
  have wy:2^(K*eD).log2<=K*eD:=KF I;have Fw:K*eD<2^((K*eD).log2+1):=KG;have o8:2^((K*eD).log2+(a+bM))<2^(1000+(b+dP)):=by
   rw[fw,fw (m:=1000)];calc 2^(K*eD).log2*2^(a+bM)<=K*eD*2^(a+bM):=jx _ wy
    _=x*y*2^(b+dP):=aD
    _<_:=vH af (p _)
  have jg:2^(b+dP)<2^((K*eD).log2+1+(a+bM)):=by
   rw[fw (m:=(K*eD).log2+1)];calc 2^(b+dP)<=x*y*2^(b+dP):=Wx _ (iI jr n4)
    _=K*eD*2^(a+bM):=aD.symm
    _<_:=vH Fw (p _)
  rw[zP] at o8 jg;exact Ux (u:=b+dP) (v:=a+bM) hm aE I I I I
def azC(af:0<b)(cM:0<M):jF (2*(a/b)+(a%b !=0).toNat) (4*M)=jF (2*a) (b*(4*M)):=by
 have AW:=O6 a b;have aF:=z1 a af;generalize a/b=q at*;generalize a%b=r at*;subst AW;have aV:(r !=0).toNat=if r=0 then 0 else 1:=by
  grind
 rw[aV];have aM:=O6 (2*q) (4*M);have a3:=z1 (2*q) (I:0<4*M);have uo:(2*q)%(4*M)%2=0:=al
 generalize (2*q)/(4*M)=d at*;generalize (2*q)%(4*M)=qC at*;have arR:0<b*(4*M):=iI af I;have b_:2*q+(if r=0 then 0 else 1)=(qC+if r=0 then 0 else 1)+4*M*d:=I
 have cp:2*(b*q+r)=(b*qC+2*r)+b*(4*M)*d:=by
  grind
 have c3:(qC+if r=0 then 0 else 1)<4*M:=al
 have dA:b*qC+2*r<b*(4*M):=by
  have aT:b*qC+2*b<=b*(4*M):=by
   rw[xh 2 b,<-Nat.mul_add];exact nU _ I
  omega
 unfold jF;rw[b_,cp,aBX _ _ (I:0<4*M),aBX _ _ arR,aG9,aG9,O7 c3,O7 dA,GC c3,GC dA];have c1:(4*M<2*(qC+if r=0 then 0 else 1))↔(b*(4*M)<2*(b*qC+2*r)):=by
  by_cases h:r=0
  .rw[aA h,h];rw[(al:2*(b*qC+2*0)=b*(2*(qC+0)))];simp_all
  .rw[ak h];constructor
   .intro a;have:b*(2*M)<=b*qC:=nU _ I;grind
   .intro a;apply Kw;intro c;have:b*(qC+2)<=b*(2*M):=nU _ I;grind
 have c2:(2*(qC+if r=0 then 0 else 1)=4*M)↔(2*(b*qC+2*r)=b*(4*M)):=by
  by_cases h:r=0
  .rw[aA h,h];rw[(al:2*(b*qC+2*0)=b*(2*(qC+0)))];exact(Nat.mul_right_inj I).symm
  .rw[ak h];constructor
   .omega
   .intro a;exfalso;have e:b*(4*M)=2*(b*(2*M)):=al
    have bM:b*qC+2*r=b*(2*M):=I
    by_cases au:qC<2*M
    .have:b*(qC+2)<=b*(2*M):=nU _ I;grind
    grind
 simp only[c1,c2]
def azD{D n mag P Q u v:Nat}{place:Int}(aI:0<n)(eR:0<Q)(SV:mag=2*(D/n)+(D%n !=0).toNat)(hD:54<=mag.log2)(jV:place=v-u)(ae:2*D*2^v*Q=P*2^u*n)(aa: -1022<=place+mag.log2)(ad:place+mag.log2<=1023):mG P Q (Ieee.double.nearest av mag place):=by
 have p:∀n,0<2^n:=λn=>pX n;have sw:mag≠0:=by intro e;rw[e] at hD;exact absurd hD aE
 unfold Ieee.Format.nearest;rw[ak sw];simp only[Ua,Lw,Nq,aaf,Ieee.Format.word,uL,lL];have mZ:max (place+(mag.log2:Int)-((52:Nat):Int)) (-1074)=place+mag.log2-52:=I
 rw[mZ];have wy:2^mag.log2<=mag:=KF sw;have Fw:mag<2^(mag.log2+1):=KG;generalize mag.log2=L at*;obtain⟨e,rfl⟩:∃e,L=e+54:=⟨L-54,I⟩;have AB:(place-(place+((e+54:Nat):Int)-52)).toNat=0:=I
 have t':(place+((e+54:Nat):Int)-52-place).toNat=e+2:=I
 rw[AB,t',Nat.shiftLeft_zero,ZD,SV,(al:2^(e+2)=4*2^e),azC aI (p e)];have e_:(D%n !=0).toNat<=1:=Bool.toNat_le _;have aL:∃s t:Nat,(t:Int)-s=place+e+2:=⟨(-(place+e+2)).toNat,(place+e+2).toNat,I⟩;obtain⟨s,t,auW⟩:=aL;have bl:4*2^e=2^(e+2):=al
 have CD:2*D*(Q*2^t)=P*2^s*(n*(4*2^e)):=by
  refine GB (p v) ?_;rw[(iN:2*D*(Q*2^t)*2^v=2*D*2^v*Q*2^t),ae,bl,(iN:P*2^u*n*2^t=P*n*(2^u*2^t)),(iN:P*2^s*(n*2^(e+2))*2^v=P*n*(2^s*2^(e+2)*2^v))];rw[<-fw,<-fw,<-fw];grind
 have AW:=O6 D n;have aF:=z1 D aI;have aDl:2^(e+54)=2*2^(e+53):=al
 have aDm:2^(e+54+1)=2*2^(e+54):=I
 have apT:2^52*(4*2^e)=2^(e+54):=al
 have apU:2^53*(4*2^e)=2^(e+54+1):=I
 have br:2^52*(n*(4*2^e))<=2*D:=by
  rw[aB1,apT];have:n*2^(e+54)<=n*(2*(D/n)):=nU _ I;grind
 have az:2*D<2^53*(n*(4*2^e)):=by
  rw[aB1,apU];have:n*(2*(D/n)+2)<=n*2^(e+54+1):=nU _ I;grind
 have ef:0<n*(4*2^e):=iI aI I;have Ff:=iI eR (p t);have r:jF (2*D) (n*(4*2^e))=jF (P*2^s) (Q*2^t):=Jv ef Ff CD;have dJ:2^52*(Q*2^t)<=P*2^s:=by
  refine Wy ?_ ef;rw[<-CD,(iN:2^52*(Q*2^t)*(n*(4*2^e))=2^52*(n*(4*2^e))*(Q*2^t))];exact jx _ br
 have xT:P*2^s<2^53*(Q*2^t):=by
  refine yx (a:=n*(4*2^e)) ?_;rw[<-CD,(iN:2^53*(Q*2^t)*(n*(4*2^e))=2^53*(n*(4*2^e))*(Q*2^t))];exact vH az Ff
 refine⟨s,t,dJ,xT,I,I,?_⟩;have aq:=Jw Ff xT;rw[r,(I:(place+((e+54:Nat):Int)-52- -1074).toNat=t+1074-s)];exact yy I
set_option exponentiation.threshold 2000 in
def ZR(jr:0<x)(n4:0<y)(ae:Dl x OS)(a2:Dl y OT)(af:x<2^400)(dN:y<2^400):∃w,Ieee.double.div OS OT=J w/\mG x y w:=by
 obtain⟨K,a,b,aa,ad⟩:=ae;obtain⟨eD,bM,dP,xJ,nw⟩:=a2;have p:∀n,0<2^n:=λn=>pX n;have cE:0<K:=by
  apply xi;intro e;rw[e,pY] at ad;have:=iI jr (p b);omega
 have g7:0<eD:=by
  apply xi;intro e;rw[e,pY] at nw;have:=iI n4 (p dP);omega
 have hw:Ieee.double.div OS OT=J (Ieee.double.nearest av (2*(K<<<(54+eD.log2-K.log2)/eD)+(K<<<(54+eD.log2-K.log2)%eD !=0).toNat) (((a:Int)-b)-((bM:Int)-dP)-((54+eD.log2-K.log2:Nat):Int)-1)):=by
  simp only[Ieee.Format.div,aa,xJ,Ieee.Datum.quotient,jl,Ieee.Format.write];rw[ak I];rfl
 refine⟨_,hw,?_⟩;clear hw;have cZ:2^K.log2<=K:=KF I;have cj:eD<2^(eD.log2+1):=KG;generalize oU:54+eD.log2-K.log2=sG;rw[Nat.shiftLeft_eq];generalize aM:K*2^sG=D;have arC:2^53*eD<=D:=by
  rw[<-aM];calc 2^53*eD<=2^53*2^(eD.log2+1):=nU _ (KE cj)
   _=2^(53+(eD.log2+1)):=al
   _<=2^(K.log2+sG):=l4 aE I
   _=2^K.log2*2^sG:=fw _ _ _
   _<=_:=jx _ cZ
 have b5:2^53<=D/eD:=(Nat.le_div_iff_mul_le g7).2 arC;have AW:=O6 D eD;have aF:=z1 D g7;have e_:(D%eD !=0).toNat<=1:=Bool.toNat_le _;generalize SV:2*(D/eD)+(D%eD !=0).toNat=mag;have hD:54<=mag.log2:=(Nat.le_log2 I).2 I;have wy:2^mag.log2<=mag:=KF I;have Fw:mag<2^(mag.log2+1):=KG;have aD:2*D*2^(a+dP)*y=x*2^(b+bM+sG+1)*eD:=by
  grind
 have jV:((a:Int)-b)-((bM:Int)-dP)-(sG:Int)-1=((a+dP:Nat):Int)-((b+bM+sG+1:Nat):Int):=I
 rw[jV];generalize a+dP=v at*;generalize b+bM+sG+1=u at*;clear jV aa xJ ad nw cZ cj;have mF:eD*2<=2*D:=by
  omega
 have up:2^(mag.log2+v)<2^(400+(u+1)):=by
  refine yx (a:=eD*y) ?_;have bx:mag*eD<=4*D:=by
   have:eD*mag<=eD*(2*(D/eD)+1):=nU _ I;grind
  calc 2^(mag.log2+v)*(eD*y)=2^mag.log2*(eD*2^v*y):=al
   _<=mag*(eD*2^v*y):=jx _ wy
   _=mag*eD*(2^v*y):=iN
   _<=4*D*(2^v*y):=jx _ bx
   _=2*(2*D*2^v*y):=al
   _=2*(x*2^u*eD):=by rw[aD]
   _=x*(2^(u+1)*eD):=al
   _<2^400*(2^(u+1)*eD):=vH af (iI (p _) g7)
   _=2^(400+(u+1))*eD:=al
   _<=2^(400+(u+1))*(eD*y):=nU _ (vG _ n4)
 have apl:2^u<2^(mag.log2+2+v+400):=by
  refine yx (a:=eD) ?_;have bx:2*D<eD*2^(mag.log2+2):=by
   have e:2^(mag.log2+2)=2*2^(mag.log2+1):=al
   have:eD*(2*(D/eD)+2)<=eD*2^(mag.log2+2):=nU _ I;grind
  calc 2^u*eD<=x*(2^u*eD):=Wx _ jr
   _=x*2^u*eD:=iN
   _=2*D*(2^v*y):=al
   _<eD*2^(mag.log2+2)*(2^v*y):=vH bx (iI (p _) n4)
   _<=eD*2^(mag.log2+2)*(2^v*2^400):=nU _ (nU _ (KE dN))
   _=2^(mag.log2+2+v+400)*eD:=al
 rw[zP] at up apl;exact azD g7 n4 SV.symm hD rfl aD I I
def kg:List Nat:=[4607182418800017408,4621819117588971520,4636737291354636288,4652007308841189376,4666723172467343360,4681608360884174848,4696837146684686336,4711630319722168320,4726483295884279808,4741671816366391296,4756540486875873280,4771362005757984768,4786511204640096256,4801453603149578240,4816244402031689728,4831355200913801216,4846369599423283200,4861130398305394688,4876203697187506176,4891288408196988160,4906019910204099648,4921056587992461136,4936209963552724370]
def Bv:∀{k:Nat},k<=22->Dl (10^k) (kg.getD k 0):=λ{k} h=>by
 match k,h with
 |0,_=>exact⟨4503599627370496,0,52,b4,b4⟩
 |1,_=>exact⟨5629499534213120,0,49,b4,b4⟩
 |2,_=>exact⟨7036874417766400,0,46,b4,b4⟩
 |3,_=>exact⟨8796093022208000,0,43,b4,b4⟩
 |4,_=>exact⟨5497558138880000,0,39,b4,b4⟩
 |5,_=>exact⟨6871947673600000,0,36,b4,b4⟩
 |6,_=>exact⟨8589934592000000,0,33,b4,b4⟩
 |7,_=>exact⟨5368709120000000,0,29,b4,b4⟩
 |8,_=>exact⟨6710886400000000,0,26,b4,b4⟩
 |9,_=>exact⟨8388608000000000,0,23,b4,b4⟩
 |10,_=>exact⟨5242880000000000,0,19,b4,b4⟩
 |11,_=>exact⟨6553600000000000,0,16,b4,b4⟩
 |12,_=>exact⟨8192000000000000,0,13,b4,b4⟩
 |13,_=>exact⟨5120000000000000,0,9,b4,b4⟩
 |14,_=>exact⟨6400000000000000,0,6,b4,b4⟩
 |15,_=>exact⟨8000000000000000,0,3,b4,b4⟩
 |16,_=>exact⟨5000000000000000,1,0,b4,b4⟩
 |17,_=>exact⟨6250000000000000,4,0,b4,b4⟩
 |18,_=>exact⟨7812500000000000,7,0,b4,b4⟩
 |19,_=>exact⟨4882812500000000,11,0,b4,b4⟩
 |20,_=>exact⟨6103515625000000,14,0,b4,b4⟩
 |21,_=>exact⟨7629394531250000,17,0,b4,b4⟩
 |22,_=>exact⟨4768371582031250,21,0,b4,b4⟩
 |n+23,h=>omega
def ax8:∀{k:Nat},k<22->Ieee.double.mul (kg.getD k 0) 4621819117588971520=J (kg.getD (k+1) 0):=λ{k} h=>by
 match k,h with
 |0,_=>exact(b4:Ieee.double.mul 4607182418800017408 4621819117588971520=J 4621819117588971520)
 |1,_=>exact(b4:Ieee.double.mul 4621819117588971520 4621819117588971520=J 4636737291354636288)
 |2,_=>exact(b4:Ieee.double.mul 4636737291354636288 4621819117588971520=J 4652007308841189376)
 |3,_=>exact(b4:Ieee.double.mul 4652007308841189376 4621819117588971520=J 4666723172467343360)
 |4,_=>exact(b4:Ieee.double.mul 4666723172467343360 4621819117588971520=J 4681608360884174848)
 |5,_=>exact(b4:Ieee.double.mul 4681608360884174848 4621819117588971520=J 4696837146684686336)
 |6,_=>exact(b4:Ieee.double.mul 4696837146684686336 4621819117588971520=J 4711630319722168320)
 |7,_=>exact(b4:Ieee.double.mul 4711630319722168320 4621819117588971520=J 4726483295884279808)
 |8,_=>exact(b4:Ieee.double.mul 4726483295884279808 4621819117588971520=J 4741671816366391296)
 |9,_=>exact(b4:Ieee.double.mul 4741671816366391296 4621819117588971520=J 4756540486875873280)
 |10,_=>exact(b4:Ieee.double.mul 4756540486875873280 4621819117588971520=J 4771362005757984768)
 |11,_=>exact(b4:Ieee.double.mul 4771362005757984768 4621819117588971520=J 4786511204640096256)
 |12,_=>exact(b4:Ieee.double.mul 4786511204640096256 4621819117588971520=J 4801453603149578240)
 |13,_=>exact(b4:Ieee.double.mul 4801453603149578240 4621819117588971520=J 4816244402031689728)
 |14,_=>exact(b4:Ieee.double.mul 4816244402031689728 4621819117588971520=J 4831355200913801216)
 |15,_=>exact(b4:Ieee.double.mul 4831355200913801216 4621819117588971520=J 4846369599423283200)
 |16,_=>exact(b4:Ieee.double.mul 4846369599423283200 4621819117588971520=J 4861130398305394688)
 |17,_=>exact(b4:Ieee.double.mul 4861130398305394688 4621819117588971520=J 4876203697187506176)
 |18,_=>exact(b4:Ieee.double.mul 4876203697187506176 4621819117588971520=J 4891288408196988160)
 |19,_=>exact(b4:Ieee.double.mul 4891288408196988160 4621819117588971520=J 4906019910204099648)
 |20,_=>exact(b4:Ieee.double.mul 4906019910204099648 4621819117588971520=J 4921056587992461136)
 |21,_=>exact(b4:Ieee.double.mul 4921056587992461136 4621819117588971520=J 4936209963552724370)
 |n+22,h=>omega
section
variable{h:H}{R k:K}
def Jl:List ao:=[cU .f64 4607182418800017408,cU .f64 4621819117588971520,cU .f64 4636737291354636288,cU .f64 4652007308841189376,cU .f64 4666723172467343360,cU .f64 4681608360884174848,cU .f64 4696837146684686336,cU .f64 4711630319722168320,cU .f64 4726483295884279808,cU .f64 4741671816366391296,cU .f64 4756540486875873280,cU .f64 4771362005757984768,cU .f64 4786511204640096256,cU .f64 4801453603149578240,cU .f64 4816244402031689728,cU .f64 4831355200913801216,cU .f64 4846369599423283200,cU .f64 4861130398305394688,cU .f64 4876203697187506176,cU .f64 4891288408196988160,cU .f64 4906019910204099648,cU .f64 4921056587992461136,cU .f64 4936209963552724370]
def ax7{k:Nat}(aq:k<=22):Jl[k]?=J (cU .f64 (kg.getD k 0)):=by
 have:Jl=kg.map (Value.float .f64):=rfl;rw[this,D4,iw];have au:k<U kg:=by have:U kg=23:=rfl;omega
 grind
def YB:Z 232=[cU .f64 0,cU .f64 0,cU .f64 0,cU .f64 0,cU .f64 0,cU .f64 0,cU .f64 0,cU .f64 0,cU .f64 0,cU .f64 0,cU .f64 0,cU .f64 0,cU .f64 0,cU .f64 0,cU .f64 0,cU .f64 0,cU .f64 0,cU .f64 0,cU .f64 0,cU .f64 0,cU .f64 0,cU .f64 0,cU .f64 0]:=b4
def ahZ:Bd (Z 232) [(0,1,cU .f64 4607182418800017408),(1,1,cU .f64 4621819117588971520),(2,1,cU .f64 4636737291354636288),(3,1,cU .f64 4652007308841189376),(4,1,cU .f64 4666723172467343360),(5,1,cU .f64 4681608360884174848),(6,1,cU .f64 4696837146684686336),(7,1,cU .f64 4711630319722168320),(8,1,cU .f64 4726483295884279808),(9,1,cU .f64 4741671816366391296),(10,1,cU .f64 4756540486875873280),(11,1,cU .f64 4771362005757984768),(12,1,cU .f64 4786511204640096256),(13,1,cU .f64 4801453603149578240),(14,1,cU .f64 4816244402031689728),(15,1,cU .f64 4831355200913801216),(16,1,cU .f64 4846369599423283200),(17,1,cU .f64 4861130398305394688),(18,1,cU .f64 4876203697187506176),(19,1,cU .f64 4891288408196988160),(20,1,cU .f64 4906019910204099648),(21,1,cU .f64 4921056587992461136),(22,1,cU .f64 4936209963552724370)] h k=k (cA (aZ Jl)) h:=by rw[YB];rfl
def W5(q:∀h',aB h h'->R (cA (aZ Jl)) h'):bo 160 [] h R:=by
 apply ale;refine V9 @ahZ ?_;rw[h7 (n:=23) (by rw[YB];rfl) rfl rfl,jK (n:=23) rfl aE];exact q _ (aB.push _ _)
end
noncomputable section
variable[hz]{n:Nat}
def gwp:Code->List (Option (List Nat))->Cb->(Nat->Fr->H->Prop)->Fr->H->Prop
 | .skip,_,k,gt,f,h=>k.n f h
 | .region _ ops av,_,k,gt,f,h=>regW (bC ops) (bC ops) k.n f h
 | .region _ ops ai,A,k,gt,f,h=>match aG A with
  |some L=>fD (U L) (λb7=>EV ops (λbm h'=>ap (U L) b7 (kh bm L) h') f h)
   (λd=>lam (U L) λvs h'=>k.n (mix (dsts (bC ops)) f d L vs) h')
  |none=>EV ops k.n f h
 | .seq a b,A,k,gt,f,h=>match aG A with
  |some L=>fD (U L) (λb7=>gwp a (na A) ⟨λbm h'=>ap (U L) b7 (kh bm L) h',k.x,k.r⟩ gt f h)
   (λd=>lam (U L) λvs h'=>gwp b (CG (lS a) (na A)) k gt (mix (writes a) f d L vs) h')
  |none=>gwp a (na A) ⟨λbm h'=>gwp b (CG (lS a) (na A)) k gt bm h',k.x,k.r⟩ gt f h
 | .cond c a b,A,k,gt,f,h=>b1 (ev f c) (gwp a A k gt f h) (gwp b (CG (lS a) A) k gt f h)
 | .block id c,A,k,gt,f,h=>match aG A with
  |some L=>fD (U L) (λb7=>gwp c (na A) ⟨λbm h'=>ap (U L) b7 (kh bm L) h',λj bm h'=>cond (Nat.beq j id) (ap (U L) b7 (kh bm L) h') (k.x j bm h'),k.r⟩ gt f h)
   (λd=>lam (U L) λvs h'=>k.n (mix (writes c) f d L vs) h')
  |none=>gwp c (na A) ⟨k.n,λj bm h'=>cond (Nat.beq j id) (k.n bm h') (k.x j bm h'),k.r⟩ gt f h
 | .loop c,A,k,gt,f,h=>match aG A with
  |some L=>iL (U L) (kh f L) h λb7 d=>lam (U L) λvs h'=>gwp c (na A) ⟨λbm cN=>ap (U L) b7 (kh bm L) cN,k.x,k.r⟩ gt (mix (writes c) f d L vs) h'
  |none=>False
 | .exit id,_,k,gt,f,h=>k.x id f h
 | .ret,_,k,gt,f,h=>k.r f h
 | .goto l,_,_,gt,f,h=>gt l f h
 |_,_,_,_,_,_=>False
def QG(n:Nat)(S:List Nat)(f:Fr)(w:World)(k:Cb)(gt:Nat->Fr->H->Prop):Exit->Act->World->Prop:=λe bM bh=>e9 w bh/\∃bm,Rel n bM bm/\eG S f bm/\match e with
 | .normal=>k.n bm bh.heap
 | .exit id=>k.x id bm bh.heap
 | .ret=>k.r bm bh.heap
 | .goto l=>gt l bm bh.heap
 |_=>False
omit [hz] in
def QG.mono{S T:List Nat}{f f0:Fr}{w BO:World}{k k':Cb}{gt:Nat->Fr->H->Prop}{e:Exit}{bM:Act}{bh:World}(h:QG n S f w k gt e bM bh)(aL:e9 BO w)(aH:eG T f0 f)(e_:∀i,memB i S=ai->memB i T=ai)
  (aa:∀bm h,eG T f0 bm->k.n bm h->k'.n bm h) (ad:∀id bm h,eG T f0 bm->k.x id bm h->k'.x id bm h) (an:∀bm h,eG T f0 bm->k.r bm h->k'.r bm h):QG n T f0 BO k' gt e bM bh:=by
 obtain⟨s,bm,r,o,h⟩:=h;have fc:eG T f0 bm:=aH.trans (o.mono e_);refine⟨aL.trans s,bm,r,fc,?_⟩;grind
omit [hz] in
def QG.Je{S:List Nat}{f:Fr}{w:World}{k:Cb}{gt:Nat->Fr->H->Prop}(c:List PanicEntry)(bM:Act)(bh:World):¬QG n S f w k gt (.panic c) bM bh:=λ⟨_,_,_,_,h⟩=>h
def RO(aI:tx)(sx:P.follows .mixedOrders=ai):∀(c:Code) (A:List (Option (List Nat))) (k:Cb) (gt:Nat->Fr->H->Prop) (f:Fr) (a:Act) (w:World),Rel n a f->lY n (writes c)=ai->gwp c A k gt f w.heap->c.wp P (QG n (writes c) f w k gt) a w:=by
 intro c;induction c with
 |skip=>intro A k gt f a w r _ h;exact wp_skip ⟨e9.refl w,f,r,eG.refl _ _,h⟩
 |exit id=>intro A k gt f a w r _ h;exact wp_exit ⟨e9.refl w,f,r,eG.refl _ _,h⟩
 |goto l=>intro A k gt f a w r _ h;exact wp_goto ⟨e9.refl w,f,r,eG.refl _ _,h⟩
 |ret=>intro A k gt f a w r _ h;exact wp_ret ⟨e9.refl w,f,r,eG.refl _ _,h⟩
 |region id ops draw=>
  intro A k gt f a w r aG h;cases draw with
  |false=>
   exact wp_region_list (Vf aI (bC ops) a w f r aG h λbM bh bm cC eU fc h'=>⟨eU,bm,cC,fc,h'⟩)
  |true=>
   simp only[gwp] at h;split at h
   .rename_i L fO;obtain⟨b7,cr,fP⟩:=h;exact LK aI sx (λc a w=>QG.Je c a w) aG r fP λbM bh bm cC eU fc h'=>⟨eU,bm,cC,fc,x8 cr fc h'⟩
   .exact LK aI sx (λc a w=>QG.Je c a w) aG r h λbM bh bm cC eU fc h'=>⟨eU,bm,cC,fc,h'⟩
 |seq x y Dj Bf=>
  intro A k gt f a w r aG h;simp only[writes,F5,pf] at aG;have qu:∀i,memB i (writes x)=ai->memB i (writes (.seq x y))=ai:=λi az=>by simp only[writes,ya,az,Wk]
  have yn:∀i,memB i (writes y)=ai->memB i (writes (.seq x y))=ai:=λi az=>by simp only[writes,ya,az,OW]
  have key:∀(i' iJ:List (Option (List Nat))) (k6:Fr->H->Prop),gwp x i' ⟨k6,k.x,k.r⟩ gt f w.heap->(∀bm h',eG (writes x) f bm->k6 bm h'->gwp y iJ k gt bm h')->(Code.seq x y).wp P (QG n (writes (.seq x y)) f w k gt) a w:=by
   intro i' iJ k6 ae a2;apply wp_seq;refine wp_mono (Dj i' _ gt f a w r aG.1 ae) λe bM bh b5=>?_;cases e with
   |normal=>
    obtain⟨s,bm,cC,o,bO⟩:=b5;exact wp_mono (Bf iJ k gt bm bM bh cC aG.2 (a2 bm _ o bO)) λe oL qA tk=>tk.mono s (o.mono qu) yn (λ_ _ _ h=>h) (λ_ _ _ _ h=>h) (λ_ _ _ h=>h)
   |exit id=>exact b5.mono (gt:=gt) (k':=k) (e9.refl w) (eG.refl _ _) qu (e:=.exit id) (k:=⟨λ_ _=>False,k.x,k.r⟩) (λ_ _ _ h=>h.elim) (λ_ _ _ _ h=>h) (λ_ _ _ h=>h)
   |ret=>exact b5.mono (gt:=gt) (k':=k) (e9.refl w) (eG.refl _ _) qu (e:=.ret) (k:=⟨λ_ _=>False,k.x,k.r⟩) (λ_ _ _ h=>h.elim) (λ_ _ _ _ h=>h) (λ_ _ _ h=>h)
   |goto l=>exact b5.mono (gt:=gt) (k':=k) (e9.refl w) (eG.refl _ _) qu (e:=.goto l) (k:=⟨λ_ _=>False,k.x,k.r⟩) (λ_ _ _ h=>h.elim) (λ_ _ _ _ h=>h) (λ_ _ _ h=>h)
   |panic mo=>exact b5.2.choose_spec.2.2.elim
   |outgrown=>exact b5.2.choose_spec.2.2.elim
  simp only[gwp] at h;split at h
  .rename_i L fO;obtain⟨b7,cr,fP⟩:=h;exact key _ _ _ fP λbm h' o bO=>x8 cr o bO
  .exact key _ _ _ h λbm h' _ bO=>bO
 |cond c x y Dj Bf=>
  intro A k gt f a w r aG h;simp only[writes,F5,pf] at aG;have qu:∀i,memB i (writes x)=ai->memB i (writes (.cond c x y))=ai:=λi az=>by simp only[writes,ya,az,Wk]
  have yn:∀i,memB i (writes y)=ai->memB i (writes (.cond c x y))=ai:=λi az=>by simp only[writes,ya,az,OW]
  simp only[gwp] at h;unfold b1 at h;split at h
  .rename_i t aP;have ay:a.eval c=aQ t:=(r.ev c).trans aP;exact wp_cond_split ay (λe=>wp_mono (Dj A k gt f a w r aG.1 (h.1 e)) λe bM bh b5=>b5.mono (e9.refl w) (eG.refl _ _) qu (λ_ _ _ h=>h) (λ_ _ _ _ h=>h) (λ_ _ _ h=>h))
    (λe=>wp_mono (Bf _ k gt f a w r aG.2 (h.2 e)) λe bM bh b5=>b5.mono (e9.refl w) (eG.refl _ _) yn (λ_ _ _ h=>h) (λ_ _ _ _ h=>h) (λ_ _ _ h=>h))
  grind
 |block id x bR=>
  intro A k gt f a w r aG h;have key:∀(i':List (Option (List Nat))) (k6:Fr->H->Prop),gwp x i' ⟨k6,λj bm h'=>cond (Nat.beq j id) (k6 bm h') (k.x j bm h'),k.r⟩ gt f w.heap->(∀bm h',eG (writes x) f bm->k6 bm h'->k.n bm h')->(Code.block id x).wp P (QG n (writes (.block id x)) f w k gt) a w:=by
   intro i' k6 ae aq;apply wp_block;refine wp_mono (bR i' _ gt f a w r aG ae) λe bM bh b5=>?_;obtain⟨s,bm,cC,o,bO⟩:=b5;cases e with
   |normal=>exact⟨s,bm,cC,o,aq _ _ o bO⟩
   |exit j=>
    simp only[Exit.inBlock];simp only at bO;split
    .rename_i e;subst e;rw[Nat.beq_refl] at bO;exact⟨s,bm,cC,o,aq _ _ o bO⟩
    .rename_i e;have:Nat.beq j id=av:=by
      cases af:Nat.beq j id with
      |false=>rfl
      |true=>simp_all
     rw[this] at bO;exact⟨s,bm,cC,o,bO⟩
   |ret=>exact⟨s,bm,cC,o,bO⟩
   |goto l=>exact⟨s,bm,cC,o,bO⟩
   |panic mo=>grind
   |outgrown=>grind
  simp only[gwp] at h;split at h
  .rename_i L fO;obtain⟨b7,cr,fP⟩:=h;exact key _ _ fP λbm h' o bO=>x8 cr o bO
  grind
 |loop x bR=>
  intro A k gt f a w r aG h;simp only[gwp] at h;split at h
  .rename_i L fO;obtain⟨b7,⟨uA,aW⟩,cr⟩:=h;let pm:Act->World->Nat->Prop:=λbM bh m=>∃bm,Rel n bM bm/\ap (U L) (b7 m) (kh bm L) bh.heap
   refine wp_loop (λbM bh=>e9 w bh/\∃bm,Rel n bM bm/\eG (writes x) f bm/\∃m,ap (U L) (b7 m) (kh bm L) bh.heap) (λbM bh=>least (pm bM bh)) ⟨e9.refl w,f,r,eG.refl _ _,uA,aW⟩ ?_;rintro bM bh ⟨s,bm,cC,o,m,hm⟩;obtain⟨f2,cK,ad⟩:=(T2 (p:=pm bM bh) ⟨m,bm,cC,hm⟩).1;have ar:=cK.cf cC;subst ar;generalize aX:least (pm bM bh)=dK at ad;have af:gwp x (na A) ⟨λbm cN=>ap (U L) (ex (U L) b7 dK) (kh bm L) cN,k.x,k.r⟩ gt f2 bh.heap:=
    x8 (F:=λbm h'=>gwp x (na A) ⟨λbm cN=>ap (U L) (ex (U L) b7 dK) (kh bm L) cN,k.x,k.r⟩ gt bm h') (cr dK) o ad
   refine wp_mono (bR _ _ gt f2 bM bh cC aG af) λe oL qA b5=>?_;obtain⟨eU,f3,df,o4,bO⟩:=b5;have fc:=o.trans o4;have yk:=s.trans eU;cases e with
   |normal=>
    simp only[ex] at bO;rw[Lp _ _ _ (Ox f3 L)] at bO;obtain⟨ez,a',qn⟩:=bO;refine⟨⟨yk,f3,df,fc,ez,qn⟩,?_⟩;exact nT (least_le (p:=pm oL qA) ⟨f3,df,qn⟩) (aX▸a')
   |exit j=>exact⟨yk,f3,df,fc,bO⟩
   |ret=>exact⟨yk,f3,df,fc,bO⟩
   |goto l=>exact⟨yk,f3,df,fc,bO⟩
   |panic mo=>grind
   |outgrown=>grind
  grind
 |_=>intro A k gt f a w r _ h;exact h.elim
def preL(l:Nat):Code->Option (Code×Code)
 | .seq (.label m) b=>if m=l then J (.skip,b) else ab
 | .seq a c=>match preL l c with
  |J (x,b)=>J (.seq a x,b)
  |none=>ab
 |_=>ab
def ayh(h:preL l (.seq a c)=J (x,b)):(a=.label l/\x=.skip/\b=c)\/∃ec,preL l c=J (ec,b)/\x=.seq a ec:=by
 cases a with
 |label m=>
  simp only[preL] at h;grind
 |_=>
  simp only[preL] at h;grind
def ayi(aI:tx)(sx:P.follows .mixedOrders=ai):∀(c x:Code) (A:List (Option (List Nat))) (k:Cb) (f:Fr) (a:Act) (w:World),preL l c=J (x,b)->Rel n a f->lY n (writes x)=ai->gwp x A k gt f w.heap->
  (∀bm bM bh,e9 w bh->Rel n bM bm->eG (writes x) f bm->k.n bm bh.heap->b.wp P Q bM bh)->(∀e bM bh,e≠.normal->QG n (writes x) f w k gt e bM bh->Q e bM bh)->c.wp P Q a w:=by
 intro c;induction c with
 |seq y z Bf avA=>
  intro x A k f a w aJ r aG h af b5;rcases ayh aJ with ⟨rfl,rfl,rfl⟩|⟨ec,hE,rfl⟩
  .exact wp_seq (wp_label (af f a w (e9.refl w) r (eG.refl _ _) h))
  .simp only[writes,F5,pf] at aG;have qu:∀i,memB i (writes y)=ai->memB i (writes (.seq y ec))=ai:=λi az=>by simp only[writes,ya,az,Wk]
   have yn:∀i,memB i (writes ec)=ai->memB i (writes (.seq y ec))=ai:=λi az=>by simp only[writes,ya,az,OW]
   have key:∀(i' iJ:List (Option (List Nat))) (k6:Fr->H->Prop),gwp y i' ⟨k6,k.x,k.r⟩ gt f w.heap->(∀bm h',eG (writes y) f bm->k6 bm h'->gwp ec iJ k gt bm h')->(Code.seq y z).wp P Q a w:=by
    intro i' iJ k6 ae a2;apply wp_seq;refine wp_mono (RO aI sx y i' _ gt f a w r aG.1 ae) λe bM bh tk=>?_;cases e with
    |normal=>
     obtain⟨s,bm,cC,o,bO⟩:=tk;refine avA ec iJ k bm bM bh hE cC aG.2 (a2 bm _ o bO) (λf2 bH gD s2 cK o2 ad=>af f2 bH gD (s.trans s2) cK ((o.mono qu).trans (o2.mono yn)) ad) λe oL qA he mF=>b5 e oL qA he ?_;exact mF.mono (gt:=gt) s (o.mono qu) yn (λ_ _ _ h=>h) (λ_ _ _ _ h=>h) (λ_ _ _ h=>h)
    |exit id=>exact b5 _ _ _ (λe=>nomatch e) (tk.mono (gt:=gt) (k':=k) (e9.refl w) (eG.refl _ _) qu (e:=.exit id) (k:=⟨λ_ _=>False,k.x,k.r⟩) (λ_ _ _ h=>h.elim) (λ_ _ _ _ h=>h) (λ_ _ _ h=>h))
    |ret=>exact b5 _ _ _ (λe=>nomatch e) (tk.mono (gt:=gt) (k':=k) (e9.refl w) (eG.refl _ _) qu (e:=.ret) (k:=⟨λ_ _=>False,k.x,k.r⟩) (λ_ _ _ h=>h.elim) (λ_ _ _ _ h=>h) (λ_ _ _ h=>h))
    |goto l=>exact b5 _ _ _ (λe=>nomatch e) (tk.mono (gt:=gt) (k':=k) (e9.refl w) (eG.refl _ _) qu (e:=.goto l) (k:=⟨λ_ _=>False,k.x,k.r⟩) (λ_ _ _ h=>h.elim) (λ_ _ _ _ h=>h) (λ_ _ _ h=>h))
    |panic mo=>exact tk.2.choose_spec.2.2.elim
    |outgrown=>exact tk.2.choose_spec.2.2.elim
   simp only[gwp] at h;split at h
   .rename_i L fO;obtain⟨b7,cr,fP⟩:=h;exact key _ _ _ fP λbm h' o bO=>x8 cr o bO
   .exact key _ _ _ h λbm h' _ bO=>bO
 |_=>intro x A k f a w aJ;simp[preL] at aJ
def fnG(fn:Func)(cv x b:Code)(z2 i' iJ:List (Option (List Nat)))(L:List Nat)(args:List ao)(h:H)(R:K):Prop:=
 gwp cv z2 ⟨λf h=>fD (U L) (λb7=>gwp x i' ⟨λbm h'=>ap (U L) b7 (kh bm L) h',λ_ _ _=>False,retW (bC fn.results) R⟩ (λl bm h'=>match l with|0=>ap (U L) b7 (kh bm L) h'|_=>False) f h)
  (λd=>lam (U L) λvs h'=>gwp b iJ ⟨retW (bC fn.results) R,λ_ _ _=>False,retW (bC fn.results) R⟩ (λ_ _ _=>False) (mix (writes x) f d L vs) h'),λ_ _ _=>False,retW (bC fn.results) R⟩ (λ_ _ _=>False) (argF args) h
def Cs_gt(aI:tx)(sx:P.follows .mixedOrders=ai)(z2 i' iJ:List (Option (List Nat)))(L:List Nat)(bj:P.funcs[k]?=J fn)(af:fn.body=J (.seq cv (.scope c)))
  (aJ:preL 0 c=J (x,b)) (au:findLabel c 0=J (.seq .skip b)) (zd:lY fn.ntmps (writes cv)=ai) (vh:lY fn.ntmps (writes x)=ai) (h9:lY fn.ntmps (writes b)=ai) (bE:Nat.ble (U args) fn.ntmps=ai) (w:fnG fn cv x b z2 i' iJ L args h R):bo k args h R:=by
 intro wd bO;subst bO;have hle:=lK bE;let Yf:World->Exit->Act->World->Prop:=λwd e bM bh=>e9 wd bh/\∃bm,Rel fn.ntmps bM bm/\match e with
  | .normal=>retW (bC fn.results) R bm bh.heap
  | .ret=>retW (bC fn.results) R bm bh.heap
  |_=>False
 refine calls_of_wp bj af (wp_mono (Q:=Yf wd) ?_ ?_)
 .apply wp_seq;refine wp_mono (RO (n:=fn.ntmps) aI sx cv z2 _ _ (argF args) _ wd ⟨?_,rfl,?_⟩ zd w) ?_
  .simp;omega
  .intro i;rw[<-P' args (fn.ntmps-U args) i];simp[<-Ku]
  .intro e bx gu b5;obtain⟨s,f1,cc,eJ,bO⟩:=b5;cases e with
   |normal=>
    obtain⟨b7,cr,fP⟩:=bO;have vV:∀bm bM bh,e9 gu bh->Rel fn.ntmps bM bm->eG (writes x) f1 bm->ap (U L) b7 (kh bm L) bh.heap->∀fD,b.wp P (Exit.jump 0 fD (Yf wd)) bM bh:=λbm bM bh eU cC fc az fD=>by
     refine wp_mono (RO (n:=fn.ntmps) aI sx b iJ _ _ bm bM bh cC h9 (x8 cr fc az)) λe oL qA b5=>?_;obtain⟨s2,f2,cK,o2,bO⟩:=b5;cases e with
     |normal=>exact⟨s.trans (eU.trans s2),f2,cK,bO⟩
     |ret=>exact⟨s.trans (eU.trans s2),f2,cK,bO⟩
     |exit j=>grind
     |goto l=>grind
     |panic mo=>grind
     |outgrown=>grind
    refine wp_scope_jumps 0 (λbM bh=>e9 gu bh/\∃bm,Rel fn.ntmps bM bm/\eG (writes x) f1 bm/\ap (U L) b7 (kh bm L) bh.heap) (λ_ _=>0) au ?_ ?_
    .refine ayi (n:=fn.ntmps) aI sx c x i' _ f1 bx gu aJ cc vh fP (λbm bM bh eU cC fc az=>vV bm bM bh eU cC fc az _) λe bM bh he b5=>?_;obtain⟨s2,f2,cK,o2,bO⟩:=b5;cases e with
     |normal=>grind
     |ret=>exact⟨s.trans s2,f2,cK,bO⟩
     |exit j=>grind
     |goto l=>
      cases l with
      |zero=>exact⟨rfl,s2,f2,cK,o2,bO⟩
      |succ l=>grind
     |panic mo=>grind
     |outgrown=>grind
    .rintro bM bh ⟨eU,bm,cC,fc,az⟩;exact wp_seq (wp_skip (vV bm bM bh eU cC fc az _))
   |ret=>exact⟨s,f1,cc,bO⟩
   |exit j=>grind
   |goto l=>grind
   |panic mo=>grind
   |outgrown=>grind
 .intro e bM bh b5;obtain⟨s,bm,r,bO⟩:=b5;cases e with
  |normal=>
   obtain⟨v,aa,ad⟩:=Oj r.slot bO;exact⟨r.defers,v,aa,⟨v,rfl,ad⟩,s⟩
  |ret=>
   obtain⟨v,aa,ad⟩:=Oj r.slot bO;exact⟨r.defers,v,aa,⟨v,rfl,ad⟩,s⟩
  |exit j=>grind
  |goto l=>grind
  |panic mo=>grind
  |outgrown=>grind
end
def U9(fn:Func):Code:=match fn.body with|J (.seq r _)=>r|_=>.skip
def Jz(fn:Func):Code:=match fn.body with|J (.seq _ (.scope c))=>c|_=>.skip
def We(fn:Func):Code:=match preL 0 (Jz fn) with|J (x,_)=>x|none=>.skip
def Ls(fn:Func):Code:=match preL 0 (Jz fn) with|J (_,b)=>b|none=>.skip
def aj4(i' iJ:List (Option (List Nat)))(L:List Nat)(args:List ao)(fn:Func)(bj:P.funcs[k]?=J fn)(af:fn.body=J (.seq (U9 fn) (.scope (Jz fn))))
  (aJ:preL 0 (Jz fn)=J (We fn,Ls fn)) (au:findLabel (Jz fn) 0=J (.seq .skip (Ls fn))) (aG:lY fn.ntmps (writes (U9 fn))=ai/\lY fn.ntmps (writes (We fn))=ai/\lY fn.ntmps (writes (Ls fn))=ai) (bE:Nat.ble (U args) fn.ntmps=ai)
  (e:W=fnG fn (U9 fn) (We fn) (Ls fn) [] i' iJ L args h R) (w:W):bo k args h R:=
 Cs_gt Uu aei [] i' iJ L bj af aJ au aG.1 aG.2.1 aG.2.2 bE (e▸w)
def Yv(dk:ao)(h:H)(R:K):Prop:=
 fD 5 (λlN=>fD 2 (λnV=>Pu (fb dk) h λv1 h=>
 Pu (bn fG (ba .i64 0) v1) h λv2 h=>
 a0 v2 ai (λh k=>k dk h) h λdD h=>
 a0 v2 ai (λh k=>k (ba .i64 0) h) h λv4 h=>
 a0 v2 ai (Pu (ia 1 dD v4)) h λfI h=>
 a0 v2 ai (cd fI) h λv6 h=>
 a0 v2 ai (Pu (bn cQ v6 (ba .u8 43))) h λhH h=>
 a0 v2 ai (λh k=>k hH h) h λj4 h=>
 a0 j4 av (λh k=>k dk h) h λj5 h=>
 a0 j4 av (λh k=>k (ba .i64 0) h) h λv10 h=>
 a0 j4 av (Pu (ia 1 j5 v10)) h λv11 h=>
 a0 j4 av (cd v11) h λhv h=>
 a0 j4 av (Pu (bn cQ hv (ba .u8 45))) h λjG h=>
 a0 v2 ai (Pu (pk j4 (aQ ai) jG)) h λlG h=>
 Pu (pk v2 lG (aQ av)) h λjh h=>
 b1 jh (Pu (ia 1 dk (ba .i64 0)) h λiq h=>
 cd iq h λiY h=>
 Pu (bn cQ iY (ba .u8 45)) h λri h=>
 Pu (bn .add (ba .i64 0) (ba .i64 1)) h λh4 h=>
 nV h4 ri h)<|
 nV (ba .i64 0) (aQ av) h) λ_ v20 gC h=>
 iL 6 [v20,(ba .u64 0),(ba .i64 0),(ba .i64 0),(aQ av),(aQ av)] h λsc _ f' g2 ji hS jj gT h=>
 Pu (fb dk) h λjH h=>
 Pu (bn fG f' jH) h λmL h=>
 b1 mL (Pu (ia 1 dk f') h λv30 h=>
 cd v30 h λj2 h=>
 Pu (bn h0 j2 (ba .u8 48)) h λmM h=>
 a0 mM ai (λh k=>k j2 h) h λlb h=>
 a0 mM ai (Pu (bn .leq lb (ba .u8 57))) h λkM h=>
 Pu (pk mM kM (aQ av)) h λpR h=>
 b1 pR (Pu (bn h0 ji (ba .i64 19)) h λlH h=>
 b1 lH (R (bA #[(cU .f64 0),(aQ av)]) h)<|
 Pu (bn .mul g2 (ba .u64 10)) h λkN h=>
 Pu (bn .sub j2 (ba .u8 48)) h λkj h=>
 Pu (ci .u64 kj) h λme h=>
 Pu (bn .add kN me) h λjI h=>
 Pu (bn .add ji (ba .i64 1)) h λnO h=>
 b1 jj (Pu (bn .add hS (ba .i64 1)) h λnP h=>
 Pu (bn .add f' (ba .i64 1)) h λl1 h=>
 sc l1 jI nO nP jj (aQ ai) h)<|
 Pu (bn .add f' (ba .i64 1)) h λo_ h=>
 sc o_ jI nO hS jj (aQ ai) h)<|
 Pu (bn cQ j2 (ba .u8 46)) h λiH h=>
 b1 iH (b1 jj (R (bA #[(cU .f64 0),(aQ av)]) h)<|
 Pu (bn .add f' (ba .i64 1)) h λkO h=>
 sc kO g2 ji hS (aQ ai) gT h)<|
 lN f' gC g2 hS gT h)<|
 lN f' gC g2 hS gT h) λ_ nQ n' nd kk nf h=>
 Pu (un .not nf) h λmf h=>
 b1 mf (R (bA #[(cU .f64 0),(aQ av)]) h)<|
 Pu (un .neg kk) h λmg h=>
 fD 2 (λqG=>Pu (fb dk) h λng h=>
 Pu (bn fG nQ ng) h λkl h=>
 a0 kl ai (λh k=>k dk h) h λlI h=>
 a0 kl ai (λh k=>k nQ h) h λsQ h=>
 a0 kl ai (Pu (ia 1 lI sQ)) h λmh h=>
 a0 kl ai (cd mh) h λo' h=>
 a0 kl ai (Pu (bn cQ o' (ba .u8 101))) h λqy h=>
 a0 kl ai (λh k=>k qy h) h λjk h=>
 a0 jk av (λh k=>k dk h) h λkm h=>
 a0 jk av (λh k=>k nQ h) h λpa h=>
 a0 jk av (Pu (ia 1 km pa)) h λmi h=>
 a0 jk av (cd mi) h λnh h=>
 a0 jk av (Pu (bn cQ nh (ba .u8 69))) h λoA h=>
 a0 kl ai (Pu (pk jk (aQ ai) oA)) h λkn h=>
 Pu (pk kl kn (aQ av)) h λrj h=>
 b1 rj (Pu (bn .add nQ (ba .i64 1)) h λjJ h=>
 fD 2 (λsW=>Pu (fb dk) h λkP h=>
 Pu (bn fG jJ kP) h λj3 h=>
 a0 j3 ai (λh k=>k dk h) h λld h=>
 a0 j3 ai (λh k=>k jJ h) h λxa h=>
 a0 j3 ai (Pu (ia 1 ld xa)) h λr5 h=>
 a0 j3 ai (cd r5) h λuH h=>
 a0 j3 ai (Pu (bn cQ uH (ba .u8 43))) h λqz h=>
 a0 j3 ai (λh k=>k qz h) h λmj h=>
 a0 mj av (λh k=>k dk h) h λni h=>
 a0 mj av (λh k=>k jJ h) h λoB h=>
 a0 mj av (Pu (ia 1 ni oB)) h λpb h=>
 a0 mj av (cd pb) h λiZ h=>
 a0 mj av (Pu (bn cQ iZ (ba .u8 45))) h λju h=>
 a0 j3 ai (Pu (pk mj (aQ ai) ju)) h λoC h=>
 Pu (pk j3 oC (aQ av)) h λnj h=>
 b1 nj (Pu (ia 1 dk jJ) h λl2 h=>
 cd l2 h λko h=>
 Pu (bn cQ ko (ba .u8 45)) h λmN h=>
 b1 mN (Pu (bn .add jJ (ba .i64 1)) h λkQ h=>
 sW kQ (ba .i64 (-1)) h)<|
 Pu (bn .add jJ (ba .i64 1)) h λlg h=>
 sW lg (ba .i64 1) h)<|
 sW jJ (ba .i64 1) h) λ_ oa nR h=>
 Pu (fb dk) h λmO h=>
 Pu (bn h0 oa mO) h λrk h=>
 b1 rk (R (bA #[(cU .f64 0),(aQ av)]) h)<|
 iL 2 [oa,(ba .i64 0)] h λCa _ pS rl h=>
 Pu (fb dk) h λoD h=>
 Pu (bn fG pS oD) h λrm h=>
 b1 rm (Pu (ia 1 dk pS) h λnk h=>
 cd nk h λml h=>
 Pu (bn fG ml (ba .u8 48)) h λpN h=>
 a0 pN av (λh k=>k ml h) h λo9 h=>
 a0 pN av (Pu (bn hf o9 (ba .u8 57))) h λr2 h=>
 Pu (pk pN (aQ ai) r2) h λvC h=>
 b1 vC (R (bA #[(cU .f64 0),(aQ av)]) h)<|
 Pu (bn .mul rl (ba .i64 10)) h λuE h=>
 Pu (bn .sub ml (ba .u8 48)) h λzR h=>
 Pu (ci .i64 zR) h λuF h=>
 Pu (bn .add uE uF) h λr3 h=>
 Pu (bn hf r3 (ba .i64 1000)) h λyq h=>
 b1 yq (R (bA #[(cU .f64 0),(aQ av)]) h)<|
 Pu (bn .add pS (ba .i64 1)) h λzS h=>
 Ca zS r3 h)<|
 Pu (bn .mul nR rl) h λzT h=>
 Pu (bn .add mg zT) h λDS h=>
 qG pS DS h)<|
 qG nQ mg h) λ_ DT ic h=>
 Pu (fb dk) h λw7 h=>
 Pu (bn hF DT w7) h λie h=>
 b1 ie (R (bA #[(cU .f64 0),(aQ av)]) h)<|
 Pu (bn hf nd (ba .u64 9007199254740992)) h λtG h=>
 b1 tG (R (bA #[(cU .f64 0),(aQ av)]) h)<|
 Pu (yT .f64 nd) h λuG h=>
 fD 1 (λuV=>Pu (bn cQ ic (ba .i64 0)) h λw8 h=>
 b1 w8 (uV uG h)<|
 Pu (bn hf ic (ba .i64 0)) h λsO h=>
 a0 sO ai (λh k=>k ic h) h λr4 h=>
 a0 sO ai (Pu (bn .leq r4 (ba .i64 22))) h λoz h=>
 Pu (pk sO oz (aQ av)) h λw9 h=>
 b1 w9 (bD 160 [] h λw_ h=>
 Pu (ixa 23 w_ ic) h λre h=>
 Pu (bn .mul uG re) h λsP h=>
 uV sP h)<|
 Pu (bn fG ic (ba .i64 0)) h λpO h=>
 a0 pO ai (λh k=>k ic h) h λpP h=>
 a0 pO ai (Pu (bn h0 pP (ba .i64 (-22)))) h λpQ h=>
 Pu (pk pO pQ (aQ av)) h λDU h=>
 b1 DU (bD 160 [] h λJV h=>
 Pu (un .neg ic) h λJW h=>
 Pu (ixa 23 JV JW) h λJX h=>
 Pu (bn .quo uG JX) h λJY h=>
 uV JY h)<|
 R (bA #[(cU .f64 0),(aQ av)]) h) λ_ Gn h=>
 b1 n' (Pu (un .neg Gn) h λrf h=>
 R (bA #[rf,(aQ ai)]) h)<|
 R (bA #[Gn,(aQ ai)]) h
def akM(dk:ao)(h:H)(R:K)(w:Yv dk h R):bo 134 [dk] h R:=aj4 [ab,ab,J [4,5],ab,ab,ab,ab,ab,ab,ab,ab,ab,J [4,6,7,8,9,10],ab,ab,ab,ab,ab,ab,ab,ab,ab,ab,ab,ab,ab,ab,ab,ab,ab,ab] [ab,ab,ab,ab,J [4,12],ab,ab,ab,J [4,13],ab,ab,ab,ab,ab,ab,ab,ab,ab,J [4,14],ab,ab,ab,ab,ab,ab,ab,ab,ab,ab,ab,ab,ab,ab,ab,ab,ab,ab,J [16],ab,ab,ab,ab,ab,ab,ab,ab] [4,5,6,8,10] [dk] Tryz.f134 Tryz.func134 b4 b4 b4 ⟨b4,b4,b4⟩ b4 b4 w
def oj(D:B)(j p n c cf:Nat)(dot la:Bool):Option (Nat×Nat×Nat×Bool):=if h:p<j then(if 48<=g D p/\g D p<=57 then(if 19<=c then ab else oj D j (p+1) (n*10+(g D p-48)) (c+1) (if dot=ai then cf+1 else cf) dot ai)
 else if g D p=46 then(if dot=ai then ab else oj D j (p+1) n c cf ai la) else J (p,n,cf,la)) else J (p,n,cf,la)
termination_by j-p
def qN(D:B)(j p ev:Nat):Option Nat:=if h:p<j then(if g D p<48\/57<g D p then ab else if 1000<ev*10+(g D p-48) then ab else qN D j (p+1) (ev*10+(g D p-48))) else J ev
termination_by j-p
def y1(D:B)(j p cf:Nat):Option (Int×Nat):=if p<j/\(g D p=101\/g D p=69) then
  (if p+1<j/\(g D (p+1)=43\/g D (p+1)=45) then(if j<=p+2 then ab else(qN D j (p+2) 0).map λev=>(-(cf:Int)+(if g D (p+1)=45 then-(ev:Int) else(ev:Int)),j))
   else if j<=p+1 then ab else(qN D j (p+1) 0).map λev=>(-(cf:Int)+(ev:Int),j))
 else J (-(cf:Int),p)
def gfast(D:B)(i j:Nat):Option (Bool×Nat×Int):=match oj D j (if i<j/\(g D i=43\/g D i=45) then i+1 else i) 0 0 0 av av with
 |none=>ab
 |J (p,n,cf,la)=>if la=av then ab else match y1 D j p cf with
  |none=>ab
  |J (e,hG)=>if hG≠j then ab else if 9007199254740992<n then ab else if-22<=e/\e<=22 then J (decide (i<j/\g D i=45),n,e) else ab
def l7(n:Nat):Nat:=Ieee.double.nearest av n 0
def sn(n:Nat)(e:Int):Nat:=if e=0 then l7 n else if 0<e then(Ieee.double.mul (l7 n) (kg.getD e.toNat 0)).getD 0 else(Ieee.double.div (l7 n) (kg.getD (-e).toNat 0)).getD 0
def pJ(neg:Bool)(w:Nat):Nat:=if neg=ai then Op.negFloat .f64 w else w
def aae(h:p<j)(aa:48<=g D p/\g D p<=57)(ad:c<19):oj D j p n c cf dot la=oj D j (p+1) (n*10+(g D p-48)) (c+1) (if dot=ai then cf+1 else cf) dot ai:=by
 rw[oj,gw h,aA aa,ak I]
def aab(h:p<j)(aa:48<=g D p/\g D p<=57)(ad:19<=c):oj D j p n c cf dot la=ab:=by
 rw[oj,gw h,aA aa,aA ad]
def aac(h:p<j)(aa:g D p=46):oj D j p n c cf av la=oj D j (p+1) n c cf ai la:=by
 rw[oj,gw h,ak I,aA aa,ak aE]
def aad(h:p<j)(aa:g D p=46):oj D j p n c cf ai la=ab:=by
 rw[oj,gw h,ak I,aA aa,aA rfl]
def Q7(h:p<j->¬(48<=g D p/\g D p<=57)/\g D p≠46):oj D j p n c cf dot la=J (p,n,cf,la):=by
 rw[oj];split
 .rename_i aJ;rw[ak (h aJ).1,ak (h aJ).2]
 .rfl
def anv(b7:Nat->ao->ao->ao->ao->ao->ao->H->Prop)(m:Nat)(aW:b7 m v1 v2 dD v4 fI v6 h)(aL:∀m d v1 v2 dD v4 fI v6 h (N:ao->ao->ao->ao->ao->ao->H->Prop),b7 m v1 v2 dD v4 fI v6 h->(∀ez v1 v2 dD v4 fI v6 h,ez<m->b7 ez v1 v2 dD v4 fI v6 h->N v1 v2 dD v4 fI v6 h)->b N d v1 v2 dD v4 fI v6 h):iL 6 [v1,v2,dD,v4,fI,v6] h b:=
 ⟨b7,⟨m,aW⟩,λm d v1 v2 dD v4 fI v6 h az=>aL m d v1 v2 dD v4 fI v6 h _ az λez _ _ _ _ _ _ _ hm h=>⟨ez,hm,h⟩⟩
def anl(Q:ao->ao->ao->ao->ao->H->Prop)(aa:∀N:ao->ao->ao->ao->ao->H->Prop,(∀a b c d e h,Q a b c d e h->N a b c d e h)->X N)(ad:∀a b c d e h,Q a b c d e h->k a b c d e h):fD 5 X (λ_=>k):=⟨Q,λ_ _ _ _ _ _ _ h=>ad _ _ _ _ _ _ h,aa Q λ_ _ _ _ _ _ h=>h⟩
def ZE(h:n<=2^53):∃K pl,Ieee.double.read (l7 n)=.number av K pl:=by
 by_cases aW:n=0
 .subst aW;exact⟨0,-1074,b4⟩
 .obtain⟨K,a,b,aa,_⟩:=Jd I h;exact⟨K,_,aa⟩
def Gb(k:Nat):0<10^k:=ob aE
def aar(h:n<=2^53)(aq:k<=22):∃w,Ieee.double.mul (l7 n) (kg.getD k 0)=J w:=by
 obtain⟨K,pl,aa⟩:=ZE h;obtain⟨eD,a,b,ad,_⟩:=Bv aq;simp only[Ieee.Format.mul,aa,ad,Ieee.Datum.product,jl];grind
def aah(h:n<=2^53)(aq:k<=22):∃w,Ieee.double.div (l7 n) (kg.getD k 0)=J w:=by
 obtain⟨K,pl,aa⟩:=ZE h;obtain⟨eD,a,b,ad,an⟩:=Bv aq;have g7:eD≠0:=by
  intro e;rw[e,pY] at an;have:=iI (Gb k) (pX b);omega
 simp only[Ieee.Format.div,aa,ad,Ieee.Datum.quotient,jl];rw[ak g7];exact⟨_,rfl⟩
section
variable{h:H}{R k:K}{b C i j N r n c:Nat}{v u e:ao}{D:B}
def Zn(n:Nat):yT .f64 (a4 (n:Int))=J (cU .f64 (l7 n)):=by
 have e:FloatKind.f64.nearest (n:Int)=l7 n:=by
  unfold FloatKind.nearest FloatKind.encode Ieee.Format.write l7;simp only[aBI];rw[ig I];rfl
 rw[<-e];rfl
def aqj(n:Nat):sn n 0=l7 n:=by unfold sn;grind
def aqm{n k:Nat}(h:n<=2^53)(aW:0<k)(aq:k<=22):bn .mul (cU .f64 (l7 n)) (cU .f64 (kg.getD k 0))=J (cU .f64 (sn n k)):=by
 obtain⟨w,hw⟩:=aar h aq;have e:sn n k=w:=by unfold sn;grind
 rw[e];show(if FloatKind.f64=FloatKind.f64 then(Ieee.double.mul (l7 n) (kg.getD k 0)).map λr=>Value.float .f64 r else ab)=_;grind
def aqk{n k:Nat}(h:n<=2^53)(aW:0<k)(aq:k<=22):bn .quo (cU .f64 (l7 n)) (cU .f64 (kg.getD k 0))=J (cU .f64 (sn n (-(k:Int)))):=by
 obtain⟨w,hw⟩:=aah h aq;have e:sn n (-(k:Int))=w:=by unfold sn;grind
 rw[e];show(if FloatKind.f64=FloatKind.f64 then(Ieee.double.div (l7 n) (kg.getD k 0)).map λr=>Value.float .f64 r else ab)=_;grind
def ado{k:Nat}(aq:k<=22):ixa 23 (cA (aZ Jl)) (ah (k:Int))=J (cU .f64 (kg.getD k 0)):=by
 unfold ixa;simp only;rw[aA ⟨I,I⟩,pU,O0,ax7 aq]
def air(aM:db h b D C)(aD:bp b i j C v)(aC:j<=U D)(bq:gfast D i j=ab->R (bA #[cU .f64 0,aQ av]) h) (bw:∀neg n e,gfast D i j=J (neg,n,e)->∀h',aB h h'->R (bA #[cU .f64 (pJ neg (sn n e)),aQ ai]) h'):bo 134 [v] h R:=by
 apply akM;obtain⟨e,rfl,aa,ad,an,aT,e0,hlen⟩:=aD.fL aM;unfold Yv;refine anl (λbx bH cq dT e3 h'=>∃p n cf la,oj D j (if i<j/\(g D i=43\/g D i=45) then i+1 else i) 0 0 0 av av=J (i+p,n,cf,la)/\p<=j-i/\n<10^19/\cf<=19/\bx=ah p/\bH=aQ (decide (i<j/\g D i=45))/\cq=a4 n/\dT=ah cf/\e3=aQ la/\h'=h) (λM cM=>?_) ?_
 .refine rv (λu w h'=>∃s:Nat,u=ah s/\w=aQ (decide (i<j/\g D i=45))/\h'=h/\(if i<j/\(g D i=43\/g D i=45) then i+1 else i)=i+s/\i+s<=j) (λM2 n0=>?_) ?_
  .have fC:bn .add (ah 0) (ah 1)=J (ah (1:Nat)):=qL (a:=0) (b:=1) aE;have aGC:¬(i<j/\(g D i=43\/g D i=45))->M2 (ah 0) (aQ av) h:=λa=>by
    grind
   have aGD:i<j->g D i=43->M2 (ah (1:Nat)) (aQ av) h:=λa bH=>by
    refine n0 _ _ _ ⟨1,rfl,?_,rfl,aA ⟨a,bF bH⟩,I⟩;simp_all
   have aGE:i<j->g D i=45->M2 (ah (1:Nat)) (aQ ai) h:=λa bH=>by
    refine n0 _ _ _ ⟨1,rfl,?_,rfl,aA ⟨a,bt bH⟩,I⟩;grind
   refine dG (hA aM aa) fC ?_;grind
  .rintro u w h' ⟨s,rfl,rfl,rfl,aL,Nh⟩;rw[aL] at cM;refine anv (λdW v1 v2 dD v4 fI v6 cN=>∃p n c cf dot la,oj D j (i+p) n c cf dot la=oj D j (i+s) 0 0 0 av av/\p<=j-i/\n<10^c/\c<=19/\cf<=c/\v1=ah p/\v2=a4 n/\dD=ah c/\v4=ah cf/\fI=aQ dot/\v6=aQ la/\cN=h'/\dW=j-i-p) (j-i-s) ⟨s,0,0,0,av,av,rfl,I,aE,aE,aE,rfl,rfl,rfl,rfl,rfl,rfl,rfl,rfl⟩ ?_;rintro dW d v1 v2 dD v4 fI v6 cN N ⟨p,n,c,cf,dot,la,bj,aJ,aI,ay,Fl,rfl,rfl,rfl,rfl,rfl,rfl,rfl,rfl⟩ a7;have aEM:n<10^19:=cP aI (l4 aE ay);have aEL:c<19->n<1000000000000000000:=λa=>cP aI (l4 (n:=10) aE (I:c<=18));have s7:=dZ D (i+p);have yS:oj D j (i+s) 0 0 0 av av=ab->R (bA #[cU .f64 0,aQ av]) cN:=λa=>bq (by unfold gfast;rw[aL,a]);have stop:(i+p<j->¬(48<=g D (i+p)/\g D (i+p)<=57)/\g D (i+p)≠46)->M (ah p) (aQ (decide (i<j/\g D i=45))) (a4 n) (ah cf) (aQ la) cN:=λa=>by
    rw[Q7 a] at bj;grind
   clear bq bw;have MZ:¬19<=c->bn .mul (a4 n) (a4 10)=J (a4 (n*10:Nat)):=λa=>zB (b:=10) I;have asc:¬19<=c->∀x:Nat,x<256->bn .add (a4 (n*10:Nat)) (a4 x)=J (a4 (n*10+x:Nat)):=λa x ae=>EF I;refine hk (dI aM aa) MZ asc ?_;refine⟨λau=>⟨λc1=>⟨λc2=>⟨λcy=>yS (by rw[<-bj,aab I ⟨c1,c2⟩ cy]),λcy=>?_⟩,λc2=>stop λ_=>⟨λx=>c2 x.2,I⟩⟩,λc1=>⟨λc2=>?_,λc2=>stop λ_=>⟨λx=>c1 x.1,c2⟩⟩⟩,λau=>stop λx=>absurd x I⟩
   .rw[aae I ⟨c1,c2⟩ I] at bj;have kY:n*10+(g D (i+p)-48)<10^(c+1):=I
    cases dot with
    |true=>
     refine aR ?_;exact a7 _ _ _ _ _ _ _ _ I ⟨p+1,_,c+1,cf+1,ai,ai,bj,I,kY,I,I,rfl,rfl,rfl,rfl,rfl,rfl,rfl,rfl⟩
    |false=>
     refine aR ?_;exact a7 _ _ _ _ _ _ _ _ I ⟨p+1,_,c+1,cf,av,ai,bj,I,kY,I,I,rfl,rfl,rfl,rfl,rfl,rfl,rfl,rfl⟩
   .cases dot with
    |true=>
     rw[aad I c2] at bj;refine aR ?_;grind
    |false=>
     rw[aac I c2] at bj;refine aR ?_;exact a7 _ _ _ _ _ _ _ _ I ⟨p+1,n,c,cf,ai,la,bj,I,aI,I,I,rfl,rfl,rfl,rfl,rfl,rfl,rfl,rfl⟩
 .rintro bx bH cq dT e3 h' ⟨p,n,cf,la,bj,aJ,aI,Fl,rfl,rfl,rfl,rfl,rfl,rfl⟩;have zg:gfast D i j=(if la=av then ab else match y1 D j (i+p) cf with
   |none=>ab
   |J (e,hG)=>if hG≠j then ab else if 9007199254740992<n then ab else if-22<=e/\e<=22 then J (decide (i<j/\g D i=45),n,e) else ab):=by unfold gfast;rw[bj]
  clear bj;cases la with
  |false=>
   rw[aA rfl] at zg;refine aR ?_;exact bq zg
  |true=>
   rw[ak aE] at zg;have aeG:bn .sub (ah 0) (ah cf)=J (ah (-(cf:Int))):=by
    simp only[bn,ei];congr 2;simp only[jv];omega
   have Uz:un .neg (ah cf)=J (ah (-(cf:Int))):=by
    simp only[un];congr 2;simp only[jv];omega
   refine bG Uz ?_;refine rv (λu w cN=>∃(E:Int) (pos:Nat),y1 D j (i+p) cf=J (E,i+pos)/\pos<=j-i/\u=ah pos/\w=ah E/\-2000<=E/\E<=2000/\cN=h') (λM cM=>?_) ?_
   .have s7:=dZ D (i+p);have aDC:=dZ D (i+p+1);have yS:y1 D j (i+p) cf=ab->R (bA #[cU .f64 0,aQ av]) h':=λa=>bq (by rw[zg,a]);have stop:¬(i+p<j/\(g D (i+p)=101\/g D (i+p)=69))->M (ah p) (ah (-(cf:Int))) h':=λa=>cM _ _ _ ⟨-(cf:Int),p,by unfold y1;rw[ak a],aJ,rfl,rfl,I,I,rfl⟩;clear bq bw aeG Uz;refine bG (dI aM aa) ?_;with_reducible repeat' first|refine⟨?_,?_⟩|intro
    all_goals first|(with_reducible refine stop ?_;omega)|skip
    all_goals
     have he:i+p<j/\(g D (i+p)=101\/g D (i+p)=69):=I
     refine rv (λu w cN=>∃(s:Nat) (es:Int),u=ah (p+1+s:Nat)/\w=ah es/\cN=h'/\s<=1/\((s=1/\i+p+1<j/\((g D (i+p+1)=43/\es=1)\/(g D (i+p+1)=45/\es= -1)))\/(s=0/\es=1/\¬(i+p+1<j/\(g D (i+p+1)=43\/g D (i+p+1)=45))))) (λM2 n0=>?_) ?_
     .have cv:¬(i+p+1<j/\(g D (i+p+1)=43\/g D (i+p+1)=45))->M2 (ah (p+1:Nat)) (ah 1) h':=λa=>n0 _ _ _ ⟨0,1,rfl,rfl,rfl,I,bt ⟨rfl,rfl,a⟩⟩;have cc:i+p+1<j->g D (i+p+1)=43->M2 (ah (p+1+1:Nat)) (ah 1) h':=λa bH=>n0 _ _ _ ⟨1,1,rfl,rfl,rfl,I,bF ⟨rfl,a,bF ⟨bH,rfl⟩⟩⟩;have cK:i+p+1<j->g D (i+p+1)=45->M2 (ah (p+1+1:Nat)) (ah (-1)) h':=λa bH=>n0 _ _ _ ⟨1,-1,rfl,rfl,rfl,I,bF ⟨rfl,a,bt ⟨bH,rfl⟩⟩⟩;have c3:p+1<j-i->cd (bU (J ⟨b,e+(p+1),ab⟩)) h'=λk=>k (bu (g D (i+p+1):Int)) h':=λa=>by funext k;exact qH aM aa (l:=p+1) I
      clear n0 cM yS stop;refine bG c3 ?_;refine⟨λc1=>⟨λc2=>cc I c2,λc2=>⟨λcy=>cK I cy,λcy=>cv I⟩⟩,λc1=>cv I⟩
     .rintro u w cN ⟨s,es,rfl,rfl,rfl,iD,IN⟩;have SE:y1 D j (i+p) cf=if j<=i+(p+1+s) then ab else(qN D j (i+(p+1+s)) 0).map λev=>(-(cf:Int)+es*(ev:Int),j):=by
       unfold y1;rw[aA he];rcases IN with ⟨rfl,dd,⟨dr,rfl⟩|⟨dr,rfl⟩⟩|⟨rfl,rfl,y⟩
       .rw[aA ⟨dd,bF dr⟩,(I:i+(p+1+1)=i+p+2)];simp only[dr,Wl];rfl
       .rw[aA ⟨dd,bt dr⟩,(I:i+(p+1+1)=i+p+2)];simp only[dr,Int.neg_mul,Wl,ei]
       .rw[ak y,(I:i+(p+1+0)=i+p+1)];simp only[Wl]
      have xR:es=1\/es= -1:=I
      clear IN stop;generalize p+1+s=gS at*;refine aR ?_;refine⟨λau=>yS al,λau=>?_⟩;rw[ak I] at SE;refine jn (λdW u v h'=>∃k ev:Nat,qN D j (i+k) ev=qN D j (i+gS) 0/\k<=j-i/\ev<=1000/\u=ah k/\v=ah ev/\h'=cN/\dW=j-i-k) (j-i-gS) ⟨gS,0,rfl,I,aE,rfl,rfl,rfl,rfl⟩ ?_;rintro dW d u v h' N ⟨k,ev,vj,aq,uo,rfl,rfl,rfl,rfl⟩ a7;have s7:=dZ D (i+k);have awN:bn .mul (ah es) (ah ev)=J (ah (es*(ev:Int))):=by
       rcases xR with rfl|rfl
       .rw[Wl];exact aer I
       .rw[Int.neg_mul,Wl];exact aeq I
      have eE:bn .add (ah (-(cf:Int))) (ah (es*(ev:Int)))=J (ah (-(cf:Int)+es*(ev:Int))):=by
       have: -1000<=es*(ev:Int)/\es*(ev:Int)<=1000:=al
       simp only[bn,ei];congr 2;simp only[jv];omega
      have fin:¬k<j-i->M (ah k) (ah (-(cf:Int)+es*(ev:Int))) h':=λa=>by
       have: -1000<=es*(ev:Int)/\es*(ev:Int)<=1000:=al
       refine cM _ _ _ ⟨_,k,?_,aq,rfl,rfl,I,I,rfl⟩;rw[SE,<-vj,qN,e8 I,(I:i+k=j)];rfl
      have no:qN D j (i+k) ev=ab->R (bA #[cU .f64 0,aQ av]) h':=λa=>yS al;clear cM yS SE xR he;refine i_ (dI aM aa) @Bm awN eE ?_;refine⟨λau=>⟨λc1=>no (by rw[qN,gw I,aA (bF c1)]),λc1=>⟨λc2=>no (by rw[qN,gw I,aA (bt c2)]),λc2=>⟨λcy=>no (by rw[qN,gw I,ak I,aA cy]),λcy=>?_⟩⟩⟩,fin⟩;rw[qN,gw I,ak I,ak cy] at vj;exact a7 _ _ _ _ I ⟨k+1,_,vj,I,I,rfl,rfl,rfl,rfl⟩
   .rintro u w cN ⟨E,pos,ae,xZ,rfl,rfl,AY,vi,rfl⟩;rw[ae] at zg;simp only at zg;have vZ:=Zn n;clear aeG Uz;refine bG vZ ?_;refine⟨λc1=>bq al,λc1=>⟨λc2=>bq al,λc2=>?_⟩⟩;rw[ak I,ak c2] at zg;refine ll (λu bO=>u=cU .f64 (sn n E)/\aB cN bO/\-22<=E/\E<=22) (λM cM=>?_) ?_
    .have acw:n<=2^53:=I
     have yS:¬(-22<=E/\E<=22)->R (bA #[cU .f64 0,aQ av]) cN:=λa=>bq al;clear bq bw;rcases Int.lt_trichotomy E 0 with a'|heq|A2
     .obtain⟨k,rfl⟩:∃k:Nat,E= -(k:Int):=⟨E.natAbs,I⟩;have fj:bn cQ (ah (-(k:Int))) (ah 0)=J (aQ av):=by simp[bn,eqV];omega
      have h2:bn hf (ah (-(k:Int))) (ah 0)=J (aQ av):=by simp[bn]
      have tw:bn fG (ah (-(k:Int))) (ah 0)=J (aQ ai):=by simp[bn];omega
      have FX:bn h0 (ah (-(k:Int))) (ah (-22))=J (aQ (decide (k<=22))):=by simp[bn];omega
      have Ur:un .neg (ah (-(k:Int)))=J (ah k):=by
       simp only[un];congr 2;simp only[jv];omega
      refine i_ fj h2 tw FX ?_;refine⟨λaq=>W5 λbO bP=>?_,λaq=>yS I⟩;refine hk Ur (ado aq) (aqk acw I aq) ?_;grind
     .subst heq;refine aR ?_;exact cM _ _ ⟨by rw[aqj],aB.refl _,aE,aE⟩
     .obtain⟨k,rfl⟩:∃k:Nat,E=(k:Int):=⟨E.natAbs,I⟩;refine aR ?_;refine⟨λaq=>W5 λbO bP=>?_,λaq=>yS I⟩;refine dG (ado aq) (aqm acw (I:0<k) aq) ?_;grind
    .rintro u bO ⟨rfl,bP,aw,ar⟩;rw[aA ⟨aw,ar⟩] at zg;have:=bw _ _ _ zg bO bP;clear bq bw;by_cases C8:i<j/\g D i=45
     .rw[j7 C8] at this⊢;refine aR ?_;exact this
     .rw[ig C8] at this⊢;refine aR ?_;exact this
end
section
variable{h:H}{R k:K}{b C i j N r n c:Nat}{v u e:ao}{D l w:B}
def aiE(au:U l<=400)(aI:∀k,k<U l->g l k≠95)(q:R (aQ ai) h):bo 166 [S l] h R:=by
 apply alj;refine aR ?_;refine eV (λdW u h'=>∃k:Nat,u=ah k/\k<=U l/\h'=h/\dW=U l-k) (U l) ⟨0,rfl,ed _,rfl,rfl⟩ ?_;rintro dW d u h' N ⟨k,rfl,aq,rfl,rfl⟩ a7;refine aR ?_;refine⟨λau=>⟨λhg=>absurd hg (aI k au),λhg=>?_⟩,λau=>?_⟩
 .exact a7 _ _ _ I ⟨k+1,rfl,I,rfl,rfl⟩
 .exact q
def Pj(au:U l<=400)(hw:0<U w)(au9:U w<=400)(aa:g l 0<65)(ad:g l 0≠g w 0)(q:R (aQ av) h):bo 161 [S l,S w] h R:=by
 apply alf;refine aR ?_;refine⟨λ_=>q,λhe=>?_⟩;refine eV (λdW u h'=>u=ah (0:Nat)/\h'=h/\dW=0) 0 ⟨rfl,rfl,rfl⟩ ?_;rintro dW d u h' N ⟨rfl,rfl,rfl⟩ a7;have h_:0<U l:=I
 have b_:ixs (S l) (ah 0)=J (bu (g l 0:Int)):=m3 (i:=0) h_;have cp:ixs (S w) (ah 0)=J (bu (g w 0:Int)):=m3 (i:=0) hw;have s7:=dZ l 0;have aDM:=dZ w 0;refine dG b_ cp ?_;exact q
def ax5:((List.range 256).all λc=>nr .or .u8 (c:Int) 32==((c|||32:Nat):Int))=ai:=b4
def ax4(ay:c<256):nr .or .u8 (c:Int) 32=((c|||32:Nat):Int):=by
 have:=List.all_eq_true.1 ax5 c (aBQ.2 ay);grind
def KP(ay:c<256)(q:R (bu ((c|||32:Nat):Int)) h):bo 183 [bu (c:Int)] h R:=by
 apply alA;refine aR ?_;rw[ax4 ay];exact q
def rC:List ao:=[ah 52,ah 11,ah (-1023)]
def PZ:Z 238=[ah 0,ah 0,ah 0]:=b4
def ahW:Bd (Z 238) [(0,1,ah 52),(1,1,ah 11),(2,1,ah (-1023))] h k=k (cA (aZ rC)) h:=by rw[PZ];rfl
def aiC(q:∀h',aB h h'->R (cA (aZ rC)) h'):bo 163 [ah 64] h R:=by
 apply alg;refine V9 @ahW ?_;rw[h7 (n:=3) (by rw[PZ];rfl) rfl rfl,jK (n:=3) rfl aE];exact q _ (aB.push _ _)
def Pl(q:∀h',aB h h'->R (.float .f64 x) h'):bo 164 [.agg rC.toArray,.u (x:Int)] h R:=by
 apply alh;unfold lh;rw[show(cellsL (Value.agg rC.toArray)).toArray=#[.i 52,.i 11,.i (-1023)] from rfl];(simp-implicitDefEqProofs+contextual (disch:=(first|omega|with_unfolding_all exact id rfl|with_unfolding_all exact id (lK rfl))) only[go_sem];try refine c8 ?_)
 exact(GQ (x:=x)).mpr (q _ (aB.push _ _))
def an5:Z 259=[S [],S [],cR]:=b4
def ahS(c1:cellsL bx=[bx])(c2:cellsL bH=[bH]):Bd (Z 259) [(0,1,bx),(1,1,bH),(2,1,cW 244 cq)] h k=k (cA #[bx,bH,cW 244 cq]) h:=by
 rw[an5];simp only[Bd,fillL,c1,c2];rfl
def aiF(c1:cellsL bx=[bx])(c2:cellsL bH=[bH])(q:∀e h',aB h h'->R (cW 257 e) h'):bo 167 [bx,bH,cq] h R:=by
 apply alk;unfold lh;rw[ahS c1 c2];exact q _ _ (aB.push _ _)
end
def iQ(ds:List Nat):List ao:=ds.map λd:Nat=>Value.int .u8 (d:Int)
def uS(h:H)(p:Nat)(ds:List Nat)(dp:Int)(ro:Option Nat):Prop:=(∃v,h[p]?=J (aO #[v,ah dp] 253)/\b2 h v 1 (iQ ds) ro)/\ro≠J p/\∀d,d∈ds->d<10
section
variable{h:H}{R k:K}{p n c:Nat}{v u:ao}{ds:List Nat}{dp:Int}{ro:Option Nat}
def uC(aF:b2 h v 1 (iQ ds) ro):(ds=[]/\v=a5 ab 0 0/\ro=ab)\/∃r cap,ro=J r/\v=a5 (J ⟨r,0,ab⟩) (U ds) cap/\U ds<=cap/\∀k,k<U ds->∀K:K,cd (bU (J ⟨r,k,ab⟩)) h K=K (bu (ds.getD k 0:Int)) h:=by
 cases ro with
 |none=>
  obtain⟨rfl,aI⟩:=aF;have:ds=[]:=by cases ds with|nil=>rfl|cons a l=>cases aI
  grind
 |some r=>
  obtain⟨len,cap,c,t,rfl,aa,ad,an,aT,bN⟩:=aF;have au:U ds=len:=by have:=aT;simp[iQ] at this;omega
  subst au;refine bt ⟨r,cap,rfl,rfl,ad,λk aq K=>?_⟩;rw[fs aa];have e:c[k]?=J (bu (ds.getD k 0:Int)):=by
   have aw:(bf (U (iQ ds)) (bC c))[k]?=(iQ ds)[k]?:=by rw[bN]
   rw[D6,aA I,Ku] at aw;rw[aw,iQ,D4,h5 aq,iw,h5 aq];rfl
  rw[e];rfl
def ai1{k:Nat}(au:U ds<=1000000)(aq:k<=1000000)(aG:uS h p ds dp ro)(q:R (.b (ds.getD k 0:Int)) h):bo 197 [aN p,.i (k:Int)] h R:=by
 apply alL;obtain⟨⟨v,af,aF⟩,dF,a'⟩:=aG;rcases uC aF with ⟨rfl,rfl,rfl⟩|⟨r,cap,rfl,rfl,qV,hD⟩
 ·(simp-implicitDefEqProofs+contextual (disch:=omega) only[go_sem,fs af];try refine c8 ?_)
  exact q
 .refine dG (c4 af) hD ?_;grind
def FZ(ds:List Nat)(k:Nat):Bool:=decide (k<U ds)&&if ds.getD k 0=5/\k+1=U ds then decide (0<k/\ds.getD (k-1) 0%2≠0) else decide (5<=ds.getD k 0)
def ay1{a:Nat}(h:a<256):bn .rem (bu (a:Int)) (bu 2)=J (bu ((a%2:Nat):Int)):=by
 simp only[bn,ei];grind
def ai2{k:Nat}(au:U ds<=1000000)(aq:k<=1000000)(aG:uS h p ds dp ro)(q:R (.bool (FZ ds k)) h):bo 198 [aN p,.i (k:Int)] h R:=by
 apply XQ;obtain⟨⟨v,af,aF⟩,dF,a'⟩:=aG;unfold FZ at q;rcases uC aF with ⟨rfl,rfl,rfl⟩|⟨r,cap,rfl,rfl,qV,hD⟩
 ·(simp-implicitDefEqProofs+contextual (disch:=omega) only[go_sem,fs af];try refine c8 ?_)
  exact q
 .have x_:∀k,ds.getD k 0<10:=λk=>by
   rw[iw];cases e:ds[k]? with
   |none=>decide
   |some d=>exact a' d (qD e)
  have c3:=x_ k;have dA:=x_ (k-1);clear a';have cK:=ay1 (a:=ds.getD (k-1) 0) I;refine hk (c4 af) hD cK ?_;generalize ds.getD k 0=a at*;generalize ds.getD (k-1) 0=c at*;clear hD cK af;with_reducible repeat' first|refine⟨?_,?_⟩|intro
  all_goals first
   |(
    have e:(decide (k<U ds)&&if a=5/\k+1=U ds then decide (0<k/\c%2≠0) else decide (5<=a))=ai:=by simp[*];try omega
    rw[e] at q;exact q)
   |(
    have e:(decide (k<U ds)&&if a=5/\k+1=U ds then decide (0<k/\c%2≠0) else decide (5<=a))=av:=by simp[*];try omega
    rw[e] at q;exact q)
end
def tnZ(ds:List Nat):Nat->Nat
 |0=>0
 |n+1=>if ds.getD n 0=0 then tnZ ds n else n+1
def nN(ds:List Nat):List Nat:=bf (tnZ ds (U ds)) ds
def Gh(ds:List Nat):∀n,tnZ ds n<=n
 |0=>bQ _
 |n+1=>by unfold tnZ;split;exact Nat.le_succ_of_le (Gh ds n);omega
def agL(ds:List Nat):∀n,tnZ ds n≠0->ds.getD (tnZ ds n-1) 0≠0
 |0,h=>absurd rfl h
 |n+1,h=>by
  rw[tnZ] at h⊢;split at h
  .rename_i aV;rw[aA aV];exact agL ds n h
  grind
def b'(ds:List Nat):Nat:=ds.foldl (λa d=>a*10+d) 0
def Az(ds:List Nat)(d:Nat):b' (ds++[d])=b' ds*10+d:=by simp[b',ahv]
def Re:∀(es:List Nat) (a:Nat),es.foldl (λa d=>a*10+d) a=a*10^U es+es.foldl (λa d=>a*10+d) 0
 |[],a=>a1
 |e::es,a=>by
  rw[aBM,Re es,aBM,Re es (0*10+e),nS,ph,zY,pY,tM,gL];congr 1;ac_rfl
def EX(es ds:List Nat):b' (ds++es)=b' ds*10^U es+b' es:=by
 unfold b';rw[ahv];exact Re es _
def ZX(ds:List Nat)(h:n<U ds):b' (bf (n+1) ds)=b' (bf n ds)*10+ds.getD n 0:=by
 rw[Ws,h5 h,iw,h5 h];exact Az _ _
def agK(ds:List Nat):∀n,n<=U ds->b' (bf n ds)=b' (bf (tnZ ds n) ds)*10^(n-tnZ ds n)
 |0,_=>by simp[tnZ]
 |n+1,h=>by
  rw[tnZ];split
  .rename_i aV;have hle:=Gh ds n;rw[ZX ds I,aV,agK ds n I,(I:n+1-tnZ ds n=(n-tnZ ds n)+1),ph,qE,nm]
  .simp
def iy(ds:List Nat)(dp:Int)(P Q:Nat):Prop:=∃u v:Nat,(u:Int)-v=dp-U ds/\b' ds*10^u*Q=P*10^v
def iy.any{dp:Int}{P Q:Nat}(h:iy ds dp P Q)(BJ ch:Nat)(c':(BJ:Int)-ch=dp-U ds):b' ds*10^BJ*Q=P*10^ch:=by
 obtain⟨u,v,e,h⟩:=h;have aJ:0<10^v:=ob aE;refine GB aJ ?_;rw[(iN:P*10^ch*10^v=P*10^v*10^ch),<-h,(iN:b' ds*10^BJ*Q*10^v=b' ds*Q*(10^BJ*10^v)),(iN:b' ds*10^u*Q*10^ch=b' ds*Q*(10^u*10^ch)),<-fw,<-fw,(I:BJ+v=u+ch)]
def Ld(ds:List Nat):Prop:=ds≠[]->ds.getD (U ds-1) 0≠0
def sf(ds:List Nat):Prop:=ds≠[]->ds.getD 0 0≠0
def Gj:U (nN ds)=tnZ ds (U ds):=by unfold nN;rw[yv];exact yy (Gh _ _)
def agQ(ds:List Nat):Ld (nN ds):=by
 intro bk;have au:=Gj (ds:=ds);have aW:U (nN ds)≠0:=λe=>bk (vF e);have:=agL ds (U ds) I;rw[au,nN,iw,D6,aA I,<-iw];exact this
def agP(h:sf ds):sf (nN ds):=by
 intro bk;have au:=Gj (ds:=ds);have aW:U (nN ds)≠0:=λe=>bk (vF e);have:ds≠[]:=λe=>by subst e;exact bk rfl
 have:=h this;rw[nN,iw,D6,aA I,<-iw];exact this
def agO(h:∀d,d∈ds->d<10):∀d,d∈nN ds->d<10:=λd aG=>h d (ahy aG)
def VL{dp:Int}{P Q:Nat}(h:iy ds dp P Q):iy (nN ds) (if nN ds=[] then 0 else dp) P Q:=by
 obtain⟨u,v,e,h⟩:=h;have au:=Gj (ds:=ds);have hle:=Gh ds (U ds);have aP:=agK ds (U ds) (bQ _);rw[O5] at aP;by_cases aV:nN ds=[]
 .rw[aA aV,aV];have bP:b' ds=0:=by
   rw[aP,show bf (tnZ ds (U ds)) ds=[] from aV];simp[b']
  rw[bP] at h;have lW:P=0:=by
   have:P*10^v=0:=I
   rcases aBZ.1 this with a|a
   .exact a
   grind
  exact⟨0,0,a1,by rw[lW];simp[b']⟩
 .rw[ak aV];refine⟨u+(U ds-tnZ ds (U ds)),v,I,?_⟩;rw[<-h,aP,fw];show b' (bf (tnZ ds (U ds)) ds)*_*Q=_;ac_rfl
section
variable{h:H}{R k:K}{p n c:Nat}{v u:ao}{ds:List Nat}{dp:Int}{ro:Option Nat}
def azb(aF:b2 h (a5 (J ⟨r,0,ab⟩) (U ds) cap) 1 (iQ ds) (J r))(aI:n<=U ds):b2 h (a5 (J ⟨r,0,ab⟩) n cap) 1 (iQ (bf n ds)) (J r):=by
 obtain⟨len,iP,c,t,aD,aa,ad,an,aT,bN⟩:=aF;cases aD;refine⟨n,cap,c,t,rfl,aa,I,an,by simp[iQ];omega,?_⟩;have e:iQ (bf n ds)=bf n (iQ ds):=by simp[iQ,Wr]
 grind
def yi(aF:b2 h v 1 (iQ ds) (J r)):r<ag h:=by
 obtain⟨len,cap,c,t,rfl,aa,_⟩:=aF;grind
def bV.refl:bV r h h:=⟨bQ _,λ_ _ _=>rfl⟩
def bV.trans(a:bV r h aa)(b:bV r aa ad):bV r h ad:=⟨dH a.1 b.1,λx ae aI=>(b.2 x (cP ae a.1) aI).trans (a.2 x ae aI)⟩
def Pm(au:U ds<=1000000)(aG:uS h p ds dp ro)(q:∀h',bV (J p) h h'->uS h' p (nN ds) (if nN ds=[] then 0 else dp) ro->R (aN p) h'):bo 184 [aN p] h R:=by
 apply alB;obtain⟨⟨v,af,aF⟩,dF,a'⟩:=aG;rcases uC aF with ⟨rfl,rfl,rfl⟩|⟨r,cap,rfl,rfl,qV,hD⟩
 .refine sX (λm h'=>h'=h) 0 rfl ?_;rintro m d h' N rfl a7;(simp-implicitDefEqProofs+contextual (disch:=omega) only[go_sem,fs af];try refine c8 ?_)
  refine fx af a1 rfl rfl λan aS eP=>?_;refine q _ aS ⟨⟨.slice ab 0 0,eP,rfl,rfl⟩,dF,?_⟩;intro d aG;cases aG
 .have sD:r≠p:=λe=>dF (by rw[e]);have jV:p<ag h:=(cm.1 af).1;have hN:=yi aF;refine sX (λm h'=>∃n,n<=U ds/\tnZ ds n=tnZ ds (U ds)/\bV (J p) h h'/\h'[p]?=J (.cells #[.slice (J ⟨r,0,ab⟩) n cap,.i dp] 253)/\m=n) (U ds) ⟨U ds,bQ _,rfl,bV.refl,af,rfl⟩ ?_;rintro m d h' N ⟨n,aI,aP,he,dN,rfl⟩ a7;have fh:b2 h' (.slice (J ⟨r,0,ab⟩) (U ds) cap) 1 (iQ ds) (J r):=aF.at λcC e=>by cases e;exact he.2 r hN (λe=>sD (en e))
  have arM:∀k,k<U ds->∀K,cd (.pointer (J ⟨r,k,ab⟩)) h' K=K (.b (ds.getD k 0:Int)) h':=by
   rcases uC fh with ⟨_,aD,_⟩|⟨cK,CA,aw,ar,_,My⟩
   .cases aD
   grind
  have fin:tnZ ds (U ds)=m->∀an eY,bV (J p) h' an->an[p]?=J (.cells #[.slice (J ⟨r,0,ab⟩) m cap,.i eY] 253)->eY=(if nN ds=[] then 0 else dp)->R (aN p) an:=λa an eY aS eP abU=>by
   subst abU;refine q _ (he.trans aS) ⟨⟨_,eP,?_⟩,dF,agO a'⟩;have:=azb aF (n:=m) aI;rw[<-a] at this⊢;exact this.at λcC e=>by cases e;exact((he.trans aS).2 r hN (λe=>sD (en e)))
  have aV:nN ds=[]↔tnZ ds (U ds)=0:=by rw[<-Gj,List.length_eq_zero_iff]
  refine dG (c4 dN) arM ?_;refine⟨λaW=>⟨λaa=>?_,λaa=>?_⟩,λaW=>?_⟩
  .refine fx dN a1 rfl rfl λan aS eP=>?_;refine a7 (m-1) _ I ⟨m-1,I,?_,he.trans aS,eP,rfl⟩;rw[<-aP];obtain⟨k,rfl⟩:=tL (I:m≠0);rw[tnZ,aA al];rfl
  .have hm:tnZ ds (U ds)=m:=by
    rw[<-aP];obtain⟨k,rfl⟩:=tL (I:m≠0);rw[tnZ,ak al]
   exact fin hm _ _ bV.refl dN al
  .have sw:m=0:=I
   subst sw;refine fx dN a1 rfl rfl λan aS eP=>?_;exact fin aP.symm _ _ aS eP (by rw[aA (aV.2 aP.symm)])
end
def pv(ds:List Nat):Nat->Nat
 |0=>0
 |i+1=>pv ds i*10+ds.getD i 0
def U7(ds:List Nat):∀i,i<=U ds->pv ds i=b' (bf i ds)
 |0,_=>rfl
 |i+1,h=>by rw[pv,U7 ds i I,ZX ds I]
def N'(ds:List Nat):∀k,pv ds (U ds+k)=b' ds*10^k
 |0=>by rw[nm,U7 ds _ (bQ _),O5,h6,nn]
 |k+1=>by
  rw[<-gL,pv,N' ds k,iw,Wp I,ph];grind
section
variable{h:H}{R K:K}{p n c k:Nat}{v u:ao}{ds:List Nat}{dp:Int}{ro:Option Nat}
def af9(aq:k<=59):bn .shr (a4 (n:Int)) (ah (k:Int))=J (a4 ((n/2^k:Nat):Int)):=by
 have e:bn .shr (a4 n) (ah k)=J (a4 (((n:Nat):Int).fdiv (2^(min k 64)))):=by
  show(if((k:Nat):Int)<0 then ab else J (Value.int .u64 (((n:Nat):Int).fdiv (2^(min ((k:Nat):Int).toNat 64)))))=_;grind
 grind
def Vt(aq:k<=59)(ae:n*2^k<18446744073709551616):bn .shl (a4 (n:Int)) (ah (k:Int))=J (a4 ((n*2^k:Nat):Int)):=by
 have e:bn .shl (a4 n) (ah k)=J (a4 (IntKind.u64.wrap ((n:Int)*2^(min k 64)))):=by
  show(if((k:Nat):Int)<0 then ab else J (Value.int .u64 (IntKind.u64.wrap ((n:Int)*2^(min ((k:Nat):Int).toNat 64)))))=_;grind
 rw[e,yy I];congr 2
 rw[show((n:Int)*2^k)=((n*2^k:Nat):Int) by norm_cast,BP ae]
def UW(aq:k<=59):2^k<=576460752303423488:=l4 (n:=2) aE aq
def aea(aq:k<=59)(aI:n<18446744073709551616):bn .and (a4 (n:Int)) (a4 ((2^k-1:Nat):Int))=J (a4 ((n%2^k:Nat):Int)):=by
 have:=UW aq;rw[yR aI I,aHa]
def QH{v:ao}{out:List Nat}{ro:Option Nat}{c:Nat}{K:F.K}(aF:b2 h v 1 (iQ out) ro)(au:U out<=1000000)(q:∀ch h' b0,bV ro h h'->b2 h' ch 1 (iQ (out++[c])) b0->(b0=ro\/∃r,b0=J r/\ag h<=r)->(∀r,ro=J r->b0≠ab)->K ch h'):
  ew 5 1 (Z 5) [(0,1,bu (c:Int))] h λx h=>Ap 5 1 1 (Z 5) v x h K:=by
 rw[pn u5 rfl rfl];have e4:b2 (a6 h (aO #[bu c] 5)) v 1 (iQ out) ro:=aF.at λr e=>by
  subst e;exact(aB.push h _).2 r (yi aF)
 refine b2.append (n:=1) (new:=#[bu c]) (M:=[bu c]) e4 aE (by rw[u5];rfl) rfl ?_ rfl rfl rfl (by simp[iQ];omega) λch h' b0 aw fh dF=>?_
 .simp[shown,dS]
 .refine q ch h' b0 (bV.trans (bV.g_ (aB.push _ _) _) aw) (by simpa[iQ] using fh) ?_ ?_
  .grind
  grind
def YC:Z 253=[a5 ab 0 0,ah 0]:=b4
def HQ(a':∀d,d∈ds->d<10)(k:Nat):ds.getD k 0<10:=by
 rw[iw];cases e:ds[k]? with
 |none=>decide
 |some d=>exact a' d (qD e)
def ZZ(h:2^j∣n):2^(j+1)∣n*10:=by
 rw[ph];exact Nat.mul_dvd_mul h ⟨5,rfl⟩
structure B9(ds:List Nat)(dp:Int)(hd:List Nat)(eY:Int)(a b len:Nat):Prop where
 l3:∀P Q,iy ds dp P Q->iy hd eY (P*2^a) (Q*2^b)
 eh:Ld hd
 n7:sf hd
 len:U hd<=len
 lt:∀d,d∈hd->d<10
def B9.trim{dp eY:Int}{a b len:Nat}(l3:∀P Q,iy ds dp P Q->iy hd eY (P*2^a) (Q*2^b))(n7:sf hd)(hlen:U hd<=len)(lt:∀d,d∈hd->d<10):B9 ds dp (nN hd) (if nN hd=[] then 0 else eY) a b len:=
 ⟨λP Q aD=>VL (l3 P Q aD),agQ _,agP n7,by rw[Gj];exact dH (Gh _ _) hlen,agO lt⟩
def aiU(au:U ds<=100000)(jb:1<=k)(aq:k<=59)(aG:uS h p ds dp ro)(C0: -1000000<=dp)(AX:dp<=1000000)(q:∀h' hd eY b0 x,bV (J p) h h'->uS h' p hd eY b0->B9 ds dp hd eY 0 k (U ds+k)->eY<=dp\/eY=0->R x h'):bo 188 [aN p,ah (k:Int)] h R:=by
 apply alC;have zd:=aG;obtain⟨⟨v,af,aF⟩,dF,a'⟩:=aG;have jV:p<ag h:=(cm.1 af).1;have aro:=UW aq;have H2:0<2^k:=pX k;have hlen:fb v=J (ah (U ds)):=by
  rcases uC aF with ⟨rfl,rfl,_⟩|⟨r,cap,_,rfl,_⟩<;>rfl
 have Og:∀{h':H} (i:Nat),bV (J p) h h'->i<U ds->∀K,K (bu (ds.getD i 0:Int)) h'->∃a,ia 1 v (ah i)=J a/\cd a h' K:=by
  intro h' i e az K cE;have fh:b2 h' v 1 (iQ ds) ro:=aF.at λcC er=>by subst er;exact e.2 cC (yi aF) (λe=>dF e)
  rcases uC fh with ⟨rfl,_,_⟩|⟨r,cap,_,rfl,_,hD⟩
  .cases az
  .refine⟨_,IX az,?_⟩;grind
 have x_:=HQ a';refine jn (λm u w h'=>∃i,u=a4 (pv ds i:Nat)/\w=ah i/\h'=h/\i<=U ds+k/\(i≠0->∃j,i=j+1/\pv ds j<2^k)/\(U ds<=i->2^(i-U ds)∣pv ds i/\(U ds<i->pv ds i≠0))/\m=U ds+k-i) (U ds+k) ⟨0,rfl,rfl,rfl,ed _,λa=>absurd rfl a,λa=>⟨by simp[pv],λb=>absurd b I⟩,rfl⟩ ?_;rintro m d u w h' N ⟨i,rfl,rfl,rfl,az,x0,tb,rfl⟩ a7;have A_:pv ds i<10*2^k:=by
  rcases zZ i with rfl|aW
  .simp only[pv];omega
  .obtain⟨j,rfl,aC⟩:=x0 I;have:=x_ j;rw[pv];omega
 generalize aI:pv ds i=n at*;have aw:bn .shr (a4 n) (ah k)=J (a4 (n/2^k:Nat)):=af9 aq;refine bG aw ?_;refine⟨λaV=>?_,λaV=>?_⟩
 .have kY:n<2^k:=by
   simp_all
  have em:bn .mul (a4 n) (a4 10)=J (a4 (n*10:Nat)):=zB (b:=10) I;have next:∀x,x=pv ds (i+1)->i+1<=U ds+k->(U ds<=i->n≠0)->N (a4 x) (ah (i+1:Nat)) h':=λx ae th aW=>by
   subst ae;refine a7 _ _ _ _ I ⟨i+1,rfl,rfl,rfl,th,λ_=>⟨i,rfl,I⟩,λa=>?_,rfl⟩;rcases jw i (U ds) with a'|eg
   .have:i+1=U ds:=I
    simp_all
   .have te:ds.getD i 0=0:=al
    have aG:=(tb eg).1;rw[pv,aI,te,nm];refine⟨?_,λ_=>I⟩;rw[(I:i+1-U ds=(i-U ds)+1)];exact ZZ aG
  refine hk (c4 af) hlen em ?_;have aqZ:∀(ay:i<U ds\/n≠0),(i<U ds->∃a,ia 1 v (ah i)=J a/\cd a h' λhS h=>Pu (ci .u64 hS) h λjj h=>Pu (bn .add (a4 (n*10:Nat)) jj) h λgT h=>N gT (ah (i+1:Nat)) h)/\(¬i<U ds->N (a4 (n*10:Nat)) (ah (i+1:Nat)) h'):=by
   intro ay;refine⟨λnD=>?_,λnD=>?_⟩
   .refine Og i bV.refl nD _ ?_;have:=x_ i;have AB:bn .add (a4 (n*10:Nat)) (a4 (ds.getD i 0:Nat))=J (a4 (n*10+ds.getD i 0:Nat)):=EF I;generalize gI:ds.getD i 0=v5 at*;refine bG AB ?_;exact next _ (by rw[pv,aI,gI]) I (λa=>I)
   .have te:ds.getD i 0=0:=al
    refine next _ (by rw[pv,aI,te,nm]) ?_ (λ_=>I)
    have aG:=(tb I).1;have an:2^(i-U ds)<=n:=Nat.le_of_dvd I aG;grind
  have HF:U ds<=i->n=0->bZ 2 (aN p) (cA #[a5 ab 0 0,ah 0]) h' λ_ h=>R (bA #[]) h:=λnD aW=>by
   refine G9 (o:=0) af rfl rfl a1 λan aS eP=>?_;refine q an [] 0 ab _ aS ⟨⟨_,eP,rfl,rfl⟩,a1,a1⟩ ⟨λP Q aD=>?_,λa=>absurd rfl a,λa=>absurd rfl a,a1,a1⟩ (bt rfl);have bP:b' ds=0:=by
    have:=N' ds (i-U ds);grind
   obtain⟨u,v,_,aD⟩:=aD;have lW:P=0:=by
    rw[bP] at aD;rcases aBZ.1 (I:P*10^v=0) with a|a
    .exact a
    grind
   exact⟨0,0,a1,by rw[lW];simp[b']⟩
  have aCP:∀{K:F.K},Bd (Z 253) [] h' K=K (cA #[a5 ab 0 0,ah 0]) h':=λ{K}=>by rw[YC];rfl
  refine⟨λc1=>⟨λc2=>?_,λc2=>?_⟩,λc1=>?_⟩
  .grind
  .grind
  .obtain⟨a,bE,cE⟩:=(aqZ (bF I)).1 I;refine bG bE ?_;exact cE
 .have kY:2^k<=n:=by
   simp_all
  have ur:1<=i:=by
   apply Kw;intro c;have:i=0:=I
   subst this;simp only[pv] at aI;omega
  have es:bn .sub (ah dp) (ah (i-1:Nat))=J (ah (dp-((i-1:Nat):Int))):=by
   simp only[bn,ei];congr 2;simp only[jv];omega
  have aFw:U ds<i->i<=U ds+k:=λ_=>az;refine dG (c4 af) es ?_;refine fx af a1 rfl rfl λan aS eP=>?_;change an[p]?=J (aO #[v,ah (dp-((i-1:Nat):Int))] 253) at eP;generalize AX:dp-((i-1:Nat):Int)=lT at eP;have abW:U ds<=i->2^(i-U ds)∣n:=λa=>(tb a).1;clear tb x0 a7 aw aV es d N;refine G1 (λdW bx bH cq qf=>∃m ej out b0,bx=a4 (m:Nat)/\bH=ah (ej:Nat)/\b2 qf cq 1 (iQ out) b0/\(∀r,b0=J r->ag h'<=r)/\bV (J p) h' qf/\qf[p]?=J (aO #[v,ah lT] 253)/\i<=ej/\ej<=U ds+k+1/\U out=ej-i/\pv ds ej=10*(2^k*b' out)+m/\m<10*2^k/\(U ds<=ej->2^(ej-U ds)∣m/\(U ds+k<ej->m=0))/\(∀d,d∈out->d<10)/\(ej=i->2^k<=m)/\(i<ej->out.getD 0 0≠0)/\dW=U ds+k+1-ej) _ ⟨n,i,[],ab,rfl,rfl,⟨rfl,rfl⟩,a1,aS,eP,bQ _,I,a1,by rw[aI];simp[b'],A_,λa=>⟨abW a,λb=>I⟩,a1,λ_=>kY,λa=>absurd a I,rfl⟩ ?_;clear A_ abW kY aS eP aI;rintro dW d bx bH cq g N ⟨m,ej,out,b0,rfl,rfl,e1,im,he,xO,atc,Fo,zl,A_,hm,tb,M3,as0,at0,rfl⟩ a7;have aEV:=O6 m (2^k);have A6:=z1 m H2;have b5:m/2^k<10:=Nat.div_lt_of_lt_mul I;have jc:ej=i->1<=m/2^k:=λa=>Nat.div_pos (as0 a) H2;have asO:U ds<=ej->2^(ej+1-U ds)∣m%2^k*10/\(U ds+k<ej+1->m%2^k*10=0):=λa=>by
   have aG:=(tb a).1;rcases jw (ej-U ds) k with a'|eg
   .refine⟨?_,λb=>I⟩;rw[(I:ej+1-U ds=(ej-U ds)+1)];exact ZZ ((Nat.dvd_mod_iff (Nat.pow_dvd_pow 2 I)).2 aG)
   .have aW:m%2^k=0:=Nat.mod_eq_zero_of_dvd (Nat.dvd_trans (Nat.pow_dvd_pow 2 eg) aG);rw[aW,pY];exact⟨Nat.dvd_zero _,λ_=>rfl⟩
  have f1:bn .shr (a4 m) (ah k)=J (a4 (m/2^k:Nat)):=af9 aq;have f2:bn .shl (a4 1) (ah k)=J (a4 (2^k:Nat)):=by
   have:=Vt (n:=1) aq I;grind
  have f3:bn .sub (a4 (2^k:Nat)) (a4 1)=J (a4 (2^k-1:Nat)):=azM (b:=1) H2 I;have f4:bn .and (a4 m) (a4 (2^k-1:Nat))=J (a4 (m%2^k:Nat)):=aea aq I;have f5:bn .mul (a4 (m%2^k:Nat)) (a4 10)=J (a4 (m%2^k*10:Nat)):=zB (b:=10) I;have f6:∀x:Nat,x<10->bn .add (a4 (m%2^k*10:Nat)) (a4 x)=J (a4 (m%2^k*10+x:Nat)):=λx ae=>EF I;have next:∀(x:Nat) ch g' e7,x=m%2^k*10+ds.getD ej 0->(ej<U ds\/m≠0)->bV b0 g g'->b2 g' ch 1 (iQ (out++[m/2^k])) e7->(e7=b0\/∃r,e7=J r/\ag g<=r)->N (a4 x) (ah (ej+1:Nat)) ch g':=λx ch g' e7 ae ay bl vr Nc=>by
   have th:ej<=U ds+k:=by
    omega
   have d10:=x_ ej;refine a7 _ _ _ _ _ I ⟨x,ej+1,out++[m/2^k],e7,rfl,rfl,vr,λr aF=>?_,?_,?_,I,I,al,?_,I,λa=>?_,λd aG=>?_,λa=>I,λa=>?_,rfl⟩
   .subst aF;rcases Nc with e|⟨cC,e,fh⟩
    .grind
    .cases e;exact dH he.1 fh
   .exact⟨dH he.1 bl.1,λb cF bk=>by rw[bl.2 b (cP cF he.1) (λe=>al),he.2 b cF bk]⟩
   .rw[bl.2 p (cP jV he.1) (λe=>al)];exact xO
   .rw[pv,A_,Az,ae,Nat.mul_add (2^k),<-qE (2^k)];generalize 2^k*b' out=X at*;omega
   .rcases jw ej (U ds) with a'|eg
    .have:ej+1=U ds:=I
     exact⟨by rw[this,pW,h6];omega,λb=>I⟩
    .have te:ds.getD ej 0=0:=al
     rw[ae,te,nm];exact asO eg
   .grind
   .rcases jw i ej with a'|eg
    .grind
    grind
  skip
  have d10:=x_ ej;have bx:bn .add (ah ej) (ah 1)=J (ah (ej+1:Nat)):=qL (b:=1) I;have body:(ej<U ds\/m≠0)->ew 5 1 (Z 5) [(0,1,bu (m/2^k:Nat))] g λkk h=>Ap 5 1 1 (Z 5) cq kk h λnf h=>cd (bU (J ⟨p,0,ab⟩)) h λmh h=>
    Pu (fb mh) h λo' h=>Pu (bn fG (ah ej) o') h λqy h=>b1 qy (cd (bU (J ⟨p,0,ab⟩)) h λpa h=>Pu (ia 1 pa (ah ej)) h λmi h=>cd mi h λnh h=>Pu (ci .u64 nh) h λoA h=>
    Pu (bn .add (a4 (m%2^k*10:Nat)) oA) h λkn h=>N kn (ah (ej+1:Nat)) nf h)<|N (a4 (m%2^k*10:Nat)) (ah (ej+1:Nat)) nf h:=λay=>by
   refine QH e1 I λch g' e7 bl vr Nc _=>?_;have rG:g'[p]?=J (aO #[v,ah lT] 253):=by
    rw[bl.2 p (cP jV he.1) (λe=>al)];exact xO
   have AZ:bV (J p) h' g':=⟨dH he.1 bl.1,λb cF bk=>by rw[bl.2 b (cP cF he.1) (λe=>al),he.2 b cF bk]⟩;refine dG (c4 rG) hlen ?_;refine⟨λa'=>?_,λeg=>?_⟩
   .obtain⟨a,bE,cE⟩:=Og ej AZ a' (λnh h=>Pu (ci .u64 nh) h λoA h=>Pu (bn .add (a4 (m%2^k*10:Nat)) oA) h λkn h=>N kn (ah (ej+1:Nat)) ch h) (by
     have f7:=f6 _ d10;generalize gI:ds.getD ej 0=v5 at*;refine bG f7 ?_;grind)
    refine bG bE ?_;exact cE
   grind
  clear a7 next
  have fin:U ds<=ej->m=0->bZ 1 (bU (J ⟨p,0,ab⟩)) cq g λ_ h=>bD 184 [aN p] h λld h=>R (bA #[]) h:=λnD aW=>by
   have abj:cellsL cq=[cq]/\one cq=ai:=by
    cases b0 with
    |none=>obtain⟨rfl,_⟩:=e1;exact⟨rfl,rfl⟩
    |some r=>obtain⟨_,_,_,_,rfl,_⟩:=e1;exact⟨rfl,rfl⟩
   refine fx xO a1 abj.1 abj.2 λeZ bl hc=>?_;have bk:b0≠J p:=λe=>al
   refine Pm (ds:=out) (dp:=lT) (ro:=b0) I ⟨⟨cq,hc,e1.at λr e=>bl.2 r (yi (e▸e1)) (λx=>bk al)⟩,bk,M3⟩ λfW dt Sv=>?_;refine q fW _ _ _ _ ((he.trans bl).trans dt) Sv (B9.trim (λP Q aD=>?_) (λbk=>at0 ?_) I M3) ?_
   .obtain⟨u,w,e,aD⟩:=aD;refine⟨u+1,w+(ej-U ds),I,?_⟩;have aw:=N' ds (ej-U ds);rw[(I:U ds+(ej-U ds)=ej),A_,aW,nm] at aw;grind
   .omega
   omega
  refine xb (c4 xO) hlen f1 f2 f3 f4 f5 f5 ?_;refine⟨λa'=>?_,λeg=>⟨λsw=>?_,λsw=>?_⟩⟩
  .exact body (bF a')
  .exact body (bt I)
  grind
end
