/- A part of the proof of FnTomlReadCardSaid: for every string the law FnTomlRead returns true. Conditions: those of the given row and card, no others. -/
import Derived.Test.YteonbmabmhoffaaGreatDoorA12
open Option renaming some->J,none->ab
open Bool renaming true->ai,false->av
open Go renaming Value->ao
open Go.Obj renaming cells->aO
open Go.Value renaming bool->aQ,slice->a5,tuple->bA,pointer->bU,agg->cA,nilIface->cR,iface->cW,string->fo
open Or renaming inl->bF,inr->bt
open Go.BinOp renaming eql->cQ,lss->fG,neq->hF,gtr->hf
open List renaming length->U,toArray->aZ,drop->ax,take->bf
open Array renaming size->ag,toList->bC,push->a6
namespace Go.Proofs.YteonbmabmhoffaaGreatDoor.F
set_option linter.all false
set_option autoImplicit true
set_option relaxedAutoImplicit true
set_option maxRecDepth 100000
set_option maxHeartbeats 4000000
noncomputable section
def MN(dk bH cq hH gC ng:ao)(h:H)(R:K):Prop:=
 b1 hH (Pu (nc dk) h λsQ h=>
 Pu (fd 6 sQ) h λmh h=>
 Pu (nc dk) h λo' h=>
 Pu (fd 10 o') h λqy h=>
 cd qy h λjk h=>
 bD 72 [mh,jk] h λkm h=>
 Pu (exv 0 km) h λpa h=>
 Pu (exv 1 km) h λmi h=>
 Pu (beI ai mi cR) h λnh h=>
 b1 nh (Pu (nc dk) h λoA h=>
 Pu (fd 10 oA) h λkn h=>
 cd kn h λrj h=>
 bD 73 [dk,gC,rj,mi] h λjJ h=>
 R (bA #[(a5 ab 0 0),jJ]) h)<|
 Pu (nc dk) h λkP h=>
 Pu (fd 10 kP) h λj3 h=>
 cd j3 h λld h=>
 bD 74 [dk,bH,ld,pa] h λxa h=>
 Pu (nc cq) h λr5 h=>
 bZ 1 r5 xa h λ_ h=>
 R (bA #[ng,cR]) h)<|
 Pu (nc dk) h λuH h=>
 Pu (fd 6 uH) h λqz h=>
 Pu (nc dk) h λmj h=>
 Pu (fd 10 mj) h λni h=>
 cd ni h λoB h=>
 bD 75 [qz,oB] h λpb h=>
 Pu (exv 0 pb) h λiZ h=>
 Pu (exv 1 pb) h λju h=>
 Pu (beI ai ju cR) h λoC h=>
 b1 oC (Pu (nc dk) h λnj h=>
 Pu (fd 10 nj) h λl2 h=>
 cd l2 h λko h=>
 bD 73 [dk,gC,ko,ju] h λmN h=>
 R (bA #[(a5 ab 0 0),mN]) h)<|
 Pu (nc dk) h λkQ h=>
 Pu (fd 10 kQ) h λlg h=>
 cd lg h λoa h=>
 bD 76 [dk,bH,oa] h λnR h=>
 Pu (nc cq) h λmO h=>
 bZ 1 mO nR h λ_ h=>
 R (bA #[ng,cR]) h
def MM(dk bH cq hH hv:ao)(h:H)(R:K):Prop:=
 Pu (nc dk) h λjG h=>
 Pu (fd 0 jG) h λlG h=>
 Pu (nc dk) h λjh h=>
 Pu (fd 10 jh) h λiq h=>
 cd iq h λiY h=>
 Pu (sl 1 iY ab (J (ah 0)) ab) h λri h=>
 bD 69 [lG,hv,ri] h λh4 h=>
 Pu (exv 0 h4) h λv20 h=>
 Pu (exv 1 h4) h λgC h=>
 Pu (exv 2 h4) h λf' h=>
 Pu (exv 3 h4) h λg2 h=>
 Pu (nc dk) h λji h=>
 Pu (fd 10 ji) h λhS h=>
 bZ 1 hS v20 h λ_ h=>
 Pu (beI ai g2 cR) h λjj h=>
 b1 jj (R (bA #[(a5 ab 0 0),g2]) h)<|
 fD 1 (λnV=>b1 hH (Pu (fb f') h λgT h=>
 Pu (bn fG gT (ah 2)) h λjH h=>
 a0 jH av (λh k=>k f' h) h λmL h=>
 a0 jH av (Pu (ia 1 mL (ah 0))) h λv30 h=>
 a0 jH av (cd v30) h λj2 h=>
 a0 jH av (Pu (bn hF j2 (bu 93))) h λmM h=>
 Pu (pk jH (aQ ai) mM) h λlb h=>
 a0 lb av (λh k=>k f' h) h λkM h=>
 a0 lb av (Pu (ia 1 kM (ah 1))) h λpR h=>
 a0 lb av (cd pR) h λlH h=>
 a0 lb av (Pu (bn hF lH (bu 93))) h λkN h=>
 Pu (pk lb (aQ ai) kN) h λkj h=>
 b1 kj (bD 70 [f'] h λme h=>
 bD 51 [me,(fo ⟨#[101,120,112,101,99,116,101,100,32,39,93,93,39,32,116,111,32,99,108,111,115,101,32,97,114,114,97,121,32,116,97,98,108,101,32,110,97,109,101]⟩),(a5 ab 0 0)] h λjI h=>
 R (bA #[(a5 ab 0 0),jI]) h)<|
 Pu (sl 1 f' (J (ah 2)) ab ab) h λnO h=>
 nV nO h)<|
 Pu (fb f') h λnP h=>
 Pu (bn cQ nP (ah 0)) h λl1 h=>
 a0 l1 av (λh k=>k f' h) h λo_ h=>
 a0 l1 av (Pu (ia 1 o_ (ah 0))) h λiH h=>
 a0 l1 av (cd iH) h λkO h=>
 a0 l1 av (Pu (bn hF kO (bu 93))) h λnQ h=>
 Pu (pk l1 (aQ ai) nQ) h λn' h=>
 b1 n' (bD 70 [f'] h λnd h=>
 bD 51 [nd,(fo ⟨#[101,120,112,101,99,116,101,100,32,39,93,39,32,116,111,32,99,108,111,115,101,32,116,97,98,108,101,32,110,97,109,101]⟩),(a5 ab 0 0)] h λkk h=>
 R (bA #[(a5 ab 0 0),kk]) h)<|
 Pu (sl 1 f' (J (ah 1)) ab ab) h λnf h=>
 nV nf h) λ_ mf h=>
 bD 71 [dk,mf] h λmg h=>
 Pu (exv 0 mg) h λng h=>
 Pu (exv 1 mg) h λkl h=>
 Pu (beI ai kl cR) h λlI h=>
 b1 lI (R (bA #[(a5 ab 0 0),kl]) h)<|
 MN dk bH cq hH gC ng h R
def Yx(dk bx bH cq:ao)(h:H)(R:K):Prop:=
 Pu (fb bx) h λv1 h=>
 Pu (bn hf v1 (ah 1)) h λv2 h=>
 a0 v2 ai (λh k=>k bx h) h λdD h=>
 a0 v2 ai (Pu (ia 1 dD (ah 1))) h λv4 h=>
 a0 v2 ai (cd v4) h λfI h=>
 a0 v2 ai (Pu (bn cQ fI (bu 91))) h λv6 h=>
 Pu (pk v2 v6 (aQ av)) h λhH h=>
 fD 1 (λlN=>b1 hH (Pu (sl 1 bx (J (ah 2)) ab ab) h λj4 h=>
 bD 50 [j4] h λj5 h=>
 lN j5 h)<|
 Pu (sl 1 bx (J (ah 1)) ab ab) h λv10 h=>
 bD 50 [v10] h λv11 h=>
 lN v11 h) λ_ hv h=>
 MM dk bH cq hH hv h R
structure z9(h:H)(own:cH)(h':H)(a_:cH):Prop where
 size:ag h<=ag h'
 ext:dL own a_ (ag h)
 b3:uT own h h'
def z_(h:H)(own:cH)(d bz b C:Nat)(D:B)(dj iG r0:Nat)(R:ao->H->Prop):Option (List (bW bL)×List Nat×Nat×Nat)->Prop
 |J (a8,bK,cY,l)=>∀h' a_ b6 cw ee c7 d_ v kv NR,lM h' a_ d bz b C D dj l a8 bK cY NR b6 cw ee c7 d_->z9 h own h' a_->h'[iG]?=J (aO #[mapOf NR] r0)->a_ iG=J iE->b6[10]?=J kv->p8 h' a_ kv->bp b l (U D) C v->R (bA #[v,cR]) h'
 |none=>∀e h',uT own h h'->db h' b D C->e2 h' b (U D) C e->R (bA #[a5 ab 0 0,e]) h'
section
variable{h h' aa ad wb:H}{own a_ eJ o2:cH}{d bz b C i i0 j l id cY gq dj cur iG r0:Nat}{D s:B}{aj a8:List (bW bL)}{M bK:List Nat}{c b6 c1:Array ao}{E cw kx:List eM}{V ee:List ao}{ca c7:Nat->Nat}{live d_:Nat->Prop}{u v v0 w a p b' parts:ao}{ks:List B}{ro:Option Nat}{t:bL}{R:ao->H->Prop}
def g4.n(a:g4 h own aa eJ):z9 h own aa eJ:=⟨a.size,a.ext,λx ae aH=>a.lc x ae (.inl aH)⟩
def z9.trans(a:z9 h own aa eJ)(b:z9 aa eJ ad o2):z9 h own ad o2:=
 ⟨dH a.size b.size,dL.trans a.ext b.ext a.size,λx ae aH=>by rw[b.b3 x (cP ae a.size) ((a.ext x ae).trans aH),a.b3 x ae aH]⟩
def oe.move(P:oe h own d bz c b C D)(aq:∀x,x<h.size->own x=ab\/own x=J (1000000,0)\/own x=J (1000000,1)->h'[x]?=h[x]?/\a_ x=own x):oe h' a_ d bz c b C D:=by
 obtain⟨w,gu,gD⟩:=P.fL;obtain⟨pv,DB,cap,L,cc,cK,df,gB,hj⟩:=P.row;have aG:=aq d (cm.1 P.par).1 (.inr (.inl P.c5));have af:=aq b P.doc.lt (.inl P.mJ);refine⟨aG.1.trans P.par,aG.2.trans P.c5,af.2.trans P.mJ,P.size,P.n5,⟨w,gu,gD⟩,⟨pv,DB,cap,L,cc,cK.at λr aF=>?_,df,gB,λr aF=>?_⟩,P.pG,P.doc.at af.1⟩
 .subst aF;exact(aq r cK.lt (.inr (.inr (hj r rfl)))).1
 .subst aF;exact(aq r cK.lt (.inr (.inr (hj r rfl)))).2.trans (hj r rfl)
def abO(X:lM h own d bz b C D dj i aj M id gq c E V ca live)(T:ft h own c aa eJ d bz c1 kx cur)(G:jm kx a8 bK c7 d_)(ay:c1[10]?=J parts)(P:jy aa eJ parts ks)(jR:U kx<=1+l)(aL:U a8<=1+2*l)(nF:l<=U D)(acm:d_ cY)(Ie:cur=c7 cY)(aW:d_ 0)(xQ:c7 0=0)(S:gV aa eJ wb a_ a8 ee)(Iw:cV ee cY=cW 52 (mapOf dP))(bk:lq a8)(Dc:cz a8 cY)(b5:∀x,cz aj x->cz a8 x/\cV ee x=cV V x)(k0:h[iG]?=J (aO #[mapOf gq] r0)) (q5:own iG=J iE) (bj:bp b l (U D) C fin) (q:z_ h own d bz b C D dj iG r0 R (J (a8,bK,cY,l))):bZ 1 (aN iG) (mapOf dP) wb λ_ h=>R (bA #[fin,cR]) h:=by
 have qo:=(cm.1 k0).1;have N2:eJ iG=J iE:=(T.ext iG qo).trans q5;have jc:aa[iG]?=J (aO #[mapOf gq] r0):=(T.ek.2 iG qo λk aq=>by rw[q5] at aq;cases aq).trans k0;have M9:=(cm.1 jc).1;have UM:a_ iG=J iE:=(S.ext iG M9).trans N2;have mF:wb[iG]?=J (aO #[mapOf gq] r0):=(S.ks iG M9 (bt ⟨_,_,N2,aE⟩)).trans jc;have Ag:=(X.P.hb T).qi S;have p':lM wb a_ d bz b C D dj l a8 bK cY dP c1 kx ee c7 d_:=⟨Ag,by rw[<-Ie];exact T.eh.qi S,S.gs.dv,S.gs,G,aW,xQ,(b5 0 X.t0).1,(b5 0 X.t0).2.trans X.rt,acm,Dc,Iw,bk,jR,aL,nF,X.hZ⟩;refine fx mF a1 rfl rfl λbd ar uv=>?_;have cf:∀x,x≠iG->bd[x]?=wb[x]?\/ag wb<=x:=λx ae=>by
  by_cases au:x<ag wb
  .exact bF (ar.2 x au λe=>ae (en e))
  omega
 have y2:∀x,x<ag wb->a_ x≠J iE->bd[x]?=wb[x]?:=λx ae aH=>ar.2 x ae λe=>aH al;have yN:oe bd a_ d bz c1 b C D:=Ag.move λx ae aH=>⟨y2 x ae λe=>(by rw[e] at aH;rcases aH with aH|aH|aH<;>cases aH),rfl⟩;refine q bd a_ c1 kx ee c7 d_ fin parts dP (p'.move yN rfl (λ_ _ _=>rfl) (λx y ae=>cP (p'.dv x y ae) ar.1) λx ae aH=>⟨y2 x ae λe=>?_,rfl⟩) ((g4.n ((g4.ek T.ek T.ext).trans (g4.qi S))).trans ⟨ar.1,dL.refl _ _,λx ae aH=>y2 x ae al⟩) uv UM ay ((P.mc.qi S).move λx ae aH=>⟨?_,rfl⟩) bj
 .rw[e] at aH;rcases aH with aH|⟨s,aH,_⟩|⟨y,s,aH,a2⟩<;>cases aH;omega
 .exact y2 x ae λe=>by rw[e] at aH;cases aH
theorem hdT{raw fin:Value}{dU:Bool}{vz:Nat}(X:lM h own d bz b C D dj i aj M id gq c E V ca live)(ay:c[10]?=some parts)(P:jy h own parts ks)(nH:bp b i0 vz C raw)(qX:vz<=D.length)(bj:bp b l D.length C fin)(au:i+ks.length<=l)(nF:l<=D.length)(k0:h[iG]?=some (.cells #[mapOf gq] r0)) (q5:own iG=some iE) (q:z_ h own d bz b C D dj iG r0 R (match nameS dU ks aj M with
    | .ok a8 bK cY=>some (a8,bK,cY,l)
    | .no _=>none)):MN (aN d) (mapOf dj) (aN iG) (.bool dU) raw fin h R:=by
 unfold MN;have C3:=X.hZ;have Th:=X.Bz;have acR:=X.Jy;have hle:=X.le;have f6:fd 6 (aN d)=some (eB d 6):=oO;have f10:fd 10 (aN d)=some (.pointer (some ⟨d,10,none⟩)):=oO;have gj:∀{aa:H} {c1:Array Value} {K:F.K},aa[d]?=some (.cells c1 bz)->c1[10]?=some parts->cd (.pointer (some ⟨d,10,none⟩)) aa K=K parts aa:=λ{aa c1 K} aw ar=>by rw[fs aw,ar,bs]
 have xW:0<ks.length:=lJ.2 P.ne;cases dU with
 |true=>
  (simp-implicitDefEqProofs+contextual (disch:=omega) only[go_sem,f6,f10,gj X.P.par ay];try refine c8 ?_)
  refine ajC X.T X.dv X.G ⟨X.l0,X.bP⟩ X.t0 P I (λaa eJ c1 kx cur cg c_ PG Mw dz=>?_) λfy aa eJ c1 kx cur x e c_ iX=>?_
  .have gH:c1[10]?=some parts:=(c_.kU 10 (.inr aE)).trans ay;obtain⟨a8,bK,cY,c7,d_,aI,uU,fg,Tn,Ie,h_,xQ,nI⟩:=PG.ok;rw[aI] at q;have c0:=(Ut (j:=0) aI).1;(simp-implicitDefEqProofs+contextual (disch:=omega) only[go_sem,f10,gj c_.eh.bJ gH];try refine c8 ?_)
   refine ajD (X.S.hb I c_) I X.t0 X.rt X.ne (P.hb c_) aI dz λg a_ ee dP S Iw bk Dc b5=>?_;exact abO X c_ uU gH (P.hb c_) I al nF fg Ie h_ xQ S Iw bk Dc b5 k0 q5 bj q
  .have af:=Cw iX;have gH:c1[10]?=some parts:=(c_.kU 10 (.inr aE)).trans ay;obtain⟨jO,fy⟩:=fy;rw[fy] at q;(simp-implicitDefEqProofs+contextual (disch:=omega) only[go_sem,af,f10,gj c_.eh.bJ gH];try refine c8 ?_)
   refine GN (dR:=(X.P.hb c_).doc.lt) (P.hb c_) iX nH qX λad e ar er=>?_;exact q e ad ((g4.ek c_.ek c_.ext).b3 (.g_ ar)) ((X.P.hb c_).doc.ext ar) er
 |false=>
  (simp-implicitDefEqProofs+contextual (disch:=omega) only[go_sem,f6,f10,gj X.P.par ay];try refine c8 ?_)
  refine C75 X.T X.dv X.G ⟨X.l0,X.bP⟩ X.t0 P I (λaa eJ c1 kx cur cg c_ PG Mw dz=>?_) λfy aa eJ c1 kx cur x e c_ iX=>?_
  .have gH:c1[10]?=some parts:=(c_.kU 10 (.inr aE)).trans ay;obtain⟨a8,bK,cY,c7,d_,aI,uU,fg,Tn,Ie,h_,xQ,nI⟩:=PG.ok;rw[aI] at q;have c0:=(Ut (j:=0) aI).1;(simp-implicitDefEqProofs+contextual (disch:=omega) only[go_sem,f10,gj c_.eh.bJ gH];try refine c8 ?_)
   refine ajE (X.S.hb I c_) I X.t0 X.rt X.ne (P.hb c_) aI λg a_ ee dP S Iw bk Dc b5=>?_;exact abO X c_ uU gH (P.hb c_) I al nF fg Ie h_ xQ S Iw bk Dc b5 k0 q5 bj q
  .have af:=Cw iX;have gH:c1[10]?=some parts:=(c_.kU 10 (.inr aE)).trans ay;obtain⟨jO,fy⟩:=fy;rw[fy] at q;(simp-implicitDefEqProofs+contextual (disch:=omega) only[go_sem,af,f10,gj c_.eh.bJ gH];try refine c8 ?_)
   refine GN (dR:=(X.P.hb c_).doc.lt) (P.hb c_) iX nH qX λad e ar er=>?_;exact q e ad ((g4.ek c_.ek c_.ext).b3 (.g_ ar)) ((X.P.hb c_).doc.ext ar) er
def hdK(D:B)(dU:Bool)(i1:Nat)(aj:List (bW bL))(M:List Nat):Option (List (bW bL)×List Nat×Nat×Nat):=
 match gkey D i1 [] with
 |none=>ab
 |J (ks,j)=>if g D j=93/\(dU=ai->g D (j+1)=93) then(match gfin D (if dU then j+2 else j+1) with
   |none=>ab
   |some l=>match nameS dU ks aj M with
    | .ok a8 bK cY=>J (a8,bK,cY,l)
    | .no _=>ab)
  else ab
def z_.cf(F:g4 h own aa eJ)(q:z_ h own d bz b C D dj iG r0 R o):z_ aa eJ d bz b C D dj iG r0 R o:=by
 cases o with
 |none=>exact λe h' b3=>q e h' (F.b3 b3)
 |some x=>
  obtain⟨a8,bK,cY,l⟩:=x;intro h' a_ b6 cw ee c7 d_ v kv NR X F';exact q h' a_ b6 cw ee c7 d_ v kv NR X (F.n.trans F')
def abN(X:lM h own d bz b C D dj i aj M id gq c E V ca live)(ay:c[10]?=J v0)(mc:p8 h own v0)(aD:bp b i0 D.length C u)(az:i<=i0)(k0:h[iG]?=J (.cells #[mapOf gq] r0)) (q5:own iG=J iE) (q:z_ h own d bz b C D dj iG r0 R (hdK D dU i0 aj M)):MM (aN d) (mapOf dj) (aN iG) (.bool dU) u h R:=by
 unfold MM;unfold hdK at q;have aM:=X.P.doc;have e0:=aM.mH;have hlen:=aM.len;refine adE X ay mc aD (λks j aX aa eJ c1 parts raw rest p' po iD gH Ag lA eK aC nH wD=>?_) λaX e aa b3 mx er=>?_
 .rw[aX] at q;simp only at q;have qo:=(cm.1 k0).1;have acE:=(po.lc iG qo (.inr q5)).trans k0;have N2:=(po.ext iG qo).trans q5;have mx:=p'.P.doc;have pE:=wD;have ct:=@cu D (j+1);obtain⟨er,rfl,cc,cK,df,gB⟩:=wD;have bad:¬(g D j=93/\(dU=ai->g D (j+1)=93))->∀s:B,s.length<=1000->bD 70 [.slice (J ⟨b,er,ab⟩) (D.length-j) (C-j)] aa λf' h=>bD 51 [f',S s,.slice ab 0 0] h λg2 h=>R (.tuple #[.slice ab 0 0,g2]) h:=λaI s k1=>by
   rw[ak aI] at q;refine Xo pE e0 λBJ bI x6 g8=>?_;exact gU x6 g8 λe ad ar er=>q e ad (po.b3 (.g_ ar)) (mx.ext ar) er
  have fin:∀{mf:ao},bp b (if dU then j+2 else j+1) D.length C mf->(g D j=93/\(dU=ai->g D (j+1)=93))->bD 71 [aN d,mf] aa λmg h=>
    Pu (exv 0 mg) h λng h=>Pu (exv 1 mg) h λkl h=>Pu (beI ai kl .nilIface) h λlI h=>b1 lI (R (.tuple #[(.slice ab 0 0),kl]) h)<|MN (aN d) (mapOf dj) (aN iG) (.bool dU) raw ng h R:=λ{mf} au6 a2=>by
   rw[aA a2] at q;have ij:j<=(if dU then j+2 else j+1):=al
   refine KR mx au6 (λl x ad ar ou SQ ae=>?_) λou x e ad ar er=>?_
   .rw[ou] at q;refine aR ?_;obtain⟨vz,qX,nH⟩:=nH;have nF:l<=D.length:=by obtain⟨_,_,_,bO,_⟩:=ae;exact bO
    have M9:=(cm.1 acE).1;exact hdT (p'.fN ar) gH (Ag.fN ar) nH qX ae I nF ((ar.2 iG M9).trans acE) N2 (z_.cf (po.trans (g4.g_ ar)) q)
   .rw[ou] at q;have af:=gW er;refine bG af ?_;exact q e ad (po.b3 (.g_ ar)) (mx.ext ar) er
  clear q;refine aR ?_;refine ll (λv h=>h=aa/\(g D j=93/\(dU=ai->g D (j+1)=93))/\bp b (if dU then j+2 else j+1) D.length C v) (λN a7=>?_) (λv h aD=>?_)
  .have bP:D.length-j=0->g D j=0:=λh=>g6 I;have aw:D.length-j<2->g D (j+1)=0:=λh=>g6 I;clear fin;cases dU with
   |true=>
    have cg:=λ(aI:¬(g D j=93/\g D (j+1)=93))=>bad λh=>aI ⟨h.1,h.2 rfl⟩;clear bad;refine dG (dI mx cc) (hA mx cc) ?_;refine⟨λaW=>cg (λae=>?_) _ aE,λaW=>⟨λae=>cg (λa2=>ae a2.1) _ aE,λae=>⟨λa2=>cg (λaV=>a2 aV.2) _ aE,λa2=>?_⟩⟩⟩
    .omega
    .clear cg;exact a7 _ _ ⟨rfl,⟨OY.1 ae,λ_=>OY.1 a2⟩,(show bp b (j+2) D.length C _ from(bp.of I I ⟨by (try unfold cX);grind,I,I,by (try unfold cX);grind⟩))⟩
   |false=>
    have cg:=λ(aI:¬g D j=93)=>bad λh=>aI h.1;clear bad;refine dG (dI mx cc) (hA mx cc) ?_;refine⟨λaW=>cg (λae=>?_) _ aE,λaW=>⟨λae=>cg ae _ aE,λae=>?_⟩⟩
    .omega
    .clear cg;exact a7 _ _ ⟨rfl,⟨OY.1 ae,λh=>by cases h⟩,(show bp b (j+1) D.length C _ from(bp.of I I ⟨by (try unfold cX);grind,I,I,by (try unfold cX);grind⟩))⟩
  grind
 .rw[aX] at q;have:=gW er;refine bG this ?_;exact q e aa b3 mx er
def aju(X:lM h own d bz b C D dj i aj M id gq c E V ca live)(ay:c[10]?=J v0)(mc:p8 h own v0)(aD:bp b i0 (U D) C u)(az:i<=i0)(nD:i0<U D)(k0:h[iG]?=J (aO #[mapOf gq] r0)) (q5:own iG=J iE) (q:z_ h own d bz b C D dj iG r0 R (hdK D (decide (g D (i0+1)=91)) (a9 D (if g D (i0+1)=91 then i0+2 else i0+1)) aj M)):bo 54 [aN d,u,mapOf dj,aN iG] h R:=by
 apply amr;change Yx _ _ _ _ _ _;unfold Yx;have aM:=X.P.doc;have e0:=aM.mH;have hlen:=aM.len;have cI:=aD;obtain⟨e,rfl,aa,ad,an,aT⟩:=aD;have ct:=@cu D (i0+1);refine bG (dI aM aa) ?_;have one:∀c' {K:ao->H->Prop},bp b (i0+1) (U D) C c'->¬g D (i0+1)=91->bo 50 [c'] h λv h=>MM (aN d) (mapOf dj) (aN iG) (aQ av) v h R:=λc' {K} he aI=>by
  rw[ig aI,ak aI] at q;refine Eh aM he λch k2=>?_;have:=o6 (D:=D) (i:=i0+1) I;exact abN X ay mc k2 I k0 q5 q
 refine⟨λad=>⟨λhK=>?_,λhK=>?_⟩,λad=>?_⟩
 .rw[j7 hK,aA hK] at q;refine lO ?_;clear one;refine aR ?_;refine Eh aM (i:=i0+2) ck λch k2=>?_;have:=o6 (D:=D) (i:=i0+2) I;exact abN X ay mc k2 I k0 q5 q
 .refine lO ?_;refine aR ?_;exact one _ (K:=λ_ _=>True) ck hK
 .refine lO ?_;have hK:¬g D (i0+1)=91:=I
  refine aR ?_;exact one _ (K:=λ_ _=>True) ck hK
end
def gdocQ(D:B):Nat->Nat->List (bW bL)->List Nat->Nat->(Option bL->Prop)->Prop
 |0,_,_,_,_,_=>False
 |n+1,i,aj,M,id,Q=>
  if U D<=a9 D i then Q (J (tomlS aj (U aj) 0))
  else if g D (a9 D i)=10 then gdocQ D n (a9 D i+1) aj M id Q
  else if g D (a9 D i)=13 then(if g D (a9 D i+1)=10 then gdocQ D n (a9 D i+2) aj M id Q else Q ab)
  else if g D (a9 D i)=35 then(match gcom D (a9 D i+1) with
   |none=>Q ab
   |some j=>match oQ D j with
    |none=>Q ab
    |some k=>gdocQ D n k aj M id Q)
  else if g D (a9 D i)=91 then(match hdK D (decide (g D (a9 D i+1)=91)) (a9 D (if g D (a9 D i+1)=91 then a9 D i+2 else a9 D i+1)) aj M with
   |none=>Q ab
   |J (a8,bK,cY,l)=>gdocQ D n l a8 bK cY Q)
  else kvQ D (a9 D i) aj M id λo=>match o with
   |none=>Q ab
   |J (a8,bK,l)=>gdocQ D n l a8 bK id Q
def KX(h:H)(own:cH)(b C:Nat)(D:B)(dj:Nat)(R:ao->H->Prop):Option bL->Prop
 |some t=>∀h',uT own h h'->ag h<=ag h'->gx (λ_=>ab) h' (cW 52 (mapOf dj)) t->R cR h'
 |none=>∀e h',uT own h h'->db h' b D C->e2 h' b (U D) C e->R e h'
section
variable{h h' aa ad:H}{own a_ eJ o2:cH}{d bz b C i i0 j l id cY gq dj cur iG r0 n:Nat}{D s:B}{aj a8:List (bW bL)}{M bK:List Nat}{c b6 c1:Array ao}{E cw kx:List eM}{V ee:List ao}{ca c7:Nat->Nat}{live d_:Nat->Prop}{u v v0 w a p b' parts:ao}{ks:List B}{ro:Option Nat}{t:bL}{R:ao->H->Prop}
def adI(b5:∀o,Q o->fU o)(q:kvQ D i aj M id Q):kvQ D i aj M id fU:=by
 unfold kvQ at q⊢;split
 .grind
 .rename_i e;rw[e] at q;simp only at q;split
  .rename_i ar;rw[aA ar] at q;split
   .grind
   .rename_i aS;rw[aS] at q;simp only at q;split
    .grind
    .rename_i bl;rw[bl] at q;exact N_ b5 q
  grind
def an7:Z 52=[.map ab]:=b4
def ajg(X:lM h own d bz b C D dj 0 aj M id dj c E V ca live)(ay:c[10]?=J v0)(mc:p8 h own v0)(aD:bp b 0 D.length C u)(aP:yI D)(q:gdocQ D n 0 aj M id (KX h own b C D dj R)):bo 32 [aN d,mapOf dj,u] h R:=by
 apply al4;rw[gE,an7];have jT:(h.push (.cells [Value.map ab].toArray 52))[h.size]?=J (.cells #[Value.map ab] 52):=dS _ _;refine fx jT a1 rfl rfl λaa aw jc=>?_;have b_:aB h aa:=bV.fe (aB.push _ _) aw λr aF=>al
 have qo:h.size<aa.size:=al
 have p':lM aa (cS own h.size iE) d bz b C D dj 0 aj M id dj c E V ca live:=X.move (X.P.move λx ae _=>⟨b_.2 x ae,kL I⟩) rfl (λ_ _ _=>rfl) (λx y a2=>by
  unfold cS at a2;split at a2
  .omega
  .have:=X.dv x y a2;omega) λx ae _=>⟨b_.2 x ae,kL I⟩
 have po:z9 h own aa (cS own h.size iE):=⟨b_.1,λx ae=>kL I,λx ae _=>b_.2 x ae⟩;have X1:p8 aa (cS own h.size iE) v0:=mc.move λx ae _=>⟨b_.2 x ae,kL I⟩;refine eV (λm w ae=>∃(i:Nat) (a_:cH) (a8:List (bW bL)) (bK:List Nat) (cY gq:Nat) (b6:Array ao) (cw:List eM) (ee:List ao) (c7:Nat->Nat) (d_:Nat->Prop) (kv:ao),lM ae a_ d bz b C D dj i a8 bK cY gq b6 cw ee c7 d_/\z9 h own ae a_/\ae[h.size]?=J (.cells #[mapOf gq] 52)/\a_ h.size=J iE/\b6[10]?=J kv/\p8 ae a_ kv/\bp b i D.length C w/\gdocQ D m i a8 bK cY (KX h own b C D dj R)) n
  ⟨0,_,aj,M,id,dj,c,E,V,ca,live,v0,p',po,jc,by unfold cS;grind,ay,X1,aD,q⟩ ?_
 clear X p' po X1 aD q ay mc aw b_ jc jT;rintro m fl w ae N ⟨i,a_,a8,bK,cY,gq,b6,cw,ee,c7,d_,kv,X,F,k0,q5,ay,mc,aD,q⟩ a7;cases m with
 |zero=>exact q.elim
 |succ m=>
 have az:i<=D.length:=X.le;have aM:=X.P.doc;have e0:=aM.mH;have hlen:=aM.len;rw[gdocQ] at q;refine Eh aM aD λbh vu=>?_;have wG:=o6 (D:=D) (i:=i) az;generalize a9 D i=i2 at*;have FM:=vu;obtain⟨e,rfl,t1,t2,t3,t4⟩:=vu;have go:∀{j:Nat} {u:ao},i2<=j->bp b j D.length C u->gdocQ D m j a8 bK cY (KX h own b C D dj R)->N u ae:=λ{j u} aC hu h3=>
  a7 m u ae I ⟨j,a_,a8,bK,cY,gq,b6,cw,ee,c7,d_,kv,X.on I (by obtain⟨_,_,_,bO,_⟩:=hu;exact bO),F,k0,q5,ay,mc,hu,h3⟩
 have ct:=@cu D (i2+1);(simp-implicitDefEqProofs+contextual (disch:=omega) only[go_sem,qH aM t1,vN aM t1];try refine c8 ?_)
 have Q4:∀{e:ao} {ad:H},uT a_ ae ad->db ad b D C->e2 ad b D.length C e->KX h own b C D dj R ab->R e ad:=λ{e ad} b3 fX er h3=>h3 e ad (λx kc aH=>by rw[b3 x (cP kc F.size) ((F.ext x kc).trans aH),F.b3 x kc aH]) fX er;have Hy:g D i2=13->¬g D (i2+1)=10->¬D.length<=i2->ew 20 1 (Z 20) [(0,1,Value.iface 5 (Value.int IntKind.u8 13))] ae λf' h=>bD 51 [.slice (J ⟨b,e,ab⟩) 1 (C-i2),S [101,120,112,101,99,116,101,100,32,110,101,119,108,105,110,101,32,98,117,116,32,103,111,116,32,37,35,85],f'] h λg2 h=>R g2 h:=λdx aI he=>by
  rw[ak he,ak I,aA dx,ak aI] at q;rw[pn oJ rfl rfl];refine gU (b:=b) (C:=C) (i:=i2) (j:=i2+1) (N:=D.length) (bp.of I I ⟨I,I,I,I⟩) I λe ad ar er=>?_;have aS:=(aB.push ae _).trans ar;exact Q4 (.g_ aS) (aM.ext aS) er q
 refine⟨λaW=>?_,λaW=>?_⟩
 .rw[aA I] at q;have aJ:0<a8.length:=by obtain⟨kv,aq⟩:=X.t0;grind
  have gv:=X.S.gv (o2:=λ_=>ab) (by have:=X.Bz;omega) (λ_ _ _=>rfl) a8.length 0 aJ I;rw[X.rt] at gv;exact q ae F.b3 F.size gv
 have he:¬D.length<=i2:=I
 refine⟨λdh=>?_,λdh=>⟨λdx=>?_,λdx=>⟨λpB=>?_,λpB=>⟨λhK=>?_,λhK=>?_⟩⟩⟩⟩
 .rw[ak he,aA dh] at q;exact go (j:=i2+1) I (bp.of I I ⟨by (try unfold cX);grind,I,I,by (try unfold cX);grind⟩) q
 .refine⟨λau=>⟨λaa=>?_,λaa=>Hy dx aa he⟩,λau=>Hy dx I he⟩;rw[ak he,ak dh,aA dx,aA aa] at q;exact go (j:=i2+2) I (bp.of I I ⟨by (try unfold cX);grind,I,I,by (try unfold cX);grind⟩) q
 .clear Hy;rw[ak he,ak dh,ak dx,aA pB] at q;refine Xk aM FM I (λj x y ad ar aX eK aC k3 lC=>?_) λx y e ad aX ar er=>?_
  .rw[aX] at q;simp only at q;refine aR ?_;refine Ps (aM.ext ar) lC (λk z aq aV=>?_) λaq z e an aS er=>?_
   .rw[aq] at q;simp only at q;refine aR ?_;have lA:k<=D.length:=by obtain⟨_,_,_,bO,_⟩:=aV;exact bO
    have Fs:=HP aC aq;exact a7 m z ad I ⟨k,a_,a8,bK,cY,gq,b6,cw,ee,c7,d_,kv,(X.fN ar).on I lA,F.trans (g4.n (g4.g_ ar)),(ar.2 _ (cm.1 k0).1).trans k0,q5,ay,mc.move λx kc _=>⟨ar.2 x kc,rfl⟩,aV,q⟩
   .rw[aq] at q;simp only at q;have af:=gW er;refine bG af ?_;exact Q4 (.g_ (ar.trans aS)) (aM.ext (ar.trans aS)) er q
  .rw[aX] at q;simp only at q;have af:=gW er;refine bG af ?_;exact Q4 (.g_ ar) (aM.ext ar) er q
 .clear Hy;rw[ak he,ak dh,ak dx,ak pB,aA hK] at q;refine aju X ay mc FM I I k0 q5 ?_;cases bO:hdK D (decide (g D (i2+1)=91)) (a9 D (if g D (i2+1)=91 then i2+2 else i2+1)) a8 bK with
  |none=>
   rw[bO] at q;intro e ad b3 fX er;have af:=gW er;refine bG af ?_;grind
  |some x=>
   obtain⟨hy,M2,FT,l⟩:=x;rw[bO] at q;intro ad o2 c2 xl u4 Q1 T_ v hO awG qK GV mF UM j' TP oX;refine aR ?_;exact a7 m v ad I ⟨l,o2,hy,M2,FT,awG,c2,xl,u4,Q1,T_,hO,qK,F.trans GV,mF,UM,j',TP,oX,q⟩
 .clear Hy;rw[ak he,ak dh,ak dx,ak pB,ak hK] at q;have sv:∀K:ao->H->Prop,cd (aN h.size) ae K=K (mapOf gq) ae:=λK=>fs k0;rw[sv];refine ajv X ay mc FM I aP (adI (λo aH=>?_) q);cases o with
  |none=>
   intro e ad b3 fX er;have af:=gW er;refine bG af ?_;grind
  |some x=>
   obtain⟨hy,M2,l⟩:=x;intro ad o2 c2 xl u4 Q1 T_ v hO qK GV j' TP oX;refine aR ?_;have acF:=(cm.1 k0).1;exact a7 m v ad I ⟨l,o2,hy,M2,cY,gq,c2,xl,u4,Q1,T_,hO,qK,F.trans GV.n,(GV.lc _ acF (.inr q5)).trans k0,(GV.ext _ acF).trans q5,j',TP,oX,aH⟩
end
def P2:Z 85=[aQ av,a5 ab 0 0,a5 ab 0 0,a5 ab 0 0,cR,ah 0,a5 ab 0 0,dc 0,a5 ab 0 0,a5 ab 0 0,a5 ab 0 0]:=b4
def zJ:eM:=⟨-1,3,av,[],a5 ab 0 0⟩
def bV.eh(a:bV (J r) h aa)(b:bV (J r) aa ad):bV (J r) h ad:=
 ⟨dH a.1 b.1,λx ae aI=>by rw[b.2 x (cP ae a.1) aI,a.2 x ae aI]⟩
section
variable{h h' aa ad:H}{own a_ eJ o2:cH}{d bz b C i i0 j l id cY gq dj cur iG r0 n:Nat}{D s:B}{aj a8:List (bW bL)}{M bK:List Nat}{c b6 c1:Array ao}{E cw kx:List eM}{V ee:List ao}{ca c7:Nat->Nat}{live d_:Nat->Prop}{u v v0 w a p b' parts:ao}{ks:List B}{ro:Option Nat}{t:bL}{R:ao->H->Prop}
def ajs(T:ho h own d bz c [] cur)(aG:∀b x,own b=J x->b<h.size)(cB:c[6]?=J (.slice ab 0 0))(q:∀h' a_ b6,ft h own c h' a_ d bz b6 [zJ] 0->R (.tuple #[]) h'):bo 49 [eB d 6] h R:=by
 apply amm;have kf:nc (eB d 6)=J (eB d 6):=rfl;have f0:fd 0 (eB d 6)=J (eB d 6):=tP;have f1:fd 1 (eB d 6)=J (eB d 7):=tP;have FK:sl 4 (.slice ab 0 0) ab (J (.i 0)) ab=J (.slice ab 0 0):=rfl;have ef:∀K:ao->H->Prop,Bd (Z 131) [(0,1,.j (-1)),(1,1,.b 3)] h K=K (.agg (fM zJ).toArray) h:=λK=>by
  rw[Cn];rfl
 rw[kf,bs,f0,bs,qI T.bJ,cB,bs,FK,bs,ef];rw[D' (sz:=4) (cx:=fM zJ) (by rw[Cn];rfl) rfl rfl];have mr:=aB.push h (.cells (fM zJ).toArray 131);refine b2.append (n:=1) (new:=(fM zJ).toArray) (M:=fM zJ) (L:=[]) (ro:=ab) ⟨rfl,rfl⟩ aE (by rw[Cn];rfl) rfl ?_ rfl rfl rfl aE λv2 aa pA b_ lX dF=>?_
 .simp only[shown,dS];rfl
 .have Kn:bV ab h aa:=bV.pre mr b_;have qU:aa[d]?=J (.cells c bz):=by
   rw[Kn.2 d (cm.1 T.bJ).1 (λe=>by cases e)];exact T.bJ
  have aL:=T.size;rw[bs,f0,bs];refine fx qU I (kJ lX).1 (kJ lX).2 λan cp eH=>?_;have c_:ft h own c an (dX own pA (1000000,2)) d bz (c.setIfInBounds 6 v2) [zJ] cur:=by
   refine T.row (er:=ab) aG (λr aF=>by cases aF) Kn ?_ al cp eH (λy a2=>?_) a1 (λi y a2=>?_) λy a2=>?_
   .grind
   .rw[O2.1 a2];exact .inl ⟨rfl,rfl⟩
   .cases i with
    |zero=>cases a2;exact⟨.inl rfl,aE⟩
    |succ m=>simp at a2
   .rw[O2.1 a2];decide
  rw[bs,f1,bs];exact c_.eh.JA (m:=0) c_.dv λaT dQ kT=>q aT _ dQ (c_.trans kT)
def ajf(T:ho h own d bz c [] cur)(aG:∀b x,own b=J x->b<ag h)(cB:c[6]?=J (a5 ab 0 0))(q:∀h' a_ b6,ft h own c h' a_ d bz b6 [zJ] 0->R (bA #[]) h'):bo 31 [eB d 6] h R:=by
 apply al3;exact ajs T aG cB q
def aje(af:h[d]?=J (aO (aZ (Z 85)) 85))(hu:cellsL u=[u]/\one u=ai)(q:∀h',bV (J d) h h'->h'[d]?=J (aO #[aQ av,u,u,a5 ab 0 0,cR,ah 0,a5 ab 0 0,dc 0,a5 ab 0 0,a5 ab 0 0,a5 ab 0 0] 85)->R (bA #[]) h'):bo 30 [aN d,u] h R:=by
 apply al2;rw[P2] at af;have f:∀k,fd k (aN d)=J (bU (J ⟨d,k,ab⟩)):=λk=>oO;have kf:nc (aN d)=J (aN d):=rfl;have FK:sl 7 (a5 ab 0 0) ab (J (ah 0)) ab=J (a5 ab 0 0):=rfl;rw[kf,bs,f,bs];refine fx af a1 hu.1 hu.2 λaa aw cg=>?_;rw[bs,f,bs];refine fx cg a1 hu.1 hu.2 λad ar cJ=>?_;rw[bs,f,bs,fs cJ];show Pu (J (a5 ab 0 0)) ad _;rw[bs,FK,bs,bs,f,bs];refine fx cJ a1 rfl rfl λan aS eP=>?_;rw[bs,f,bs];refine fx eP a1 rfl rfl λaT bl hc=>?_;rw[bs,f,bs];refine fx hc a1 rfl rfl λbN dt l6=>?_;exact q bN ((((aw.eh ar).eh aS).eh bl).eh dt) l6
def anL(b:Nat)(h:H)(R:ao->H->Prop):Option bL->Prop
 |some t=>∀h' m,aB h h'->gx (λ_=>ab) h' (cW 52 m) t->R (bA #[m,cR]) h'
 |none=>∀h' e,XW b h h'->KV h' e->R (bA #[.map ab,e]) h'
def vf(b5:∀o,Q o->fU o):∀{n i:Nat} {aj:List (bW bL)} {M:List Nat} {id:Nat},gdocQ D n i aj M id Q->gdocQ D n i aj M id fU
 |0,_,_,_,_,q=>q
 |n+1,i,aj,M,id,q=>by
  rw[gdocQ] at q⊢;by_cases c1:U D<=a9 D i
  .rw[aA c1] at q⊢;exact b5 _ q
  rw[ak c1] at q⊢;by_cases c2:g D (a9 D i)=10
  .rw[aA c2] at q⊢;exact vf b5 q
  rw[ak c2] at q⊢;by_cases cy:g D (a9 D i)=13
  .rw[aA cy] at q⊢;by_cases dQ:g D (a9 D i+1)=10
   .rw[aA dQ] at q⊢;exact vf b5 q
   grind
  rw[ak cy] at q⊢;by_cases dQ:g D (a9 D i)=35
  .rw[aA dQ] at q⊢;split
   .grind
   .rename_i e;rw[e] at q;simp only at q;split
    .grind
    .rename_i e;rw[e] at q;exact vf b5 q
  rw[ak dQ] at q⊢;by_cases eX:g D (a9 D i)=91
  .rw[aA eX] at q⊢;split
   .grind
   .rename_i e;rw[e] at q;exact vf b5 q
  rw[ak eX] at q⊢;refine adI (λo aH=>?_) q;cases o with
  |none=>grind
  |some x=>exact vf b5 aH
def ai8(aM:db h b D C)(aD:bp b 0 (U D) C u)(aP:yI D)(q:gdocQ D n 0 [.bX []] [1] 0 (anL b h R)):bo 22 [u] h R:=by
 apply alU;have hlen:=aM.len;have hu:cellsL u=[u]/\one u=ai:=by obtain⟨e,rfl,_⟩:=aD;exact⟨rfl,rfl⟩
 have ef:∀K,Bd (Z 85) [] h K=K (cA (aZ (Z 85))) h:=λK=>by rw[P2];rfl
 have kf:nc (aN (ag h))=J (aN (ag h)):=rfl;have f0:fd 0 (aN (ag h))=J (aN (ag h)):=oO;have f6:fd 6 (aN (ag h))=J (eB (ag h) 6):=oO;have fP:∀K,lh 85 (cA (aZ (Z 85))) h K=K (aN (ag h)) (a6 h (aO (aZ (Z 85)) 85)):=λK=>by rw[P2];rfl
 rw[ef,fP,kf,bs,f0,bs];refine aje (dS _ _) hu λad ar cJ=>?_;have cp:aB h ad:=bV.fe (aB.push _ _) ar λr aF=>al
 rw[bs,f6,bs];have abV:=(cm.1 cJ).1;have Fh:=aM.lt;have UI:∀x y,cS (λ_=>ab) (ag h) (1000000,0) x=J y->x<ag ad:=λx y a2=>by
  unfold cS at a2;grind
 have NY:cS (λ_=>ab) (ag h) (1000000,0) (ag h)=J (1000000,0):=by unfold cS;grind
 have qJ:ho ad (cS (λ_=>ab) (ag h) (1000000,0)) (ag h) 85 _ [] 0:=⟨cJ,NY,a1,⟨_,ab,rfl,⟨rfl,rfl⟩,λr aF=>by cases aF⟩,rfl,⟨_,_,0,rfl,rfl,bF ⟨rfl,rfl⟩,bF ⟨rfl,rfl⟩,λr c1 c2 e=>by cases e⟩,(λx ae=>by cases ae),a1,(λi x ae=>by simp at ae),λx ae=>by cases ae⟩;have anF:oe ad (cS (λ_=>ab) (ag h) (1000000,0)) (ag h) 85 _ b C D:=⟨cJ,NY,kL I,a1,rfl,⟨u,rfl,aD⟩,⟨_,ab,0,[],rfl,⟨rfl,rfl⟩,rfl,aE,λr aF=>by cases aF⟩,rfl,aM.ext cp⟩;refine ajf qJ UI rfl λan o4 cy vQ=>?_;have G5:=anF.hb vQ;show bD 32 [aN (ag h),mapOf (ag an),u] (a6 an (.map #[] 0)) _;have fB:=aB.push an (.map #[] 0);have hm:(a6 an (.map #[] 0))[ag an]?=J (.map #[] 0):=dS _ _;have pT:=vQ.ek.1;have aG6:=cp.1;generalize aEw:a6 an (.map #[] 0)=aT at*;have rp:ag an<ag aT:=(cm.1 hm).1;have axu:∀x,x<ag h->o4 x=ab:=λx ae=>(vQ.ext x I).trans (kL I);have aav:∀x,x<ag h->aT[x]?=h[x]?:=λx ae=>by
  rw[fB.2 x I,vQ.ek.none I (kL I),cp.2 x ae]
 have Cf:oe aT (cS o4 (ag an) (0,0)) (ag h) 85 cy b C D:=G5.move λx ae _=>⟨fB.2 x ae,kL I⟩;have ZU:∀x y,cS o4 (ag an) (0,0) x=J y->x<ag aT:=λx y a2=>by
  unfold cS at a2;split at a2
  .omega
  .have:=vQ.dv x y a2;omega
 have n5:cy[10]?=J (a5 ab 0 0):=(vQ.kU 10 (bt aE)).trans rfl;have X:lM aT (cS o4 (ag an) (0,0)) (ag h) 85 b C D (ag an) 0 [.bX []] [1] 0 (ag an) cy [zJ] [cW 52 (mapOf (ag an))] (λ_=>0) (λj=>j=0):=by
  refine⟨Cf,vQ.eh.keep λx ae _=>⟨fB.2 x ae,kL I⟩,ZU,fK.root hm (by unfold cS;grind) ZU,⟨rfl,λj aC=>?_,λj kv s k aC aq ey=>?_,λj kv i x aC aq ae aJ=>?_,λi j az aC _ _ _=>?_,λi x ae=>?_⟩,rfl,rfl,⟨[],rfl⟩,rfl,rfl,⟨[],rfl⟩,rfl,λj l au=>?_,a1,a1,ed _,hlen⟩
  .grind
  .subst aC;cases aq;cases ey
  .cases i with
   |zero=>cases ae;cases aJ
   |succ m=>simp at ae
  .rw[az,aC]
  .cases i with
   |zero=>cases ae;decide
   |succ m=>simp at ae
  grind
 have G0:p8 aT (cS o4 (ag an) (0,0)) (a5 ab 0 0):=⟨[],ab,⟨rfl,rfl⟩,λr aF=>by cases aF⟩;have lD:∀x,x<ag h->cS o4 (ag an) (0,0) x=ab:=λx ae=>(kL I).trans (axu x ae);refine ajg X n5 G0 aD aP (vf (λo aH=>?_) q);cases o with
 |some t=>
  intro h' b3 aL gv;refine aR ?_;exact aH h' _ ⟨I,λx ae=>by rw[b3 x I (lD x ae),aav x ae]⟩ gv
 |none=>
  intro e h' b3 Mv er;have af:=gW er;refine bG af ?_;refine ajh Mv hlen aD er λbN v vd LG=>?_;exact aH bN v (λy a2=>by
   rw[vd y a2,b3 y I (lD y I),aav y I]) LG
end
def ang(h:H)(R:ao->H->Prop):Option bL->Prop
 |some t=>∀h' v x,aB h h'->gd (old (ag h)) h' v t->kr 2 x->R (bA #[v,x,S []]) h'
 |none=>∀h' v x s,aB h h'->kr 6 v->kr 2 x->s≠[]->R (bA #[v,x,S s]) h'
section
variable{h h':H}{b n p t:Nat}{D:B}{R k:ao->H->Prop}{c cs:Array ao}
def yO(af:h[p]?=J (aO c t))(aL:ag c=n)(eC:ag cs=n)(aH:ones (bC cs)=ai)(q:∀h',bV (J p) h h'->h'[p]?=J (aO cs t)->k undef h'):bZ n (aN p) (cA cs) h k:=by
 show bZ n (bU (J ⟨p,0,ab⟩)) _ h _;have a':p<ag h:=(cm.1 af).1;rw[xv (v:=cA cs) af (by simpa[cellsL] using eC) aH I (bt (ed _))];simp only[cellsL];rw[Gc (by simp;omega)];exact q _ ⟨a1,λx ae bk=>al⟩ (by simp[a'])
def ao8(aM:D.length<=400)(q:∀c h' v,aB h h'->db h' h.size D c->bp h.size 0 D.length c v->k v h'):KU 5 (S D) h k:=by
 refine⟨by simp[ByteArray.size];omega,λc aa ad=>?_⟩;have aV:(⟨D.toArray⟩:ByteArray).size=D.length:=by simp[ByteArray.size]
 rw[aV] at aa⊢;refine q c _ _ (aB.push _ _) ⟨aa,ad,aM,_,_,_,dS _ _,?_,λi az=>?_⟩ ⟨0,rfl,λ_=>rfl,ed _,aa,ed _⟩
 .grind
 .have aX:g D i=(D[i]'az).toNat:=fu az;grind
def G_:Z 35=[ah 0,ah 0]:=b4
def GM(aM:U D<=400)(aP:yI D)(q:gdocQ D n 0 [.bX []] [1] 0 (ang h R)):bo 7 [S D] h R:=by
 apply amF;rw[gE,gE];have AB:aB h (a6 h (aO (aZ (Z 33)) 33)):=aB.push _ _;have t':=AB.trans (aB.push (a6 h (aO (aZ (Z 33)) 33)) (aO (aZ (Z 35)) 35));have cg:(a6 (a6 h (aO (aZ (Z 33)) 33)) (aO (aZ (Z 35)) 35))[ag h]?=J (aO (aZ (Z 33)) 33):=by
  grind
 have cJ:(a6 (a6 h (aO (aZ (Z 33)) 33)) (aO (aZ (Z 35)) 35))[ag h+1]?=J (aO (aZ (Z 35)) 35):=by
  grind
 have iD:ag (a6 h (aO (aZ (Z 33)) 33))=ag h+1:=a1
 rw[iD];generalize a6 (a6 h (aO (aZ (Z 33)) 33)) (aO (aZ (Z 35)) 35)=cn at*;clear AB iD;refine ao8 aM λc g u aw H3 hu=>?_;have eQ:=t'.trans aw;have c3:ag h<ag cn:=(cm.1 cg).1;have dA:ag h+1<ag cn:=(cm.1 cJ).1;have YU:=(aw.2 _ c3).trans cg;have YV:=(aw.2 _ dA).trans cJ;have D2:ag (aZ (Z 33))=6:=by rw[oK];rfl
 have BQ:ag (aZ (Z 35))=2:=by rw[G_];rfl
 have aeT:ones (bC (aZ (Z 33)))=ai:=by rw[oK];rfl
 have aeU:ones (bC (aZ (Z 35)))=ai:=by rw[G_];rfl
 refine ai8 H3 hu aP (vf (λo aH=>?_) q);have adR:ag h<ag g:=cP c3 aw.1;have adS:ag h+1<ag g:=cP dA aw.1;clear aw cg cJ H3 hu q t';cases o with
 |some t=>
  intro ad m ar gv;refine aR ?_;refine ai9 gv (aB.refl _) λan w aS DP=>?_;obtain⟨cs,rfl,eC,wj⟩:=DP.oi;have ef:∀x K,Bd (Z 35) [] x K=K (cA (aZ (Z 35))) x:=λx K=>by rw[G_];rfl
  rw[ef];have Qb:=(aS.2 _ (cP adR ar.1)).trans ((ar.2 _ adR).trans YU);have EH:=(aS.2 _ (cP adS ar.1)).trans ((ar.2 _ adS).trans YV);refine yO Qb D2 eC wj λaT hx Hj=>?_;have Qc:=(hx.2 _ (cm.1 EH).1 (λe=>al)).trans EH;refine yO Qc BQ BQ aeU λbN r6 Qd=>?_;have Lr:=(r6.2 _ (cm.1 Hj).1 (λe=>al)).trans Hj;rw[mS Lr eC,mS Qd BQ];have aGx:=dH ar.1 aS.1;have LP:aB h bN:=bV.fe (bV.fe (eQ.trans (ar.trans aS)) hx λr aF=>al) r6 λr aF=>al
  refine aH bN _ _ LP (DP.kF (λb af aH=>?_) λb af aH=>?_) ⟨_,rfl,BQ,aeU⟩
  .have:=n8 aH;have:=ar.1;rw[r6.2 b (cP af hx.1) (λe=>al),hx.2 b af (λe=>al)]
  .have:=n8 aH;have:=ar.1;unfold old;grind
 |none=>
  intro ad e vd LG;have mc:∀{y t:Nat} {cs:Array ao},y<ag cn->g[y]?=J (aO cs t)->ad[y]?=J (aO cs t):=λ{y t cs} a2 af=>(vd y (KE a2)).trans af;have Qa:=mc c3 YU;have aow:=mc dA YV;have aC8:=LG;obtain⟨x,s,y,z,rfl,ae,k1⟩:=LG;refine aR ?_;refine yJ ?_;have t1:ta 58 (pe 58) (cW 58 (aN x))=J (bA #[aN x,aQ ai]):=rfl;have f1:fd 1 (aN x)=J (bU (J ⟨x,1,ab⟩)):=CN;have f2:fd 2 (aN x)=J (bU (J ⟨x,2,ab⟩)):=CN;rw[t1,bs];refine hk f1 f2 (c4 ae) ?_;have ef:∀x K,Bd (Z 35) [(0,1,ah y),(1,1,ah z)] x K=K (cA #[ah y,ah z]) x:=λx K=>by rw[G_];rfl
  have arA:∀x K,Bd (Z 33) [] x K=K (cA (aZ (Z 33))) x:=λx K=>by rw[oK];rfl
  rw[ef];refine yO aow BQ rfl rfl λan fB EH=>?_;have Qb:=(fB.2 _ (cm.1 Qa).1 (λe=>al)).trans Qa;have ave:x≠ag h+1:=λe=>by
   grind
  have rL:=(fB.2 x (cm.1 ae).1 (λe=>ave (en e))).trans ae;rw[arA,mS EH (n:=1) rfl];refine ajY ⟨x,s,y,z,rfl,rL,k1⟩ λeU wE=>⟨aB.refl _,?_⟩;refine⟨⟨bF a1,trivial⟩,?_⟩;refine yO Qb D2 D2 aeT λaT hx Hj=>?_;have Qc:=(hx.2 _ (cm.1 EH).1 (λe=>al)).trans EH;refine yO Qc rfl rfl rfl λbN r6 Qd=>?_;have Lr:=(r6.2 _ (cm.1 Hj).1 (λe=>al)).trans Hj;rw[mS Lr D2,mS Qd (n:=1) rfl];refine aH bN _ _ eU ⟨KE (cm.1 Lr).1,λw hw=>?_⟩ ⟨_,rfl,D2,aeT⟩ ⟨_,rfl,rfl,rfl⟩ wE;have apO:=eQ.2 w hw;have e:=vd w I;rw[apO,aG7 hw] at e;have dA:=(cm.1 e).1;have jX:=cP dA fB.1;have sF:=cP jX hx.1;rw[r6.2 w sF (λe=>al),hx.2 w jX (λe=>al),fB.2 w dA (λe=>al),e,aG7 hw]
end
def xI(D:B)(Q:Option bL->Prop):Prop:=gdocQ D (U D+1) 0 [.bX []] [1] 0 Q
def K9(D:B):Prop:=yI D/\match zO D with
 | .ok t _=>xI D (λo=>o=J t)
 | .no c=>if c=1 then xI D (λo=>o=ab) else xI D (λ_=>True)
section
variable{h h':H}{b n p t:Nat}{D:B}{R k:ao->H->Prop}{c cs:Array ao}
def Gl{k:H->Prop}(hw:ag xD=6/\ones (bC xD)=ai)(ae:ag cx=2/\ones (bC cx)=ai)(q:∀g,aB h g->g[ag h]?=J (aO xD 33)->ag h<ag g->k g):
  bZ 6 (aN (ag h)) (cA xD) (a6 (a6 h (aO (aZ (Z 33)) 33)) (aO (aZ (Z 35)) 35)) λ_ l_=>bZ 2 (aN (ag (a6 h (aO (aZ (Z 33)) 33)))) (cA cx) l_ λ_ h=>k h:=by
 have D2:ag (aZ (Z 33))=6:=by rw[oK];rfl
 have BQ:ag (aZ (Z 35))=2:=by rw[G_];rfl
 have AB:aB h (a6 h (aO (aZ (Z 33)) 33)):=aB.push _ _;have t':=AB.trans (aB.push (a6 h (aO (aZ (Z 33)) 33)) (aO (aZ (Z 35)) 35));have cg:(a6 (a6 h (aO (aZ (Z 33)) 33)) (aO (aZ (Z 35)) 35))[ag h]?=J (aO (aZ (Z 33)) 33):=by
  grind
 have cJ:(a6 (a6 h (aO (aZ (Z 33)) 33)) (aO (aZ (Z 35)) 35))[ag h+1]?=J (aO (aZ (Z 35)) 35):=by
  grind
 have iD:ag (a6 h (aO (aZ (Z 33)) 33))=ag h+1:=a1
 rw[iD];generalize a6 (a6 h (aO (aZ (Z 33)) 33)) (aO (aZ (Z 35)) 35)=cn at*;refine yO cg D2 hw.1 hw.2 λct b_ c1=>?_;have c2:=(b_.2 _ (cm.1 cJ).1 (λe=>al)).trans cJ;refine yO c2 BQ ae.1 ae.2 λbd cp d2=>?_;have d1:=(cp.2 _ (cm.1 c1).1 (λe=>al)).trans c1;exact q bd (bV.fe (bV.fe t' b_ λr aF=>al) cp λr aF=>al) d1 (cm.1 d1).1
def gd.all{t:bL}{own:cH}(d:gd own h v t)(e:aB h h'):gd (λ_=>ab) h' v t:=d.kF (λb af _=>e.2 b af) λ_ _ _=>rfl
def ajn(dn:jM h)(ad:2<=ag h)(aM:U D<=400)(L:K9 D)(q:∀h',aB h h'->R (aQ ai) h'):bo 4 [S D] h R:=by
 apply amc;have ahj:ag (aZ (Z 28))=6:=by rw[j9];rfl
 obtain⟨aP,L⟩:=L;refine ajx dn ad aM ?_;cases aF:zO D with
 |ok t r=>
  rw[aF] at L;simp only at L;intro aa v aw pL;obtain⟨cs,rfl,eC,wj⟩:=pL.oi;refine aR ?_;have jT:(a6 aa (aO (aZ (Z 28)) 28))[ag aa]?=J (aO (aZ (Z 28)) 28):=dS _ _;refine yO jT ahj eC wj λan fB eP=>?_;have aS:aB aa an:=bV.fe (aB.push _ _) fB λr aF=>al
  refine GM aM aP (vf (λo aH=>?_) L);subst aH;intro aT w x bl DP vT;obtain⟨xD,rfl,wk,vq⟩:=DP.oi;obtain⟨cx,rfl,ot,rK⟩:=vT;refine aR ?_;refine Gl ⟨wk,vq⟩ ⟨ot,rK⟩ λg eQ EI Bl=>?_;have mB:=(cm.1 eP).1;have hc:=(eQ.2 _ (cP mB bl.1)).trans ((bl.2 _ mB).trans eP);rw[mS EI (n:=5) wk,mS hc (n:=5) eC];refine Xs (DP.all eQ) (aB.refl _) λbd v2 ar t2=>⟨ar,?_⟩;refine Xq (t2.all (aB.refl _)) (pL.all ((aS.trans bl).trans (eQ.trans ar))) (aB.refl _) λcb dt=>?_;exact q cb (aw.trans (aS.trans (bl.trans (eQ.trans (ar.trans dt)))))
 |no c=>
  rw[aF] at L;intro ay aa v aw fE;obtain⟨cs,rfl,eC,wj⟩:=fE;have hL:bn cQ (ah c) (ah 0)=J (aQ av):=by simp[bn,eqV];omega
  refine bG hL ?_;have jT:(a6 aa (aO (aZ (Z 28)) 28))[ag aa]?=J (aO (aZ (Z 28)) 28):=dS _ _;refine yO jT ahj eC wj λan fB eP=>?_;have aS:aB aa an:=bV.fe (aB.push _ _) fB λr aF=>al
  by_cases abg:c=1
  .subst abg;simp only[ei] at L;refine GM aM aP (vf (λo aH=>?_) L);subst aH;intro aT w x s vd Hi vT aL;obtain⟨xD,rfl,wk,vq⟩:=Hi;obtain⟨cx,rfl,ot,rK⟩:=vT;refine aR ?_;refine Gl ⟨wk,vq⟩ ⟨ot,rK⟩ λg eQ EI Bl=>?_;exact⟨λ_=>q g (aw.trans (aS.trans (vd.trans eQ))),λh=>absurd aL h⟩
  .simp only[ak abg] at L;have gH:bn cQ (ah c) (ah 1)=J (aQ av):=by simp[bn,eqV];omega
   refine GM aM aP (vf (λo aH=>?_) L);cases o with
   |none=>
    intro aT w x s vd Hi vT aL;obtain⟨xD,rfl,wk,vq⟩:=Hi;obtain⟨cx,rfl,ot,rK⟩:=vT;refine bG gH ?_;refine Gl ⟨wk,vq⟩ ⟨ot,rK⟩ λg eQ EI Bl=>?_;exact q g (aw.trans (aS.trans (vd.trans eQ)))
   |some t=>
    intro aT w x bl DP vT;obtain⟨xD,rfl,wk,vq⟩:=DP.oi;obtain⟨cx,rfl,ot,rK⟩:=vT;refine bG gH ?_;refine Gl ⟨wk,vq⟩ ⟨ot,rK⟩ λg eQ EI Bl=>?_;exact q g (aw.trans (aS.trans (bl.trans eQ)))
end
def yV:B:=[97,32,61,32,49,10]
def yU:B:=[97,32,61,32,10]
def JJ:bL:=.mk 9 0 0 [] [[97]] [.mk 1 1 0 [] [] []]
section
variable{h h':H}{b n p t:Nat}{D:B}{R k:ao->H->Prop}{c cs:Array ao}{own:cH}{v:ao}
def Eg(ct:yI yV)(bd:yI yU)(c3:xI yV (λo=>o=J JJ))(dA:xI yU (λo=>o=ab))(q:∀h',aB h h'->R (aQ ai) h'):bo 5 [] h R:=by
 apply XR;refine GM (D:=yV) aE ct (vf (λo aH=>?_) c3);subst aH;intro aa v x aw pL vT;obtain⟨xD,rfl,wk,vq⟩:=pL.oi;obtain⟨cx,rfl,ot,rK⟩:=vT;refine aR ?_;refine Gl ⟨wk,vq⟩ ⟨ot,rK⟩ λg eQ EI Bl=>?_;refine GM (D:=yU) aE bd (vf (λo aH=>?_) dA);subst aH;intro ad w x s vd Hi vT aL;obtain⟨aC6,rfl,asI,aua⟩:=Hi;obtain⟨aC7,rfl,asJ,aub⟩:=vT;refine aR ?_;refine Gl ⟨asI,aua⟩ ⟨asJ,aub⟩ λcb E0 aCS aFR=>?_;refine⟨λ_=>?_,λh=>absurd aL h⟩;have cJ:ad[ag aa]?=J (aO xD 33):=(vd.2 _ Bl).trans EI;have eP:=(E0.2 _ (cm.1 cJ).1).trans cJ;rw[mS eP (n:=5) wk];have tg:gd (λ_=>ab) cb (cA xD) JJ:=((pL.all eQ).all vd).all E0;refine Xs tg (aB.refl _) λeZ v4 bl t4=>?_;rw[pn tR rfl rfl];have ary:∀x K,Bd (Z 28) [(0,1,bu 1),(1,1,ah 1)] x K=K (cA #[bu 1,ah 1,a4 0,S [],a5 ab 0 0,a5 ab 0 0]) x:=λx K=>by rw[j9];rfl
 rw[ary];rw[D' (sz:=6) (cx:=[bu 1,ah 1,a4 0,S [],a5 ab 0 0,a5 ab 0 0]) (by rw[j9];rfl) rfl rfl];have b_:=aB.push eZ (aO #[S [97]] 9);have c1:(a6 eZ (aO #[S [97]] 9))[ag eZ]?=J (aO #[S [97]] 9):=dS _ _;have fC:ag (a6 eZ (aO #[S [97]] 9))=ag eZ+1:=a1
 generalize a6 eZ (aO #[S [97]] 9)=fW at*;have cp:=aB.push fW (aO (aZ [Value.int .u8 1,ah 1,a4 0,S [],a5 ab 0 0,a5 ab 0 0]) 28);have c2:(a6 fW (aO (aZ [Value.int .u8 1,ah 1,a4 0,S [],a5 ab 0 0,a5 ab 0 0]) 28))[ag fW]?=J (aO (aZ [Value.int .u8 1,ah 1,a4 0,S [],a5 ab 0 0,a5 ab 0 0]) 28):=dS _ _;generalize a6 fW (aO (aZ [Value.int .u8 1,ah 1,a4 0,S [],a5 ab 0 0,a5 ab 0 0]) 28)=lV at*;have aoP:=(cp.2 _ (cm.1 c1).1).trans c1;have arz:∀x K,Bd (Z 28) [(0,1,bu 9),(4,1,a5 (J ⟨ag eZ,0,ab⟩) 1 1),(5,1,a5 (J ⟨ag fW,0,ab⟩) 1 1)] x K=K (cA #[bu 9,ah 0,a4 0,S [],a5 (J ⟨ag eZ,0,ab⟩) 1 1,a5 (J ⟨ag fW,0,ab⟩) 1 1]) x:=λx K=>by rw[j9];rfl
 rw[arz];refine Xq (t4.all (b_.trans cp)) (gd.mk (k:=9) (i:=0) (b:=0) (s:=[]) (keys:=[[97]]) (items:=[.mk 1 1 0 [] [] []]) (cs:=[bu 1,ah 1,a4 0,S [],a5 ab 0 0,a5 ab 0 0]) ⟨J (ag eZ),⟨1,1,_,_,rfl,aoP,bQ _,rfl,rfl,rfl⟩,λ_ _=>rfl⟩ ⟨J (ag fW),⟨1,1,_,_,rfl,c2,bQ _,rfl,rfl,rfl⟩,λ_ _=>rfl⟩ rfl aE λn t aI=>?_) (aB.refl _) λqO nu=>?_
 .cases n with
  |zero=>simp at aI;subst aI;exact u3
  |succ m=>simp at aI
 .exact q qO (aw.trans (eQ.trans (vd.trans (E0.trans (bl.trans ((b_.trans cp).trans nu))))))
def ajc(dn:jM h)(ad:2<=ag h)(L:∀D:B,U D<=400->K9 D)(c3:xI yV (λo=>o=J JJ))(dA:xI yU (λo=>o=ab))(q:∀h',aB h h'->R (aQ ai) h'):bo 3 [S D] h R:=by
 apply al1;refine aR ?_;refine⟨λ_=>q h (aB.refl _),λ_=>⟨λ_=>q h (aB.refl _),λau=>?_⟩⟩;refine ajn dn ad I (L D I) λh' aw=>?_;refine aR ?_;refine Eg (L yV aE).1 (L yU aE).1 c3 dA λcN ar=>?_;exact q cN (aw.trans ar)
end
section
variable{D:B}{i j n:Nat}{acc s:B}
def lZ(au:i<U D)(h:g D i<128):dC D (i+1)=dC D i:=by
 conv=>rhs;rw[dC]
 grind
def VV(h:∀k,i<=k->k<j->g D k<128)(eK:i<=j)(aC:j<=U D):dC D j=dC D i:=by
 have:=ON (D:=D) (j:=i) (j-i) (λk aq=>h (i+k) I I) I;grind
def DR(h:ff D i=J n):dC D (i+n)=dC D i:=by
 have af:=lR h;conv=>rhs;rw[dC]
 rw[gw I];unfold ff at h;grind
def ay7(au:i<U D)(h:g D i<128):jE (ax i D)=1:=by
 have aW:fV (g (ax i D) 0)=240:=by rw[ud];unfold fV;rw[aA I]
 unfold jE;simp only[aW];rw[ak (by simp;omega),aA aE]
def Zj(h:ff D i=J n)(aX:128<=g D i):n=jE (ax i D)/\∀k,k<n->128<=g D (i+k):=by
 have af:=lR h;have bj:=afB (D:=D) (j:=i) I aX;unfold ff at h;rw[ak I,ak I] at h;by_cases aa:jE (ax i D)=1
 .rw[aA aa] at h;cases h
 .rw[ak aa] at h;cases h;refine⟨rfl,?_⟩;have key:∀r c c1 c2 cy m:Nat,(r=if c<194 then 1 else if c<224 then(if m<2 then 1 else if c1<128\/191<c1 then 1 else 2)
    else if c<240 then(if m<3 then 1 else if c1<(if c=224 then 160 else 128)\/(if c=237 then 159 else 191)<c1 then 1 else if c2<128\/191<c2 then 1 else 3)
    else if c<245 then(if m<4 then 1 else if c1<(if c=240 then 144 else 128)\/(if c=244 then 143 else 191)<c1 then 1 else if c2<128\/191<c2 then 1 else if cy<128\/191<cy then 1 else 4)
    else 1)->¬r=1->r<=4/\(2<=r->128<=c1)/\(3<=r->128<=c2)/\(4<=r->128<=cy):=by
   intro r c c1 c2 cy m bj aa;have bx:128<=(if c=224 then 160 else 128):=by split<;>omega
   have bH:128<=(if c=240 then 144 else 128):=by split<;>omega
   generalize (if c=224 then 160 else 128)=b_ at bj bx;generalize (if c=240 then 144 else 128)=cp at bj bH;generalize (if c=237 then 159 else 191)=fB at bj;generalize (if c=244 then 143 else 191)=hx at bj;refine⟨?_,λ_=>?_,λ_=>?_,λ_=>?_⟩<;>(repeat' split at bj)<;>omega
  have dq:=key _ _ _ _ _ _ bj aa;intro k aq;have e:k=0\/k=1\/k=2\/k=3:=I
  rcases e with rfl|rfl|rfl|rfl
  .exact aX
  .exact dq.2.1 aq
  .exact dq.2.2.1 aq
  .exact dq.2.2.2 aq
def ag0(hu:dC D i=ai)(aX:128<=g D i):ff D i=J (jE (ax i D)):=by
 have au:=cu (D:=D) (i:=i) I;rw[dC,gw au,ak I] at hu;unfold ff;grind
def aqw:∀{i:Nat},gcom D i=J j->dC D j=dC D i:=λ{i}=>by
 induction hm:U D-i using Nat.strongRecOn generalizing i with
 |ind m bR=>
  intro h;rw[gcom] at h;split at h
  .cases h;rfl
  .split at h
   .cases h;rfl
   .split at h
    .grind
    .split at h
     .cases h
     .rename_i n ay;have:=lR ay;rw[bR (U D-(i+n)) I rfl h,DR ay]
def aqM:∀{i:Nat},glit D i=J j->dC D j=dC D i/\i<=j/\g D j=39:=λ{i}=>by
 induction hm:U D-i using Nat.strongRecOn generalizing i with
 |ind m bR=>
  intro h;rw[glit] at h;split at h
  .grind
  .split at h
   .cases h
   .rename_i n ay;have:=lR ay;obtain⟨a,b,c⟩:=bR (U D-(i+n)) I rfl h;exact⟨by rw[a,DR ay],I,c⟩
def aeb(hm:m≠0):∀{n i:Nat},n<=mcnt m (ax i D)->∀k,k<n->g D (i+k)=m
 |0,_,_,k,aq=>I
 |n+1,i,h,k,aq=>by
  rw[wR hm] at h;split at h
  .rename_i e;cases k with
   |zero=>exact e
   |succ k=>
    have:=aeb hm (n:=n) (i:=i+1) I k I;grind
  .omega
def Gm(hm:m≠0)(de:m<128):dC D (i+mcnt m (ax i D))=dC D i/\i+mcnt m (ax i D)<=max i (U D):=by
 have au:=Ui m (ax i D);simp only[ix] at au;by_cases az:i<=U D
 .refine⟨VV (λk aa ad=>?_) I I,I⟩;have:=aeb hm (D:=D) (bQ (mcnt m (ax i D))) (k-i) I;grind
 grind
def aqX:∀{i:Nat},hB D i=J (c,j)->dC D j=dC D i:=λ{i}=>by
 induction hm:U D-i using Nat.strongRecOn generalizing i with
 |ind m bR=>
  intro h;rw[hB] at h;split at h
  .rename_i b5;have au:=cu (D:=D) (i:=i) I;have hu:=Gm (D:=D) (i:=i) (m:=39) aE aE;have aL:0<mcnt 39 (ax i D):=by rw[wR aE,aA b5];omega
   grind
  .split at h
   .have au:=cu (D:=D) (i:=i) I;rw[bR _ I rfl h,lZ au I]
   .split at h
    .split at h
     .have au:=cu (D:=D) (i:=i) I;have fF:=cu (D:=D) (i:=i+1) I;rw[bR _ I rfl h,lZ fF I,lZ au I]
     .cases h
    .split at h
     .cases h
     .rename_i n ay;have:=lR ay;rw[bR (U D-(i+n)) I rfl h,DR ay]
def asT(h:fQ c=J d):c<128:=by
 unfold fQ at h;grind
def Sz:∀{n v x i:Nat} {r:B},hexN n v (ax i D)=.ok x r->(∀k,k<n->g D (i+k)<128)/\r=ax (i+n) D
 |0,v,x,i,r,h=>by cases h;grind
 |n+1,v,x,i,r,h=>by
  rw[hexN,eF,tail_drop] at h;cases aG:fQ (g D i) with
  |none=>grind
  |some d=>
   rw[aG] at h;obtain⟨a,b⟩:=Sz h;refine⟨λk aq=>?_,al⟩;cases k with
   |zero=>exact asT aG
   |succ k=>
    grind
def Ma(h:jA D i=J (s,j)):dC D j=dC D i:=by
 have af:=y5 h;have au:=cu (D:=D) (i:=i);have JU:∀n,0<n->g D i<128->i<U D->guni D (i+1) n=J (s,j)->dC D j=dC D i:=λn aI aa au h=>by
  unfold guni at h;cases ae:hexN n 0 (ax (i+1) D) with
  |no c=>grind
  |ok v r=>
   rw[ae] at h;simp only at h;split at h
   .cases h
   .simp only[dg,hI] at h;obtain⟨rfl,rfl⟩:=h;have bE:=Sz ae;have af:=ab0 ae aI;rw[VV (i:=i+1) (λk aa ad=>?_) I af,lZ au aa];have:=bE.1 (k-(i+1)) I;grind
 unfold jA at h;have st:∀c:Nat,g D i=c->0<c->c<128->∀t,J (t,i+1)=J (s,j)->dC D j=dC D i:=λc ay aW aa t h=>by
  cases h;exact lZ (au I) I
 by_cases c1:g D i=34
 .grind
 by_cases c2:g D i=92
 .grind
 by_cases cy:g D i=98
 .grind
 grind
def aqv:∀{i:Nat} {acc:B},gbas D i acc=J (t,j)->dC D j=dC D i/\i<=j/\g D j=34:=λ{i}=>by
 induction hm:U D-i using Nat.strongRecOn generalizing i with
 |ind m bR=>
  intro acc h;rw[gbas] at h;split at h
  .grind
  .split at h
   .rename_i jQ;have au:=cu (D:=D) (i:=i) I;split at h
    .cases h
    .rename_i eO bI he;have af:=y5 he;obtain⟨a,b,c⟩:=bR _ I rfl h;exact⟨by rw[a,Ma he,lZ au I],I,c⟩
   .split at h
    .cases h
    .rename_i n ay;have:=lR ay;obtain⟨a,b,c⟩:=bR (U D-(i+n)) I rfl h;exact⟨by rw[a,DR ay],I,c⟩
def agc:∀{i:Nat},dC D (a9 D i)=dC D i:=λ{i}=>by
 induction hm:U D-i using Nat.strongRecOn generalizing i with
 |ind m bR=>
  rw[a9];split
  .rename_i h;rw[bR _ I rfl,lZ h.1 I]
  .rfl
def age:∀{i:Nat},dC D (ki D i)=dC D i:=λ{i}=>by
 induction hm:U D-i using Nat.strongRecOn generalizing i with
 |ind m bR=>
  rw[ki];split
  .rename_i h;rw[bR _ I rfl,lZ h.1 I]
  .split
   .rename_i h;have fF:=cu (D:=D) (i:=i+1) I;rw[bR _ I rfl,lZ fF I,lZ h.1 I]
   .rfl
def aaQ(h:qg D i=J j):dC D j=dC D i:=by
 have aL:=agc (D:=D) (i:=i);have au:=cu (D:=D) (i:=a9 D i);have fF:=cu (D:=D) (i:=a9 D i+1);unfold qg at h;split at h
 .cases h;rw[age,lZ (au I) I,aL]
 .split at h
  .cases h;rw[age,lZ (fF I) I,lZ (au I) I,aL]
  .cases h
def aqU:∀{i:Nat} {acc:B},gmb D i acc=J (t,j)->dC D j=dC D i:=λ{i}=>by
 induction hm:U D-i using Nat.strongRecOn generalizing i with
 |ind m bR=>
  intro acc h;rw[gmb] at h;split at h
  .cases h
  .rename_i a';have a':i<U D:=I
   split at h
   .rename_i b5;have hu:=Gm (D:=D) (i:=i) (m:=34) aE aE;have aL:0<mcnt 34 (ax i D):=by rw[wR aE,aA b5];omega
    grind
   .split at h
    .rename_i jQ;split at h
     .split at h
      .cases h
      .rename_i bI aC;have:=Me I aC;rw[bR _ I rfl h,aaQ aC,lZ a' I]
     .split at h
      .cases h
      .rename_i eO bI he;have af:=y5 he;rw[bR _ I rfl h,Ma he,lZ a' I]
    .split at h
     .rw[bR _ I rfl h,lZ a' I]
     .split at h
      .split at h
       .have fF:=cu (D:=D) (i:=i+1) I;rw[bR _ I rfl h,lZ fF I,lZ a' I]
       .cases h
      .split at h
       .cases h
       .rename_i n ay;have:=lR ay;rw[bR (U D-(i+n)) I rfl h,DR ay]
end
section
variable{D:B}{i j k n:Nat}{acc s:B}
def cD(D:B)(i j:Nat):Prop:=i<=j/\j<=U D/\dC D j=dC D i
def cD.rfl(h:i<=U D):cD D i i:=⟨bQ _,h,.refl _⟩
def cD.trans(a:cD D i j)(b:cD D j k):cD D i k:=⟨dH a.1 b.1,b.2.1,b.2.2.trans a.2.2⟩
def cD.one(h:g D i<128)(aW:0<g D i):cD D i (i+1):=by
 have:=cu (D:=D) (i:=i) I;exact⟨I,I,lZ this h⟩
def cD.vS(h:∀k,i<=k->k<j->g D k<128)(eK:i<=j)(aC:j<=U D):cD D i j:=⟨eK,aC,VV h eK aC⟩
def cD.a9(h:i<=U D):cD D i (a9 D i):=⟨(o6 h).1,(o6 h).2,agc⟩
def Rr(az:i<=U D)(h:oQ D i=J j):cD D i j:=by
 have b:=HP az h;unfold oQ at h;split at h
 .cases h;exact .rfl az
 .split at h
  .cases h;exact .one I I
  .split at h
   .cases h;exact(cD.one (i:=i) I I).trans (.one (i:=i+1) I I)
   .cases h
def L6(az:i<=U D)(h:gcom D i=J j):cD D i j:=⟨(HM az h).1,(HM az h).2,aqw h⟩
def E_(az:i<=U D)(h:gfin D i=J j):cD D i j:=by
 have aL:=cD.a9 (D:=D) az;unfold gfin at h;split at h
 .rename_i e;have aa:=cD.one (D:=D) (i:=a9 D i) I I;cases ay:gcom D (a9 D i+1) with
  |none=>grind
  |some k=>
   rw[ay] at h;have ad:=L6 aa.2.1 ay;exact((aL.trans aa).trans ad).trans (Rr ad.2.1 h)
 .exact aL.trans (Rr aL.2.1 h)
def Qe:∀(l:B) (k:Nat),k<bareN l->jN (g l k)
 |[],k,h=>by simp[bareN] at h
 |c::l,k,h=>by
  rw[bareN] at h;split at h
  .rename_i e;cases k with
   |zero=>exact e
   |succ k=>
    have:=Qe l k I;simpa[g] using this
  .omega
def aaU(h:glitS D i=J (s,j)):i<=U D->cD D i j:=by
 intro az;unfold glitS at h;cases aX:glit D i with
 |none=>grind
 |some k=>
  rw[aX] at h;cases h;obtain⟨a,b,c⟩:=aqM aX;have au:=cu (D:=D) (i:=k) I;exact cD.trans ⟨b,I,a⟩ (.one I I)
def Y'(h:bump (gbas D i acc)=J (s,j)):cD D i j:=by
 cases aX:gbas D i acc with
 |none=>rw[aX] at h;cases h
 |some x=>
  obtain⟨t,k⟩:=x;rw[aX] at h;cases h;obtain⟨a,b,c⟩:=aqv aX;have au:=cu (D:=D) (i:=k) I;exact cD.trans ⟨b,I,a⟩ (.one I I)
def RF(h:gsk D i=J (s,j)):i<j/\cD D i j:=by
 have b:=abc h;refine⟨b.1,?_⟩;unfold gsk at h;split at h
 .have aa:=cD.one (D:=D) (i:=i) I I;have:glitS D (i+1)=J (s,j):=by
   unfold glitS;omega
  exact aa.trans (aaU this aa.2.1)
 .split at h
  .have aa:=cD.one (D:=D) (i:=i) I I;exact aa.trans (Y' h)
  .split at h
   .cases h
   .simp only[dg,hI] at h;obtain⟨_,rfl⟩:=h;refine .vS (λk aa ad=>?_) I b.2;have:=Qe (ax i D) (k-i) I;rw[ud,(I:i+(k-i)=k)] at this;unfold jN at this;omega
def CO:∀{i:Nat} {acc ks:List B},gkey D i acc=J (ks,j)->i<j/\cD D i j:=λ{i}=>by
 induction hm:U D-i using Nat.strongRecOn generalizing i with
 |ind m bR=>
  intro acc ks h;rw[gkey] at h;split at h
  .cases h
  .rename_i k bI aq;have a:=RF aq;have s1:=cD.a9 (D:=D) a.2.2.1;split at h
   .rename_i e;have s2:=cD.one (D:=D) (i:=a9 D bI) I I;have dB:=cD.a9 (D:=D) s2.2.1;have au:=cu (D:=D) (i:=a9 D bI) I;have:=s1.1;have:=dB.1;have:=a.1;have r:=bR (U D-a9 D (a9 D bI+1)) I rfl h;exact⟨I,(((a.2.trans s1).trans s2).trans dB).trans r.2⟩
   .cases h;have:=s1.1;exact⟨I,a.2.trans s1⟩
def aeK(az:i<=U D):cD D i (iU D i):=by
 unfold iU;split
 .exact .one I I
 .split
  .exact(cD.one (i:=i) I I).trans (.one (i:=i+1) I I)
  .exact .rfl az
def aqW:∀{i:Nat},hB D i=J (c,j)->i<=c/\c+3=j/\j<=U D:=λ{i}=>by
 induction hm:U D-i using Nat.strongRecOn generalizing i with
 |ind m bR=>
  intro h;rw[hB] at h;split at h
  .rename_i b5;have au:=cu (D:=D) (i:=i) I;have hu:=Gm (D:=D) (i:=i) (m:=39) aE aE;have aL:0<mcnt 39 (ax i D):=by rw[wR aE,aA b5];omega
   grind
  .split at h
   .have au:=cu (D:=D) (i:=i) I;grind
   .split at h
    .split at h
     .have au:=cu (D:=D) (i:=i) I;grind
     .cases h
    .split at h
     .cases h
     .rename_i n ay;have:=lR ay;grind
def aqT:∀{i:Nat} {acc:B},gmb D i acc=J (t,j)->i<=j/\j<=U D:=λ{i}=>by
 induction hm:U D-i using Nat.strongRecOn generalizing i with
 |ind m bR=>
  intro acc h;rw[gmb] at h;split at h
  .cases h
  .rename_i a';have a':i<U D:=I
   split at h
   .rename_i b5;have hu:=Gm (D:=D) (i:=i) (m:=34) aE aE;have aL:0<mcnt 34 (ax i D):=by rw[wR aE,aA b5];omega
    grind
   .split at h
    .split at h
     .split at h
      .cases h
      .rename_i bI aC;have:=Me I aC;grind
     .split at h
      .cases h
      .rename_i eO bI he;have af:=y5 he;grind
    .split at h
     .grind
     .split at h
      .grind
      .split at h
       .cases h
       .rename_i n ay;have:=lR ay;grind
def aq9(b5:g D i=34\/g D i=39)(h:mv D i=J (s,j)):i<j/\cD D i j:=by
 have aa:=cD.one (D:=D) (i:=i) I I;have agN:g D (i+1)=g D i/\g D (i+2)=g D i->cD D i (iU D (i+3)):=λe=>by
  have ad:=cD.one (D:=D) (i:=i+1) I I;have an:=cD.one (D:=D) (i:=i+2) I I;exact((aa.trans ad).trans an).trans (aeK an.2.1)
 have fin:∀x,cD D i x->i<x->cD D x j->i<j/\cD D i j:=λx a b c=>⟨by have:=c.1;omega,a.trans c⟩;have tw:i<iU D (i+3):=by unfold iU;split<;>(try split)<;>omega
 unfold mv at h;by_cases gP:g D i=34
 .rw[aA gP] at h;split at h
  .rename_i e;have b:=aqT h;exact fin _ (agN ⟨I,I⟩) tw ⟨b.1,b.2,aqU h⟩
  .exact fin _ aa I (Y' h)
 .rw[ak gP] at h;split at h
  .rename_i e;unfold y6 at h;cases aX:hB D (iU D (i+3)) with
   |none=>grind
   |some x=>
    obtain⟨c,k⟩:=x;rw[aX] at h;cases h;have b:=aqW aX;exact fin _ (agN ⟨I,I⟩) tw ⟨I,b.2.2,aqX aX⟩
  .exact fin _ aa I (aaU h aa.2.1)
def aaH(aJ:∀c,p c=ai->0<c/\c<128):∀{i:Nat},i<=U D->gF p D i=J j->cD D i j:=λ{i}=>by
 induction hm:U D-i using Nat.strongRecOn generalizing i with
 |ind m bR=>
  intro az h;rw[gF] at h;split at h
  .rename_i a';split at h
   .rename_i e;exact(cD.one (aJ _ e).2 (aJ _ e).1).trans (bR _ I rfl I h)
   .split at h
    .split at h
     .rename_i dt e;have aa:=cD.one (D:=D) (i:=i) I I;have ad:=cD.one (D:=D) (i:=i+1) (aJ _ e.2).2 (aJ _ e.2).1;exact(aa.trans ad).trans (bR _ I rfl I h)
     .cases h
    .cases h;exact .rfl az
  .cases h;exact .rfl az
def js(h:cT c=ai):48<=c/\c<=57:=by simpa[cT] using h
def Oe(h:n_ r c=ai):0<c/\c<128:=by
 unfold n_ at h;split at h
 .simp only[zs,r_] at h;omega
 .split at h
  .simp only[zt,r_] at h;omega
  .simp only[zr,r_] at h;omega
def QQ(az:i<=U D)(h:gF cT D i=J j):cD D i j:=aaH (λc ay=>by have:=js ay;omega) az h
def af3(az:i<=U D):cD D i (bg D i):=by
 unfold bg;split
 .exact .one I I
 .exact .rfl az
def UJ(h:cT (g D i)=ai):cD D i (i+1):=.one (by have:=js h;omega) (by have:=js h;omega)
def axn(az:i<=U D)(h:numTail D i=J (k,j)):cD D i j:=by
 unfold numTail at h;cases bj:rS D i with
 |none=>grind
 |some x=>
  obtain⟨bc,cj⟩:=x;rw[bj] at h;simp only at h;have s1:cD D i bc:=by
   unfold rS at bj;split at bj
   .split at bj
    .rename_i aw ar;cases aG:gF cT D (i+2) with
     |none=>grind
     |some y=>
      rw[aG] at bj;cases bj;have aa:=cD.one (D:=D) (i:=i) I I;have ad:=UJ (D:=D) (i:=i+1) ar;exact(aa.trans ad).trans (QQ ad.2.1 aG)
    .cases bj
   .cases bj;exact .rfl az
  cases he:rR D bc cj with
  |none=>grind
  |some x=>
   obtain⟨eL,eI⟩:=x;rw[he] at h;simp only[zF] at h;split at h
   .cases h
   .cases h;refine s1.trans ?_;unfold rR at he;split at he
    .split at he
     .rename_i aw ar;cases aG:gF cT D (bg D (bc+1)+1) with
      |none=>grind
      |some y=>
       rw[aG] at he;cases he;have aa:=cD.one (D:=D) (i:=bc) I I;have ad:=af3 (D:=D) (i:=bc+1) aa.2.1;have an:=UJ (D:=D) (i:=bg D (bc+1)) ar;exact((aa.trans ad).trans an).trans (QQ an.2.1 aG)
     .cases he
    .cases he;exact .rfl s1.2.1
def aqt(h:ax i (bf (i+n) D)=w)(aq:k<U w):g D (i+k)=g w k:=by
 subst h;simp only[ix,yv] at aq;simp only[g,iw,KA,D6];grind
def adQ(h:ax i (bf (i+n) D)=w)(aI:U w=n)(bE:w.all (λc=>decide (c.toNat<128))=ai)(az:i<=U D):cD D i (i+n):=by
 have au:i+n<=U D:=by
  grind
 refine .vS (λk aa ad=>?_) I au;have:=aqt (D:=D) (k:=k-i) h I;rw[(I:i+(k-i)=k)] at this;rw[this];simp only[List.all_eq_true,r_] at bE;rw[g,iw,h5 I];grind
def adN:U (vA c)=3/\(vA c).all (λc=>decide (c.toNat<128))=ai:=by
 unfold vA;grind
def Mj(az:i<=U D)(h:gnum D i=J (k,j)):i<j/\cD D i j:=by
 have nL:=af3 (D:=D) az;have:=nL.1;have fin:∀x,cD D i x->i<x->cD D x j->i<j/\cD D i j:=λx a b c=>⟨by have:=c.1;omega,a.trans c⟩;unfold gnum at h;split at h
 .split at h
  .rename_i e;cases h;have:=adQ e adN.1 adN.2 nL.2.1;grind
  .cases h
 .split at h
  .cases h
  .rename_i aG;have aa:=UJ (D:=D) (i:=bg D i) al;split at h
   .rename_i e;split at h
    .cases h
    .rename_i bP;split at h
     .rename_i er;cases aX:gF (n_ (g D (i+1))) D (i+3) with
      |none=>grind
      |some y=>
       rw[aX] at h;cases h;have bP:bg D i=i:=I
       rw[bP] at aa e;have ad:=cD.one (D:=D) (i:=i+1) I I;have an:=cD.one (D:=D) (i:=i+2) (Oe er).2 (Oe er).1;exact fin (i+3) ((aa.trans ad).trans an) I (aaH (λc=>Oe) an.2.1 aX)
     .cases h
   .split at h
    .cases h
    .rename_i bS aX;split at h
     .cases h
     .have ad:=QQ aa.2.1 aX;exact fin bS ((nL.trans aa).trans ad) (by have:=ad.1;omega) (axn ad.2.1 h)
def aqx:∀{i:Nat} {dl:Option Nat},∀k,i<=k->k<(gZ D i dl).1->0<g D k/\g D k<128:=λ{i}=>by
 induction hm:U D-i using Nat.strongRecOn generalizing i with
 |ind m bR=>
  intro dl k aa ad;by_cases au:i<U D
  .have step:∀Ax,(gZ D i dl=gZ D (i+1) Ax)->(0<g D i/\g D i<128)->0<g D k/\g D k<128:=λAx e c=>by
    grind
   by_cases c1:j_ (g D i)
   .exact step _ (ve au c1) (by
     unfold j_ at c1;rcases c1 with c|c
     .have:=js c;omega
     .omega)
   .by_cases c2:lU D i
    .exact step _ (v' au c1 c2) (by unfold lU at c2;omega)
    .rw[qP (λ_=>c1) (λ_=>c2)] at ad;omega
  .rw[qP (λe=>absurd e au) (λe=>absurd e au)] at ad;omega
def aqA(az:i<=U D)(aW:cT (g D i)=ai)(aL:mq D i=ai)(h:om D i=J (k,j)):i<j/\cD D i j:=by
 have an:=aaJ aW aL;have b:=E9 (D:=D) (i:=i) (dl:=ab) az (λd e=>by cases e);unfold om at h;simp only[dg,hI] at h;obtain⟨_,rfl⟩:=h;exact⟨I,.vS (λk aa ad=>(aqx k aa ad).2) b.1 b.2.1⟩
def Mh(hw:0<U w)(bE:w.all (λc=>decide (c.toNat<128))=ai)(az:i<=U D)(h:qh D w i n=J (k,j)):i<j/\cD D i j:=by
 unfold qh at h;split at h
 .rename_i e;simp only[dg,hI] at h;obtain⟨_,rfl⟩:=h;exact⟨I,adQ e rfl bE az⟩
 .cases h
def RI(az:i<=U D)(h:gm D i=J (k,j)):i<j/\cD D i j:=by
 unfold gm at h;split at h
 .exact Mh aE aE az h
 .split at h
  .exact Mh aE aE az h
  .split at h
   .exact Mh aE aE az h
   .split at h
    .exact Mh aE aE az h
    .split at h
     .exact Mj az h
     .split at h
      .rename_i aG;split at h
       .rename_i aL;exact aqA az aG aL h
       .exact Mj az h
      .cases h
def aq5(az:i<=U D)(h:kA D i=J (x,j)):i<j/\cD D i j:=by
 unfold kA at h;split at h
 .rename_i b5;cases aX:mv D i with
  |none=>rw[aX] at h;cases h
  |some y=>obtain⟨a,b⟩:=y;rw[aX] at h;cases h;exact aq9 b5 aX
 .cases aX:gm D i with
  |none=>rw[aX] at h;cases h
  |some y=>obtain⟨a,b⟩:=y;rw[aX] at h;cases h;exact RI az aX
def CR{cl:Nat}{V:Nat->Option (β×Nat)}(ay:0<cl/\cl<128)(eu:∀i a j,i<=U D->V i=J (a,j)->i<j/\cD D i j):∀{n:Nat} {fE:Bool} {acc l:List β} {i:Nat},i<=U D->gseq D cl V n fE acc i=J (l,j)->i<j/\cD D i j
 |0,_,_,_,_,_,h=>by cases h
 |n+1,fE,acc,l,i,az,h=>by
  have nL:=cD.a9 (D:=D) az;have bE:=nL.1;have fin:∀x,cD D i x->(x<=U D->x<j/\cD D x j)->i<j/\cD D i j:=λx a c=>by
   have c:=c a.2.1;exact⟨by have:=a.1;omega,a.trans c.2⟩
  rw[gseq] at h;split at h
  .rename_i e;simp only[dg,hI] at h;obtain⟨_,rfl⟩:=h;exact⟨I,nL.trans (.one I I)⟩
  .split at h
   .have aa:=cD.one (D:=D) (i:=a9 D i) I I;exact fin _ (nL.trans aa) (λe=>CR ay eu e h)
   .split at h
    .split at h
     .have aa:=cD.one (D:=D) (i:=a9 D i) I I;have ad:=cD.one (D:=D) (i:=a9 D i+1) I I;exact fin _ ((nL.trans aa).trans ad) (λe=>CR ay eu e h)
     .cases h
    .split at h
     .have aa:=cD.one (D:=D) (i:=a9 D i) I I;cases aX:gcom D (a9 D i+1) with
      |none=>grind
      |some y=>
       rw[aX] at h;exact fin _ ((nL.trans aa).trans (L6 aa.2.1 aX)) (λe=>CR ay eu e h)
     .split at h
      .split at h
       .have aa:=cD.one (D:=D) (i:=a9 D i) I I;exact fin _ (nL.trans aa) (λe=>CR ay eu e h)
       .cases h
      .split at h
       .cases h
       .cases aD:V (a9 D i) with
        |none=>grind
        |some y=>
         obtain⟨a,y⟩:=y;rw[aD] at h;exact fin _ (nL.trans (eu _ _ _ nL.2.1 aD).2) (λe=>CR ay eu e h)
def aqL(eu:∀i a j,i<=U D->V i=J (a,j)->i<j/\cD D i j)(h:gkv D V i=J (q,j)):i<j/\cD D i j:=by
 unfold gkv at h;cases aq:gkey D i [] with
 |none=>grind
 |some x=>
  obtain⟨ks,bI⟩:=x;rw[aq] at h;simp only at h;split at h
  .rename_i e;have a:=CO aq;have aa:=cD.one (D:=D) (i:=bI) I I;have ad:=cD.a9 (D:=D) aa.2.1;cases aD:V (a9 D (bI+1)) with
   |none=>grind
   |some y=>
    obtain⟨b,y⟩:=y;rw[aD] at h;cases h;have an:=eu _ _ _ ad.2.1 aD;exact⟨by have:=aa.1;have:=ad.1;omega,((a.2.trans aa).trans ad).trans an.2⟩
  .cases h
def HZ:∀{n i:Nat} {a:e'} {j:Nat},i<=U D->gval D n i=J (a,j)->i<j/\cD D i j
 |0,_,_,_,_,h=>by cases h
 |n+1,i,a,j,az,h=>by
  have eu:∀i a j,i<=U D->gval D n i=J (a,j)->i<j/\cD D i j:=λi a j=>HZ;rw[gval] at h;split at h
  .have aa:=cD.one (D:=D) (i:=i) I I;cases aX:gseq D 93 (gval D n) (U D+1) av [] (i+1) with
   |none=>rw[aX] at h;cases h
   |some x=>
    obtain⟨l,k⟩:=x;rw[aX] at h;cases h;have:=CR aE eu aa.2.1 aX;exact⟨I,aa.trans this.2⟩
  .split at h
   .have aa:=cD.one (D:=D) (i:=i) I I;cases aX:gseq D 125 (gkv D (gval D n)) (U D+1) av [] (i+1) with
    |none=>rw[aX] at h;cases h
    |some x=>
     obtain⟨l,k⟩:=x;rw[aX] at h;cases h;have:=CR aE (λi a j _=>aqL eu) aa.2.1 aX;exact⟨I,aa.trans this.2⟩
   .cases aX:kA D i with
    |none=>rw[aX] at h;cases h
    |some x=>
     obtain⟨x,k⟩:=x;rw[aX] at h;cases x<;>(cases h;exact aq5 az aX)
def asK{dU:Bool}{M bK:List Nat}{id l:Nat}(h:hdK D dU i aj M=J (a8,bK,id,l)):i<l/\cD D i l:=by
 unfold hdK at h;cases aq:gkey D i [] with
 |none=>grind
 |some x=>
  obtain⟨ks,j⟩:=x;rw[aq] at h;simp only at h;have a:=CO aq;split at h
  .rename_i e;have aa:=cD.one (D:=D) (i:=j) I I;have ad:cD D j (if dU=ai then j+2 else j+1):=by
    split
    .rename_i aG;exact aa.trans (.one (i:=j+1) al al)
    .exact aa
   cases bj:gfin D (if dU=ai then j+2 else j+1) with
   |none=>grind
   |some y=>
    rw[bj] at h;have an:=E_ ad.2.1 bj;cases aI:nameS dU ks aj M with
    |no c=>grind
    |ok hY yM i1=>
     rw[aI] at h;cases h;exact⟨by have:=ad.1;have:=an.1;omega,(a.2.trans ad).trans an⟩
  .cases h
end
section
variable{D:B}{i j k n:Nat}{aj:List (bW bL)}{M:List Nat}{id:Nat}
set_option exponentiation.threshold 2000 in
def az5{Q:Option bL->Prop}(h:∀o,Q o):tokQ D k i j Q:=by
 unfold tokQ;split
 .exact h _
 .split
  .split
   .exact h _
   grind
  ·(repeat' split)<;>exact h _
def ZG(bj:∀a (Q:Option bL->Prop),(∀o,Q o)->f a Q){K:Option (List bL)->Prop}(h:∀o,K o):∀(l:List e') (acc:List bL),decL f l acc K
 |[],acc=>h _
 |a::l,acc=>by
  rw[decL];refine bj _ _ λo=>?_;cases o with
  |none=>exact h _
  |some t=>exact ZG bj h l _
def ZI(bj:∀a (Q:Option bL->Prop),(∀o,Q o)->f a Q){K:Option (List (bW bL))->Prop}(h:∀o,K o):∀(l:List (List B×e')) (aj:List (bW bL)) (M:List Nat),decT f l aj M K
 |[],aj,M=>h _
 |a::l,aj,M=>by
  rw[decT];refine bj _ _ λo=>?_;cases o with
  |none=>exact h _
  |some t=>
   simp only;cases pairS t a.1 aj M 0 with
   |no c=>trivial
   |ok a8 bK x=>exact ZI bj h l _ _
def QF:∀(n:Nat) (a:e') (Q:Option bL->Prop),(∀o,Q o)->decQ D n a Q
 |0,_,_,_=>trivial
 |n+1,a,Q,h=>by
  cases a with
  |str s=>rw[decQ];exact h _
  |tok k i j=>rw[decQ];exact az5 h
  |arr l=>rw[decQ];exact ZG (QF n) (λo=>h _) _ _
  |qx l=>rw[decQ];exact ZI (QF n) (λo=>h _) _ _ _
def av8{K:Option (List (bW bL)×List Nat×Nat)->Prop}(aW:K ab)(aa:∀a8 bK l,i<l->cD D i l->K (J (a8,bK,l))):kvQ D i aj M id K:=by
 unfold kvQ;cases aq:gkey D i [] with
 |none=>exact aW
 |some x=>
  obtain⟨ks,j⟩:=x;have a:=CO aq;simp only;split
  .rename_i e;have s1:=cD.one (D:=D) (i:=j) I I;have s2:=cD.a9 (D:=D) s1.2.1;cases aD:gval D (U D+1) (a9 D (j+1)) with
   |none=>exact aW
   |some y=>
    obtain⟨v,k⟩:=y;have dB:=HZ s2.2.1 aD;cases bj:gfin D k with
    |none=>grind
    |some l=>
     have jf:=E_ dB.2.2.1 bj;simp only[bj];have au:i<l/\cD D i l:=⟨by have:=s1.1;have:=s2.1;have:=jf.1;omega,(((a.2.trans s1).trans s2).trans dB.2).trans jf⟩;unfold putQ;split
     .exact aW
     .split
      .refine QF _ _ _ λo=>?_;grind
      .exact aW
  .exact aW
def Rp(aW:Q ab):∀{n i:Nat} {aj:List (bW bL)} {M:List Nat} {id:Nat},((∀o,Q o)\/dC D i=av)->i<=U D->U D<n+i->gdocQ D n i aj M id Q
 |0,i,_,_,_,_,az,aI=>I
 |n+1,i,aj,M,id,eR,az,aI=>by
  have nL:=cD.a9 (D:=D) az;have bE:=nL.1;have go:∀(x:Nat) a8 bK cY,cD D i x->i<x->gdocQ D n x a8 bK cY Q:=λx a8 bK cY a b=>Rp aW (eR.imp_right λe=>a.2.2.trans e) a.2.1 I;rw[gdocQ];split
  .rename_i hlen;rcases eR with h|h
   .exact h _
   .have:dC D (a9 D i)=ai:=by rw[dC,e8 I]
    rw[nL.2.2,h] at this;cases this
  .split
   .exact go _ _ _ _ (nL.trans (.one I I)) I
   .split
    .split
     .exact go _ _ _ _ ((nL.trans (.one (i:=a9 D i) I I)).trans (.one (i:=a9 D i+1) I I)) I
     .exact aW
    .split
     .have aa:=cD.one (D:=D) (i:=a9 D i) I I;cases ay:gcom D (a9 D i+1) with
      |none=>exact aW
      |some y=>
       have ad:=L6 aa.2.1 ay;simp only;cases he:oQ D y with
       |none=>exact aW
       |some z=>
        have an:=Rr ad.2.1 he;exact go _ _ _ _ (((nL.trans aa).trans ad).trans an) (by have:=ad.1;have:=an.1;omega)
     .split
      .rename_i aDd;have aa:=cD.one (D:=D) (i:=a9 D i) I I;have ad:cD D (a9 D i) (if g D (a9 D i+1)=91 then a9 D i+2 else a9 D i+1):=by
        split
        .exact aa.trans (.one (i:=a9 D i+1) I I)
        .exact aa
       have an:=cD.a9 (D:=D) ad.2.1;have aT:i<(if g D (a9 D i+1)=91 then a9 D i+2 else a9 D i+1):=al
       cases aG:hdK D (decide (g D (a9 D i+1)=91)) (a9 D (if g D (a9 D i+1)=91 then a9 D i+2 else a9 D i+1)) aj M with
       |none=>exact aW
       |some y=>
        obtain⟨a8,bK,cY,l⟩:=y;have bN:=asK aG;exact go _ _ _ _ (((nL.trans ad).trans an).trans bN.2) (by have:=an.1;omega)
      .exact av8 aW λa8 bK l a b=>go _ _ _ _ (nL.trans b) I
end
section
variable{D:B}{i j k n:Nat}{acc s l:B}
def afb(bE:a.toNat≠0)(af:b.toNat≠0):[a,b]<+:ax i D↔g D i=a.toNat/\g D (i+1)=b.toNat:=by
 constructor
 .rintro⟨t,aP⟩;have aW:g (ax i D) 0=a.toNat:=by rw[<-aP];rfl
  have aa:g (ax i D) 1=b.toNat:=by rw[<-aP];rfl
  rw[ud] at aW aa;grind
 .intro⟨aW,aa⟩;have l0:=cu (D:=D) (i:=i) I;have c3:=cu (D:=D) (i:=i+1) I;rw[fu l0] at aW;rw[fu c3] at aa;rw[tJ l0,tJ c3,oF.1 aW,oF.1 aa];grind
def afc(bE:a.toNat≠0)(af:b.toNat≠0)(ay:c.toNat≠0):[a,b,c]<+:ax i D↔g D i=a.toNat/\g D (i+1)=b.toNat/\g D (i+2)=c.toNat:=by
 constructor
 .rintro⟨t,aP⟩;have aW:g (ax i D) 0=a.toNat:=by rw[<-aP];rfl
  have aa:g (ax i D) 1=b.toNat:=by rw[<-aP];rfl
  have ad:g (ax i D) 2=c.toNat:=by rw[<-aP];rfl
  rw[ud] at aW aa ad;grind
 .intro⟨aW,aa,ad⟩;have l0:=cu (D:=D) (i:=i) I;have c3:=cu (D:=D) (i:=i+1) I;have dA:=cu (D:=D) (i:=i+2) I;rw[fu l0] at aW;rw[fu c3] at aa;rw[fu dA] at ad;rw[tJ l0,tJ c3,tJ dA,oF.1 aW,oF.1 aa,oF.1 ad];grind
def crlf:[13,10]<+:ax i D↔g D i=13/\g D (i+1)=10:=afb aE aE
def zE:o3 (ax i D)=if g D i=10 then J (ax (i+1) D) else if g D i=13/\g D (i+1)=10 then J (ax (i+2) D) else ab:=by
 unfold o3;rw[eF];split
 .simp_all
 .by_cases h:[13,10]<+:ax i D
  .rw[aA h,aA (crlf.1 h),tI]
  .rw[ak h,ak λe=>h (crlf.2 e)]
def aw3:(o3 (ax i D)).getD (ax i D)=ax (iU D i) D:=by
 rw[zE];unfold iU;split
 .rfl
 .split<;>rfl
def N8(hu:dC D i=ai):match ff D i with
  |some n=>plain (ax i D)=.ok (ax i (bf (i+n) D)) (ax (i+n) D)/\dC D (i+n)=ai/\0<n/\i+n<=U D
  |none=>plain (ax i D)=.no 1:=by
 by_cases au:i<U D
 .have aW:¬ax i D=[]:=m8
  cases ay:ff D i with
  |none=>
   have aL:g D i<128:=by
    rcases jw (g D i) 128 with h|h
    .exact h
    .rw[ag0 hu h] at ay;cases ay
   simp only;unfold plain;rw[aA];rw[eF];unfold ff at ay;grind
  |some n=>
   have af:=lR ay;refine⟨?_,(DR ay).trans hu,af.1,af.2⟩;have aI:n=jE (ax i D)/\¬((g D i<32/\g D i≠9)\/g D i=127):=by
    rcases jw (g D i) 128 with h|h
    .unfold ff at ay;by_cases e:g D i=9\/(32<=g D i/\g D i<127)
     .rw[aA e] at ay;cases ay;exact⟨(ay7 au h).symm,I⟩
     grind
    .exact⟨(Zj ay h).1,I⟩
   unfold plain;rw[eF,ak (λe=>(by grind:False)),<-aI.1,tI,GA]
 .have ay:ff D i=ab:=EN I;rw[ay];simp only;unfold plain;rw[aA (bF (BV I))]
def Zx:∀(n i:Nat),(∀k,k<n->128<=g D (i+k))->comLoop (ax i D)=comLoop (ax (i+n) D)
 |0,i,_=>rfl
 |n+1,i,h=>by
  have aW:128<=g D i:=h 0 I;have au:=cu (D:=D) (i:=i) I;rw[Hx au,ak I,ak (by rw[crlf];omega),ak I,ak I,Zx n (i+1) λk aq=>?_]
  .grind
  grind
def ao4(D:B)(j:Nat):Prop:=U D<=j\/g D j=10\/(g D j=13/\g D (j+1)=10)
def com_g:∀{i:Nat},dC D i=ai->match comLoop (ax i D) with
  | .ok _ l=>∃j,gcom D i=J j/\l=ax j D/\ao4 D j
  | .no c=>c=1->gcom D i=ab:=λ{i}=>by
 induction hm:U D-i using Nat.strongRecOn generalizing i with
 |ind m bR=>
  intro hu;by_cases au:i<U D
  .rw[Hx au];by_cases dh:g D i=10
   .rw[aA dh];exact⟨i,by rw[gcom,ak I,aA dh],rfl,bt (bF dh)⟩
   rw[ak dh];by_cases dx:[13,10]<+:ax i D
   .rw[aA dx];have e:=crlf.1 dx;exact⟨i,by rw[gcom,ak I,ak dh,aA e.1,aA e.2],rfl,bt (bt e)⟩
   rw[ak dx];have abf:¬(g D i=13/\g D (i+1)=10):=λe=>dx (crlf.2 e);have bad:∀c:Nat,(g D i<32/\g D i≠9)\/g D i=127->c=1->gcom D i=ab:=λc e _=>by
    by_cases oN:g D i=13
    .rw[gcom,ak I,ak dh,aA oN,ak I]
    .exact Rm au (v3 I I) dh oN
   by_cases aw:g D i<32/\g D i≠9
   .grind
   .rw[ak aw];by_cases ar:g D i=127
    .grind
    .rw[ak ar];have⟨n,ay⟩:∃n,ff D i=J n:=by
      rcases jw (g D i) 128 with h|h
      .exact⟨1,by unfold ff;grind⟩
      .exact⟨_,ag0 hu h⟩
     have af:=lR ay;have ae:comLoop (ax (i+1) D)=comLoop (ax (i+n) D):=by
      rcases jw (g D i) 128 with h|h
      .have:n=1:=by unfold ff at ay;grind
       rw[this]
      .have aq:=(Zj ay h).2;rw[Zx (n-1) (i+1) λk ql=>?_]
       .congr 2;omega
       .have:=aq (k+1) I;grind
     rw[ae,HN ay dh I];exact bR (U D-(i+n)) I rfl ((DR ay).trans hu)
  .rw[BV I];exact⟨i,by rw[gcom,aA I],(BV I).symm,bF I⟩
def esc_g:match escape (ax i D) with
  | .ok s l=>∃j,jA D i=J (s,j)/\l=ax j D
  | .no c=>c=1->jA D i=ab:=by
 unfold escape;rw[eF,tail_drop];simp only;generalize ae:g D i=x;have JU:∀n,jA D i=guni D (i+1) n->match(match hexN n 0 (ax (i+1) D) with
   | .ok v r=>if 1114111<v\/(55296<=v/\v<=57343) then(eW.no 1:eW B) else .ok (enc v) r
   | .no c=>.no c) with
   | .ok s l=>∃j,jA D i=J (s,j)/\l=ax j D
   | .no c=>c=1->jA D i=ab:=λn e=>by
  rw[e];unfold guni;cases bO:hexN n 0 (ax (i+1) D) with
  |no c=>simp
  |ok v r=>
   simp only;by_cases aD:1114111<v\/(55296<=v/\v<=57343)
   .rw[aA aD,aA aD];grind
   .rw[ak aD,ak aD];exact⟨_,rfl,(Sz bO).2⟩
 by_cases c1:x=98
 .rw[aA c1];subst c1;exact⟨i+1,by unfold jA;simp[ae],rfl⟩
 rw[ak c1];by_cases c2:x=116
 .rw[aA c2];subst c2;exact⟨i+1,by unfold jA;simp[ae],rfl⟩
 rw[ak c2];by_cases cy:x=110
 .rw[aA cy];subst cy;exact⟨i+1,by unfold jA;simp[ae],rfl⟩
 rw[ak cy];by_cases dQ:x=102
 .rw[aA dQ];subst dQ;exact⟨i+1,by unfold jA;simp[ae],rfl⟩
 rw[ak dQ];by_cases eX:x=114
 .rw[aA eX];subst eX;exact⟨i+1,by unfold jA;simp[ae],rfl⟩
 rw[ak eX];by_cases c6:x=34
 .rw[aA c6];subst c6;exact⟨i+1,by unfold jA;simp[ae],rfl⟩
 rw[ak c6];by_cases xz:x=92
 .rw[aA xz];subst xz;exact⟨i+1,by unfold jA;simp[ae],rfl⟩
 rw[ak xz];by_cases Qo:x=117
 .rw[aA (bF Qo)];subst Qo;rw[ak aE];exact JU 4 (by unfold jA;simp[ae])
 by_cases LA:x=85
 .rw[aA (bt LA)];subst LA;rw[aA rfl];exact JU 8 (by unfold jA;simp[ae])
 rw[ak I];by_cases Qm:x=101\/x=120
 .grind
 .rw[ak Qm];intro _;unfold jA;rw[ae];rw[ak c6,ak xz,ak c1,ak dQ,ak cy,ak eX,ak c2,ak I,ak I,ak Qo,ak LA]
def Lv:∀{n i:Nat} {acc:B},dC D i=ai->match basic n (ax i D) with
  | .ok s l=>∃j,gbas D i acc=J (acc++s,j)/\l=ax (j+1) D
  | .no c=>c=1->gbas D i acc=ab
 |0,i,acc,hu=>by rw[basic];omega
 |n+1,i,acc,hu=>by
  have go:∀(s:B) (r:eW B) (x:Nat),(gbas D i acc=gbas D x (acc++s))->(match r with
    | .ok eU l=>∃j,gbas D x (acc++s)=J ((acc++s)++eU,j)/\l=ax (j+1) D
    | .no c=>c=1->gbas D x (acc++s)=ab)->match pre s r with
    | .ok s l=>∃j,gbas D i acc=J (acc++s,j)/\l=ax (j+1) D
    | .no c=>c=1->gbas D i acc=ab:=λs r x e h=>by
   rw[e];cases r with
   |no c=>exact h
   |ok a l=>
    simp only[pre] at h⊢;grind
  rw[basic,eF,tail_drop];by_cases gP:g D i=34
  .rw[aA gP];exact⟨i,by rw[gbas,aA gP,aht],rfl⟩
  rw[ak gP];by_cases jQ:g D i=92
  .rw[aA jQ];have he:=esc_g (D:=D) (i:=i+1);cases ae:escape (ax (i+1) D) with
   |no c=>
    rw[ae] at he;exact λe=>Rl jQ (he e)
   |ok s l=>
    rw[ae] at he;obtain⟨j,aC,rfl⟩:=he;simp only;refine go s _ j (aaG jQ aC) ?_;have au:=cu (D:=D) (i:=i) I;exact Lv ((Ma aC).trans ((lZ au I).trans hu))
  .rw[ak jQ];have aJ:=N8 (D:=D) (i:=i) hu;cases ay:ff D i with
   |none=>
    rw[ay] at aJ;simp only at aJ;rw[aJ];exact λ_=>E7 ay gP jQ
   |some n=>
    rw[ay] at aJ;simp only at aJ;rw[aJ.1];exact go _ _ _ (E8 ay gP jQ) (Lv aJ.2.1)
def T8:∀{n i:Nat},dC D i=ai->match literal n (ax i D) with
  | .ok s l=>∃j,glit D i=J j/\s=ax i (bf j D)/\l=ax (j+1) D/\i<=j
  | .no c=>c=1->glit D i=ab
 |0,i,hu=>by rw[literal];omega
 |n+1,i,hu=>by
  rw[literal,eF,tail_drop];by_cases iA:g D i=39
  .rw[aA iA];exact⟨i,by rw[glit,aA iA],a1,rfl,bQ _⟩
  rw[ak iA];have aJ:=N8 (D:=D) (i:=i) hu;cases ay:ff D i with
  |none=>
   rw[ay] at aJ;simp only at aJ;rw[aJ];exact λ_=>Ry ay iA
  |some m=>
   rw[ay] at aJ;simp only at aJ;rw[aJ.1,HT ay iA];have bR:=T8 (n:=n) aJ.2.1;cases aF:literal n (ax (i+m) D) with
   |no c=>rw[aF] at bR;simp only[aF,pre];exact bR
   |ok a l=>
    rw[aF] at bR;simp only[aF,pre];obtain⟨j,aw,ar,aS,bl⟩:=bR;refine⟨j,aw,?_,aS,I⟩;rw[ar];apply Kz;intro q;simp only[List.getElem?_append,KA,D6,ix,yv];have:=aJ.2.2.2;by_cases b5:q<m
    .rw[aA I,aA I,aA I]
    .rw[ak I];have:i+m+(q-(min (i+m) (U D)-i))=i+q:=I
     rw[this]
end
section
variable{D:B}{i j k n:Nat}{acc s l:B}
def VD(aa:i<=k)(ad:k<=m):ax i (bf k D)++ax k (bf m D)=ax i (bf m D):=by
 apply Kz;grind
def zK(aa:g D i≠32)(ad:g D i≠9):a9 D i=i:=Vv λ_=>⟨aa,ad⟩
def agb:∀{i:Nat},g D (a9 D i)≠32/\g D (a9 D i)≠9:=λ{i}=>by
 induction hm:U D-i using Nat.strongRecOn generalizing i with
 |ind m bR=>
  by_cases h:i<U D/\(g D i=32\/g D i=9)
  .rw[DG h.1 h.2];grind
  .rw[a9,e8 h];by_cases au:i<U D
   .omega
   .rw[g6 I];decide
def sL:a9 D (a9 D i)=a9 D i:=zK agb.1 agb.2
def azq:∀{i:Nat},i<=U D->ki D i=if g D (a9 D i)=10 then ki D (a9 D i+1) else if g D (a9 D i)=13/\g D (a9 D i+1)=10 then ki D (a9 D i+2) else a9 D i:=λ{i}=>by
 induction hm:U D-i using Nat.strongRecOn generalizing i with
 |ind m bR=>
  intro az;by_cases h:i<U D/\(g D i=32\/g D i=9)
  .rw[DG h.1 h.2,JF h.1 I];exact bR _ I rfl I
  .have af:a9 D i=i:=by rw[a9,e8 h]
   rw[af];by_cases dh:g D i=10
   .have au:=cu (D:=D) (i:=i) I;rw[aA dh,JF au I]
   rw[ak dh];by_cases dx:g D i=13/\g D (i+1)=10
   .have au:=cu (D:=D) (i:=i) I;rw[aA dx,agf au dx.1 dx.2]
   .rw[ak dx];exact Vw λau=>I
def Nu:∀{n i:Nat},i<=U D->U D<=n+i->wL n (ax i D)=ax (ki D i) D
 |0,i,az,h=>by
  have:i=U D:=I
  rw[wL,this,Vw (λh=>absurd h (Nat.lt_irrefl _))]
 |n+1,i,az,h=>by
  have aL:=o6 (D:=D) az;rw[wL,<-o7,zE,azq az];by_cases dh:g D (a9 D i)=10
  .have au:=cu (D:=D) (i:=a9 D i) I;rw[aA dh,aA dh];exact Nu I I
  rw[ak dh,ak dh];by_cases dx:g D (a9 D i)=13/\g D (a9 D i+1)=10
  .have au:=cu (D:=D) (i:=a9 D i+1) I;rw[aA dx,aA dx];exact Nu I I
  .rw[ak dx,ak dx]
def avS(az:i<=U D):zu (ax i D)=(qg D i).map λj=>ax j D:=by
 have aL:=o6 (D:=D) az;unfold zu qg;rw[<-o7,zE];by_cases dh:g D (a9 D i)=10
 .have au:=cu (D:=D) (i:=a9 D i) I;rw[aA dh,aA dh];simp only[Option.map];rw[Nu I (by simp;omega)]
 rw[ak dh,ak dh];by_cases dx:g D (a9 D i)=13/\g D (a9 D i+1)=10
 .have au:=cu (D:=D) (i:=a9 D i+1) I;rw[aA dx,aA dx];simp only[Option.map];rw[Nu I (by simp;omega)]
 .rw[ak dx,ak dx];rfl
def aqI(h:¬rn (g D i)):qg D i=ab:=by
 unfold rn at h;unfold qg;rw[zK I I,ak I,ak I]
def pre_match{s:B}{Pk:B->B->Prop}{Pn:Nat->Prop}(h:match r with| .ok a l=>Pk (s++a) l| .no c=>Pn c):match pre s r with| .ok a l=>Pk a l| .no c=>Pn c:=by
 cases r with
 |ok a l=>exact h
 |no c=>exact h
def LL(au:i<U D):¬ax i D=[]:=m8
def af1:∀{n i i0:Nat},i0<=i->dC D i=ai->match sevLoop 39 n (ax i D) with
  | .ok s l=>∃c j,hB D i=J (c,j)/\ax i0 (bf i D)++s=ax i0 (bf c D)/\l=ax j D
  | .no c=>c=1->hB D i=ab
 |0,i,i0,aW,hu=>by rw[sevLoop];omega
 |n+1,i,i0,aW,hu=>by
  rw[sevLoop];by_cases au:i<U D
  .rw[ak (LL au),eF];have go:∀x,hB D i=hB D x->i<=x->dC D x=ai->match pre (ax i (bf x D)) (sevLoop 39 n (ax x D)) with
     | .ok s l=>∃c j,hB D i=J (c,j)/\ax i0 (bf i D)++s=ax i0 (bf c D)/\l=ax j D
     | .no c=>c=1->hB D i=ab:=λx e ae aD=>by
    rw[e];refine pre_match (Pk:=λs l=>∃c j,hB D x=J (c,j)/\ax i0 (bf i D)++s=ax i0 (bf c D)/\l=ax j D) (Pn:=λc=>c=1->hB D x=ab) ?_;have:=af1 (n:=n) (i:=x) (i0:=i0) I aD;cases aF:sevLoop 39 n (ax x D) with
    |no c=>grind
    |ok s l=>
     rw[aF] at this;obtain⟨c,j,a,b,d⟩:=this;refine⟨c,j,a,?_,d⟩;rw[<-b,<-Wm,VD aW ae]
   by_cases iA:g D i=39
   .rw[aA iA];have au1:=Gm (D:=D) (i:=i) (m:=39) aE aE;have hlen:i+mcnt 39 (ax i D)<=U D:=I
    have zh:=aa4 (D:=D) iA rfl;by_cases an:mcnt 39 (ax i D)<3
    .rw[aA an];rw[ak I] at zh;rw[tI,GA];grind
    .rw[ak an];rw[aA I] at zh;by_cases bN:5<mcnt 39 (ax i D)
     .grind
     .rw[ak bN] at zh⊢;refine⟨_,_,zh,?_,m8⟩;rw[GA,(I:i+(mcnt 39 (ax i D)-3)=i+mcnt 39 (ax i D)-3)];exact VD aW I
   rw[ak iA];by_cases dh:g D i=10
   .rw[aA dh,tail_drop];have e:ax i (bf (i+1) D)=[10]:=by
     rw[Ws,Kx,BV al,h5 au];simp only[yv,sS,Option.toList];rw[(I:i-min i (U D)=0),Ky];congr 1
     rw[fu au] at dh;exact oF.1 dh
    rw[<-e];exact go _ (aa2 dh) I ((lZ au I).trans hu)
   rw[ak dh];by_cases dx:[13,10]<+:ax i D
   .rw[aA dx];omega
   rw[ak dx,ak I];have abf:¬(g D i=13/\g D (i+1)=10):=λe=>dx (crlf.2 e);have aJ:=N8 (D:=D) (i:=i) hu;cases ay:ff D i with
   |none=>
    rw[ay] at aJ;simp only at aJ;rw[aJ];intro _;by_cases oN:g D i=13
    .exact aa3 oN I
    .exact HU ay iA dh oN
   |some m=>
    rw[ay] at aJ;simp only at aJ;rw[aJ.1];have oN:g D i≠13:=λe=>by
     rw[v3 I I] at ay;cases ay
    exact go _ (HV ay iA dh oN) I aJ.2.1
  .rw[BV I,aA rfl];exact λ_=>HU (EN I) (by rw[g6 I];decide) (by rw[g6 I];decide) (by rw[g6 I];decide)
def Vq:∀{n i:Nat} {acc:B},dC D i=ai->match sevLoop 34 n (ax i D) with
  | .ok s l=>∃j,gmb D i acc=J (acc++s,j)/\l=ax j D
  | .no c=>c=1->gmb D i acc=ab
 |0,i,acc,hu=>by rw[sevLoop];omega
 |n+1,i,acc,hu=>by
  rw[sevLoop];by_cases au:i<U D
  .rw[ak (LL au),eF];have go:∀x (s:B),gmb D i acc=gmb D x (acc++s)->dC D x=ai->match pre s (sevLoop 34 n (ax x D)) with
     | .ok s l=>∃j,gmb D i acc=J (acc++s,j)/\l=ax j D
     | .no c=>c=1->gmb D i acc=ab:=λx s e aD=>by
    rw[e];refine pre_match (Pk:=λt l=>∃j,gmb D x (acc++s)=J (acc++t,j)/\l=ax j D) (Pn:=λc=>c=1->gmb D x (acc++s)=ab) ?_;have:=Vq (n:=n) (i:=x) (acc:=acc++s) aD;grind
   by_cases gP:g D i=34
   .rw[aA gP];have au1:=Gm (D:=D) (i:=i) (m:=34) aE aE;have hlen:i+mcnt 34 (ax i D)<=U D:=I
    have zh:=RB (D:=D) (acc:=acc) gP rfl;by_cases an:mcnt 34 (ax i D)<3
    .rw[aA an];rw[ak I] at zh;rw[tI,GA];grind
    .rw[ak an];rw[aA I] at zh;by_cases bN:5<mcnt 34 (ax i D)
     .grind
     .rw[ak bN] at zh⊢;refine⟨_,?_,by rw[tI]⟩;rw[zh,GA,(I:i+(mcnt 34 (ax i D)-3)=i+mcnt 34 (ax i D)-3)]
   rw[ak gP];by_cases dh:g D i=10
   .rw[aA dh,tail_drop];have e:ax i (bf (i+1) D)=[10]:=by
     rw[Ws,Kx,BV al,h5 au];simp only[yv,sS,Option.toList];rw[(I:i-min i (U D)=0),Ky];congr 1
     rw[fu au] at dh;exact oF.1 dh
    rw[<-e];exact go _ _ (Rz dh) ((lZ au I).trans hu)
   rw[ak dh];by_cases dx:[13,10]<+:ax i D
   .rw[aA dx];omega
   rw[ak dx];have abf:¬(g D i=13/\g D (i+1)=10):=λe=>dx (crlf.2 e);by_cases jQ:g D i=92
   .rw[aA ⟨jQ,rfl⟩,tail_drop,avS I];cases aC:qg D (i+1) with
    |some j=>
     have hw:rn (g D (i+1)):=aG8 λe=>by rw[aqI e] at aC;cases aC
     have:=Vq (n:=n) (i:=j) (acc:=acc) ((aaQ aC).trans ((lZ au I).trans hu));rw[aa0 jQ hw aC];exact this
    |none=>
     simp only[Option.map];have he:=esc_g (D:=D) (i:=i+1);by_cases hw:rn (g D (i+1))
     .have aI:jA D (i+1)=ab:=by
       unfold rn at hw;unfold jA;generalize g D (i+1)=x at hw;rw[ak I,ak I,ak I,ak I,ak I,ak I,ak I,ak I,ak I,ak I,ak I]
      cases ae:escape (ax (i+1) D) with
      |no c=>exact λ_=>aa1 jQ hw aC
      |ok s l=>grind
     .cases ae:escape (ax (i+1) D) with
      |no c=>rw[ae] at he;exact λe=>RD jQ hw (he e)
      |ok s l=>
       rw[ae] at he;obtain⟨j,ij,rfl⟩:=he;exact go _ _ (aaZ jQ hw ij) ((Ma ij).trans ((lZ au I).trans hu))
   rw[ak (λe=>jQ e.1)];have aJ:=N8 (D:=D) (i:=i) hu;cases ay:ff D i with
   |none=>
    rw[ay] at aJ;simp only at aJ;rw[aJ];intro _;by_cases oN:g D i=13
    .exact RA oN I
    .exact Mi ay gP jQ dh oN
   |some m=>
    rw[ay] at aJ;simp only at aJ;rw[aJ.1];have oN:g D i≠13:=λe=>by
     rw[v3 I I] at ay;cases ay
    exact go _ _ (CP ay gP jQ dh oN) aJ.2.1
  .rw[BV I,aA rfl];exact λ_=>RC I
def aga(hu:dC D i=ai):match simple F (ax i D) with
  | .ok s l=>∃j,gsk D i=J (s,j)/\l=ax j D
  | .no c=>c=1->gsk D i=ab:=by
 unfold simple gsk;rw[eF,tail_drop];by_cases gP:g D i=34
 .have au:=cu (D:=D) (i:=i) I;rw[aA gP,ak I,aA gP];have:=Lv (D:=D) (n:=F) (acc:=[]) ((lZ au I).trans hu);cases af:basic F (ax (i+1) D) with
  |no c=>rw[af] at this;intro e;rw[this e];rfl
  |ok s l=>
   rw[af] at this;obtain⟨j,a,b⟩:=this;exact⟨j+1,by rw[a];rfl,b⟩
 rw[ak gP];by_cases iA:g D i=39
 .have au:=cu (D:=D) (i:=i) I;rw[aA iA,aA iA];have:=T8 (D:=D) (n:=F) ((lZ au I).trans hu);cases af:literal F (ax (i+1) D) with
  |no c=>grind
  |ok s l=>
   grind
 rw[ak iA,ak iA,ak gP];by_cases aW:bareN (ax i D)=0
 .rw[aA aW,aA aW];grind
 .rw[ak aW,ak aW];exact⟨_,by rw[GA],m8⟩
def Rx(D:B)(acc:List B)(j:Nat):Option (List B×Nat):=if g D (a9 D j)=46 then gkey D (a9 D (a9 D j+1)) acc else J (acc,a9 D j)
def adA{F:Nat}:∀{n i:Nat} {acc:List B},i<=U D->dC D i=ai->match keyLoop F n acc (ax i D) with
  | .ok ks l=>∃j,Rx D acc i=J (ks,j)/\l=ax j D
  | .no c=>c=1->Rx D acc i=ab
 |0,i,acc,az,hu=>by rw[keyLoop];omega
 |n+1,i,acc,az,hu=>by
  have aL:=cD.a9 (D:=D) az;unfold Rx;rw[keyLoop,<-o7,eF];by_cases mV:g D (a9 D i)=46
  .have s1:=cD.one (D:=D) (i:=a9 D i) I I;have s2:=cD.a9 (D:=D) s1.2.1;rw[ak I,aA mV,tail_drop,<-o7];have:=aga (D:=D) (F:=F) (i:=a9 D (a9 D i+1)) (by rw[s2.2.2,s1.2.2,aL.2.2,hu]);cases ae:simple F (ax (a9 D (a9 D i+1)) D) with
   |no c=>rw[ae] at this;exact λe=>E' (this e)
   |ok k r=>
    rw[ae] at this;obtain⟨j,a,rfl⟩:=this;rw[Mf a];have b:=RF a;exact adA b.2.2.1 (by rw[b.2.2.2,s2.2.2,s1.2.2,aL.2.2,hu])
  .rw[aA I,ak mV];grind
def adD(hu:dC D i=ai):match key F (ax i D) with
  | .ok ks l=>∃j,gkey D i []=J (ks,j)/\l=ax j D
  | .no c=>c=1->gkey D i []=ab:=by
 unfold key;have:=aga (D:=D) (F:=F) hu;cases ae:simple F (ax i D) with
 |no c=>rw[ae] at this;exact λe=>E' (this e)
 |ok k r=>
  rw[ae] at this;obtain⟨j,a,rfl⟩:=this;rw[Mf a];have b:=RF a;exact adA b.2.2.1 (by rw[b.2.2.2,hu])
end
section
variable{D:B}{i j k n m:Nat}{s l:B}
def Hl(D:B)(j:Nat):Prop:=j<U D/\g D j≠32/\g D j≠9/\g D j≠10/\g D j≠13/\g D j≠35/\g D j≠44/\g D j≠93/\g D j≠125
def OD(D l:B):Prop:=∃j,l=ax j D/\g D j=32/\48<=g D (j+1)/\g D (j+1)<=57
def PN(D:B)(i:Nat):Prop:=gm D i=ab\/∃k j,gm D i=J (k,j)/\(Hl D j\/∀Q,Q ab->tokQ D k i j Q)
def WordLaw(D:B):Prop:=∀i,i<=U D->dC D i=ai->g D i≠34->g D i≠39->g D i≠91->g D i≠123->match word (ax i D) with
 | .ok t l=>(∃k j,gm D i=J (k,j)/\l=ax j D/\∀Q,Q (J t)->tokQ D k i j Q)\/(PN D i/\OD D l)
 | .no c=>c=1->PN D i
def PM(D:B)(n:Nat)(a:e'):Prop:=okV n a=av\/∀Q,Q ab->decQ D n a Q
def xo(D:B)(n i:Nat):Prop:=gval D n i=ab\/∃a j,gval D n i=J (a,j)/\(Hl D j\/PM D n a)
def Cm(D:B)(n:Nat)(a:e')(t:bL):Prop:=okV n a=ai/\∀Q,Q (J t)->decQ D n a Q
def Lh(D:B)(F n:Nat):Prop:=∀i,i<=U D->dC D i=ai->match valueF F n (ax i D) with
 | .ok t l=>(∃a j,gval D n i=J (a,j)/\l=ax j D/\Cm D n a t)\/(xo D n i/\OD D l)
 | .no c=>c=1->xo D n i
def BC(D:B)(j:Nat):Prop:=a9 D j=j/\g D j≠35/\g D j≠10/\¬(g D j=13/\g D (j+1)=10)
section
variable{β:Type}{cl:Nat}{V:Nat->Option (β×Nat)}{fE:Bool}{acc:List β}
def HX:gseq D cl V n fE acc i=gseq D cl V n fE acc (a9 D i):=by
 cases n with
 |zero=>rfl
 |succ n=>rw[gseq,gseq,sL]
def aa7(ay:cl≠10)(h:g D (a9 D i)=10):gseq D cl V (n+1) fE acc i=gseq D cl V n fE acc (a9 D i+1):=by
 rw[gseq,ak I,aA h]
def aa8(ay:cl≠13)(h:g D (a9 D i)=13)(h':g D (a9 D i+1)=10):gseq D cl V (n+1) fE acc i=gseq D cl V n fE acc (a9 D i+2):=by
 rw[gseq,ak I,ak I,aA h,aA h']
def aq6(ay:cl≠35)(h:g D (a9 D i)=35):gseq D cl V (n+1) fE acc i=(gcom D (a9 D i+1)).bind λj=>gseq D cl V n fE acc j:=by
 rw[gseq,ak I,ak I,ak I,aA h];grind
def space_g(ay:cl≠10/\cl≠13/\cl≠35):∀{n m i:Nat},i<=U D->dC D i=ai->U D<n+i->U D<m+i->match space n (ax i D) with
  | .ok _ l=>∃j ez,l=ax j D/\cD D i j/\U D<ez+j/\gseq D cl V m fE acc i=gseq D cl V ez fE acc j/\BC D j
  | .no c=>c=1->gseq D cl V m fE acc i=ab
 |0,m,i,az,hu,aI,hm=>I
 |n+1,0,i,az,hu,aI,hm=>I
 |n+1,m+1,i,az,hu,aI,hm=>by
  have aL:=cD.a9 (D:=D) az;have iD:=aL.1;have go:∀x ez,gseq D cl V (m+1) fE acc i=gseq D cl V ez fE acc x->cD D i x->i<x->U D<ez+x->match space n (ax x D) with
    | .ok _ l=>∃j ez,l=ax j D/\cD D i j/\U D<ez+j/\gseq D cl V (m+1) fE acc i=gseq D cl V ez fE acc j/\BC D j
    | .no c=>c=1->gseq D cl V (m+1) fE acc i=ab:=λx ez e q' ae qn=>by
   rw[e];have:=space_g ay (n:=n) (m:=ez) (i:=x) q'.2.1 (q'.2.2.trans hu) I qn;cases aF:space n (ax x D) with
   |no c=>grind
   |ok u l=>
    rw[aF] at this;obtain⟨j,gz,a,b,c,d⟩:=this;exact⟨j,gz,a,q'.trans b,c,d⟩
  rw[space,<-o7];unfold comment;rw[eF];by_cases pB:g D (a9 D i)=35
  .have s1:=cD.one (D:=D) (i:=a9 D i) I I;have au:=cu (D:=D) (i:=a9 D i) I;have AT:comLoop (ax (a9 D i) D)=comLoop (ax (a9 D i+1) D):=by
    rw[Hx au,ak I,ak (by rw[crlf];omega),ak I,ak I]
   rw[ak I,AT];have aX:=com_g (D:=D) (i:=a9 D i+1) (by rw[s1.2.2,aL.2.2,hu]);have b5:=aq6 (V:=V) (n:=m) (fE:=fE) (acc:=acc) ay.2.2 pB;cases ae:comLoop (ax (a9 D i+1) D) with
   |no c=>
    grind
   |ok u l=>
    rw[ae] at aX;obtain⟨j,aC,rfl,he⟩:=aX;rw[aC] at b5;rw[GG] at b5;simp only;have s2:=(aL.trans s1).trans (L6 s1.2.1 aC);have n3:=(HM s1.2.1 aC).1;rw[zE];have wG:(g D j=10\/g D j=13)->a9 D j=j:=λh=>zK I I;by_cases dh:g D j=10
    .rw[aA dh];have fF:=cu (D:=D) (i:=j) I;obtain⟨dK,rfl⟩:∃dK,m=dK+1:=⟨m-1,I⟩;have aw:=aa7 (V:=V) (n:=dK) (fE:=fE) (acc:=acc) (i:=j) ay.1 (by rw[wG (bF dh)];exact dh);rw[wG (bF dh)] at aw;exact go _ _ (b5.trans aw) (s2.trans (.one I I)) I I
    rw[ak dh];by_cases dx:g D j=13/\g D (j+1)=10
    .rw[aA dx];have fF:=cu (D:=D) (i:=j+1) I;obtain⟨dK,rfl⟩:∃dK,m=dK+1:=⟨m-1,I⟩;have aq:=wG (bt dx.1);have aw:=aa8 (V:=V) (n:=dK) (fE:=fE) (acc:=acc) (i:=j) ay.2.1 (by rw[aq];exact dx.1) al;rw[aq] at aw;exact go _ _ (b5.trans aw) ((s2.trans (.one (i:=j) I I)).trans (.one (i:=j+1) I I)) I I
    .rw[ak dx];have wo:U D<=j:=by
      rcases he with h|h|h
      .exact h
      .omega
      omega
     have aW:=g6 (D:=D) wo;exact⟨j,m,rfl,s2,I,b5,zK I I,I,dh,dx⟩
  .rw[aA pB];simp only;rw[zE];by_cases dh:g D (a9 D i)=10
   .rw[aA dh];have fF:=cu (D:=D) (i:=a9 D i) I;exact go _ _ (aa7 ay.1 dh) (aL.trans (.one I I)) I I
   rw[ak dh];by_cases dx:g D (a9 D i)=13/\g D (a9 D i+1)=10
   .rw[aA dx];have fF:=cu (D:=D) (i:=a9 D i+1) I;exact go _ _ (aa8 ay.2.1 dx.1 dx.2) ((aL.trans (.one (i:=a9 D i) I I)).trans (.one (i:=a9 D i+1) I I)) I I
   .rw[ak dx];exact⟨a9 D i,m+1,rfl,aL,I,HX,sL,pB,dh,dx⟩
def abb(h:BC D i)(eS:g D i≠cl)(eu:g D i=13\/g D i=44->V i=ab):gseq D cl V (n+1) av acc i=(V i).bind λx=>gseq D cl V n ai (acc++[x.1]) x.2:=by
 rw[gseq,h.1,ak eS,ak h.2.2.1];by_cases dx:g D i=13
 .rw[aA dx,ak (λe=>h.2.2.2 ⟨dx,e⟩),eu (bF dx)];rfl
 .rw[ak dx,ak h.2.1];grind
def Mm(h:a9 D i=i)(eS:g D i=cl):gseq D cl V (n+1) fE acc i=J (acc,i+1):=by
 rw[gseq,h,aA eS]
def aa9(h:a9 D i=i)(eS:cl≠44)(mw:g D i=44):gseq D cl V (n+1) ai acc i=gseq D cl V n av acc (i+1):=by
 rw[gseq,h,ak I,ak I,ak I,ak I,aA mw,aA rfl]
def RE(h:BC D i)(eS:g D i≠cl)(mw:g D i≠44):gseq D cl V n ai acc i=ab:=by
 cases n with
 |zero=>rfl
 |succ n=>
  rw[gseq,h.1,ak eS,ak h.2.2.1];by_cases dx:g D i=13
  .rw[aA dx,ak (λe=>h.2.2.2 ⟨dx,e⟩)]
  .rw[ak dx,ak h.2.1,ak mw,aA rfl]
def aba(ay:cl=93\/cl=125)(h:Hl D i):gseq D cl V n ai acc i=ab:=by
 obtain⟨aW,aa,ad,an,aT,bN,cB,de,hC⟩:=h;exact RE ⟨zK aa ad,bN,an,λe=>aT e.1⟩ I cB
def AI:∀{n:Nat} {fE:Bool} {acc l:List β} {i:Nat},gseq D cl V n fE acc i=J (l,j)->∃hP,l=acc++hP
 |0,_,_,_,_,h=>by cases h
 |n+1,fE,acc,l,i,h=>by
  rw[gseq] at h;split at h
  .simp_all
  .split at h
   .exact AI h
   .split at h
    .split at h
     .exact AI h
     .cases h
    .split at h
     .cases aX:gcom D (a9 D i+1) with
      |none=>grind
      |some y=>rw[aX] at h;exact AI h
     .split at h
      .split at h
       .exact AI h
       .cases h
      .split at h
       .cases h
       .cases aD:V (a9 D i) with
        |none=>grind
        |some y=>
         obtain⟨a,y⟩:=y;rw[aD] at h;obtain⟨hP,e⟩:=AI h;grind
end
def RG(h:gm D i≠ab):g D i=116\/g D i=102\/g D i=105\/g D i=110\/g D i=43\/g D i=45\/(48<=g D i/\g D i<=57):=by
 unfold gm at h;generalize ae:g D i=x at h;by_cases c1:x=116
 .omega
 by_cases c2:x=102
 .omega
 by_cases cy:x=105
 .omega
 by_cases dQ:x=110
 .omega
 by_cases eX:x=43\/x=45
 .omega
 rw[ak c1,ak c2,ak cy,ak dQ,ak eX] at h;by_cases c6:cT x=ai
 .have:=js c6;omega
 grind
def ari(h:g D i=13\/g D i=44):gval D n i=ab:=by
 cases n with
 |zero=>rfl
 |succ n=>
  rw[gval,ak I,ak I];unfold kA;rw[ak I];cases aX:gm D i with
  |none=>rfl
  |some x=>have:=RG (D:=D) (i:=i) al;omega
def Et(D:B)(n:Nat)(hP:List e'):Prop:=hP.all (okV n)=av\/∀Al K,K ab->decL (decQ D n) hP Al K
def Et.cons(bE:Cm D n a t)(h:Et D n hP):Et D n (a::hP):=by
 rcases h with h|h
 .left;grind
 .right
  intro Al K cE;rw[decL];exact bE.2 _ (h _ _ cE)
def Et.head(bE:PM D n a):Et D n (a::hP):=by
 rcases bE with h|h
 .left;grind
 .right
  intro Al K cE;rw[decL];exact h _ cE
def G8(D:B)(n:Nat)(acc:List e')(r:Option (List e'×Nat)):Prop:=r=ab\/∃hP j,r=J (acc++hP,j)/\Et D n hP
def G8.cons(bE:Cm D n a t)(h:G8 D n (acc++[a]) r):G8 D n acc r:=by
 rcases h with h|⟨hP,j,e,h⟩
 .exact bF h
 .exact bt ⟨a::hP,j,by rw[e];simp,h.cons bE⟩
def list_g{F:Nat}(iR:U D<F)(eu:Lh D F n):∀{p m i:Nat} {ta:List bL} {acc:List e'},i<=U D->dC D i=ai->U D<m+i->match listL (valueF F n) F p ta (ax i D) with
  | .ok w5 l=>∃hP j JN,gseq D 93 (gval D n) m av acc i=J (acc++hP,j)/\l=ax j D/\w5=ta++JN/\hP.all (okV n)=ai/\∀(Al:List bL) (K:Option (List bL)->Prop),K (J (Al++JN))->decL (decQ D n) hP Al K
  | .no c=>c=1->G8 D n acc (gseq D 93 (gval D n) m av acc i)
 |0,m,i,ta,acc,az,hu,hm=>by rw[listL];omega
 |p+1,m,i,ta,acc,az,hu,hm=>by
  rw[listL];have aa:=space_g (D:=D) (cl:=93) (V:=gval D n) (fE:=av) (acc:=acc) (n:=F) (m:=m) aE az hu I hm;cases aL:space F (ax i D) with
  |no c=>rw[aL] at aa;exact λe=>bF (aa e)
  |ok u l=>
   rw[aL] at aa;obtain⟨x,dK,rfl,q',C6,aw,VB⟩:=aa;rw[aw];simp only;rw[eF,tail_drop];have kc:=q'.1;have k3:=q'.2.1;obtain⟨gz,rfl⟩:∃gz,dK=gz+1:=⟨dK-1,I⟩;by_cases uj:g D x=93
   .rw[aA uj];exact⟨[],x+1,[],by rw[Mm VB.1 uj];simp,rfl,a1,rfl,λ_ _ h=>by simpa[decL] using h⟩
   rw[ak uj];have A0:=abb (V:=gval D n) (n:=gz) (acc:=acc) VB uj ari;rw[A0];have aD:=eu x q'.2.1 (q'.2.2.trans hu);have F0:xo D n x->G8 D n acc ((gval D n x).bind λx=>gseq D 93 (gval D n) gz ai (acc++[x.1]) x.2):=λh=>by
    rcases h with h|⟨a,y,e,h⟩
    .rw[h];exact bF rfl
    .rw[e,GG];simp only;rcases h with h|h
     .exact bF (aba (bF rfl) h)
     .cases aF:gseq D 93 (gval D n) gz ai (acc++[a]) y with
      |none=>exact bF rfl
      |some z=>
       obtain⟨l,z⟩:=z;obtain⟨hP,rfl⟩:=AI aF;exact bt ⟨a::hP,z,a1,.head h⟩
   cases ae:valueF F n (ax x D) with
   |no c=>rw[ae] at aD;exact λe=>F0 (aD e)
   |ok t l=>
    rw[ae] at aD;simp only;rcases aD with ⟨a,y,ar,rfl,r7⟩|⟨fy,y,rfl,dd,dr,fq⟩
    .rw[ar,GG];simp only;have qw:=HZ q'.2.1 ar;have aE5:=qw.2.1;have a2:=space_g (D:=D) (cl:=93) (V:=gval D n) (fE:=ai) (acc:=acc++[a]) (n:=F) (m:=gz) (i:=y) aE qw.2.2.1 (by rw[qw.2.2.2,q'.2.2,hu]) I I;cases gQ:space F (ax y D) with
     |no c=>rw[gQ] at a2;exact λe=>bF (a2 e)
     |ok u l=>
      rw[gQ] at a2;obtain⟨w,k8,rfl,agz,acs,aS,DK⟩:=a2;rw[aS];simp only;rw[eF,tail_drop];have ow:=agz.2.1;obtain⟨x',rfl⟩:∃x',k8=x'+1:=⟨k8-1,I⟩;by_cases mw:g D w=44
      .rw[aA mw,aa9 DK.1 aE mw];have au:=cu (D:=D) (i:=w) I;have:=list_g iR eu (p:=p) (m:=x') (i:=w+1) (ta:=ta++[t]) (acc:=acc++[a]) I (by rw[lZ au I,agz.2.2,qw.2.2.2,q'.2.2,hu]) I;cases aF:listL (valueF F n) F p (ta++[t]) (ax (w+1) D) with
       |no c=>rw[aF] at this;exact λe=>(this e).cons r7
       |ok w5 l=>
        rw[aF] at this;obtain⟨hP,j,JN,bx,bH,cq,dT,e3⟩:=this;refine⟨a::hP,j,t::JN,al,bH,al,by rw[ahs,r7.1,dT];rfl,λAl K cE=>?_⟩;rw[decL];exact r7.2 _ (e3 _ _ al)
      rw[ak mw];by_cases Mt:g D w=93
      .rw[ak I,Mm DK.1 Mt];cases p with
       |zero=>rw[listL];intro e;cases e
       |succ p=>
        have IP:space F (ax w D)=.ok () (ax w D):=by
         cases F with
         |zero=>rfl
         |succ F=>rw[space,<-o7,DK.1];unfold comment;rw[eF,aA DK.2.1];simp only;rw[zE,ak DK.2.2.1,ak DK.2.2.2]
        rw[listL,IP];simp only;rw[eF,aA Mt,tail_drop];refine⟨[a],w+1,[t],rfl,rfl,rfl,by rw[ahs,r7.1];rfl,λAl K cE=>?_⟩;rw[decL];exact r7.2 _ cE
      .rw[aA Mt];exact λ_=>bF (RE DK Mt mw)
    .have IP:space F (ax y D)=.ok () (ax (y+1) D):=by
      obtain⟨F,rfl⟩:∃F',F=F'+1:=⟨F-1,I⟩;have au:=cu (D:=D) (i:=y) I;rw[space,<-o7,DG au (bF dd),zK I I];unfold comment;rw[eF,aA I];simp only;rw[zE,ak I,ak I]
     rw[IP];simp only;rw[eF,ak I,aA I];exact λ_=>F0 fy
end
