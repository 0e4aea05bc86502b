/- A part of the proof of FnTomlReadCardSaid: for every string the law FnTomlRead returns true. Conditions: those of the given row and card, no others. -/
import Derived.Laws.Strings
import Derived.Test.YteonbmabmhoffaaGreatDoorA01
open Option renaming some->J,none->ab
open Bool renaming true->ai,false->av
open Go renaming Value->ao
open Go.Obj renaming cells->aO
open Go.Value renaming bool->aQ,slice->a5,int->ba,tuple->bA,pointer->bU,agg->cA,iface->cW,string->fo
open Or renaming inl->bF,inr->bt
open Go.BinOp renaming eql->cQ,lss->fG,neq->hF,gtr->hf,geq->h0
open List renaming length->U,toArray->aZ,drop->ax,take->bf
open Array renaming size->ag,toList->bC,push->a6,setIfInBounds->dy
namespace Go.Proofs.YteonbmabmhoffaaGreatDoor.F
set_option linter.all false
set_option autoImplicit true
set_option relaxedAutoImplicit true
set_option maxRecDepth 100000
set_option maxHeartbeats 4000000
noncomputable section
section
abbrev aBH:=@Go.ByteArray.toList_eq
abbrev jv:=@Go.IntKind.wrap_i64
abbrev ahr:=@Go.IntKind.wrap_u32
abbrev aBJ:=@Go.IntKind.wrap_u8
abbrev g3:=@Go.Result.andThen_ok
abbrev hl:=@Go.Sem.run_bind
abbrev ahI:=@Go.Sem.run_ite
abbrev kq:=@Go.Sem.run_pure
abbrev Wz:=@Go.Value.bool.injEq
abbrev WA:=@Go.Value.int.injEq
abbrev WB:=@Go.mem_ready
abbrev sT:=@Go.wp_mono
abbrev B:=List UInt8
def S(l:B):ao:=fo ⟨aZ l⟩
def aN(b:Nat):ao:=bU (J ⟨b,0,ab⟩)
def g(D:B)(i:Nat):Nat:=(D.getD i 0).toNat
def dZ(D:B)(i:Nat):g D i<256:=by unfold g;exact UInt8.toNat_lt _
section
@[congr] def aCy(e:o=fc):Pu o h k=Pu fc h k:=e▸rfl
@[congr] def aCr(e:p=hG):cd p h k=cd hG h k:=e▸rfl
@[congr] def aCn(e:p=hG):cO n p h k=cO n hG h k:=e▸rfl
@[congr] def aCC(e:p=hG)(c':v=ch):bZ n p v h k=bZ n hG ch h k:=e▸c'▸rfl
@[congr] def aCf(e:c=b6):a0 c b X h k=a0 b6 b X h k:=e▸rfl
@[congr] def aB7(e:c=b6):b1 c X Y=b1 b6 X Y:=e▸rfl
inductive Tag{α:Type}(a:α):Type|mk
def X0(n:Nat)(X:se n->Prop)(k:Fr->se n)(_:Tag X)(_:Tag k):Prop:=fD n X k
def X9(n:Nat)(vs:List ao)(h:H)(b:se n->Fr->se n)(_:Tag vs)(_:Tag h)(_:Tag b):Prop:=iL n vs h b
def XD(g:Nat)(args:List ao)(h:H)(k:K)(_:Tag args)(_:Tag h)(_:Tag k):Prop:=bD g args h k
def XE(g:Nat)(args:List ao)(h:H)(k:K)(_:Tag args)(_:Tag h)(_:Tag k):Prop:=vJ g args h k
def XF(g:Nat)(args:List ao)(E:List (ao×Nat))(h:H)(k:K)(_:Tag args)(_:Tag E)(_:Tag h)(_:Tag k):Prop:=GS g args E h k
def XC(r:ao)(n:String)(args:List ao)(h:H)(k:K)(_:Tag r)(_:Tag args)(_:Tag h)(_:Tag k):Prop:=Ci r n args h k
def XA(r:ao)(n:String)(args:List ao)(h:H)(k:K)(_:Tag r)(_:Tag args)(_:Tag h)(_:Tag k):Prop:=GR r n args h k
def Xy(g:Nat)(args:List ao)(h:H)(k:K)(_:Tag args)(_:Tag h)(_:Tag k):Prop:=z6 g args h k
def XG(f:ao)(args:List ao)(h:H)(k:K)(_:Tag f)(_:Tag args)(_:Tag h)(_:Tag k):Prop:=Cv f args h k
@[go_sem↓] def aCl:fD n X k=X0 n X k .mk .mk:=id rfl
@[go_sem↓] def aCu:iL n vs h b=X9 n vs h b .mk .mk .mk:=id rfl
@[go_sem↓] def aCd:bD n a h k=XD n a h k .mk .mk .mk:=id rfl
@[go_sem↓] def aCb:vJ n a h k=XE n a h k .mk .mk .mk:=id rfl
@[go_sem↓] def aCc:GS n a E h k=XF n a E h k .mk .mk .mk .mk:=id rfl
@[go_sem↓] def aCa:Ci r n a h k=XC r n a h k .mk .mk .mk .mk:=id rfl
@[go_sem↓] def aB9:GR r n a h k=XA r n a h k .mk .mk .mk .mk:=id rfl
@[go_sem↓] def aB8:z6 n a h k=Xy n a h k .mk .mk .mk:=id rfl
@[go_sem↓] def aCe:Cv r a h k=XG r a h k .mk .mk .mk .mk:=id rfl
def p7:X0 n X k a b=fD n X k:=id rfl
def p9:X9 n vs h b t u v=iL n vs h b:=id rfl
def p4:XD n a h k t u v=bD n a h k:=id rfl
def p2:XE n a h k t u v=vJ n a h k:=id rfl
def p3:XF n a E h k t u v w=GS n a E h k:=id rfl
def p1:XC r n a h k t u v w=Ci r n a h k:=id rfl
def p0:XA r n a h k t u v w=GR r n a h k:=id rfl
def pZ:Xy n a h k t u v=z6 n a h k:=id rfl
def p5:XG r a h k t u v w=Cv r a h k:=id rfl
@[go_sem↓] def bs:Pu (J v) h k=k v h:=rfl
@[go_sem↓] def aCk:a0 undef b X h k=k undef h:=id rfl
@[go_sem↓] def aCj:a0 (aQ ai) ai X h k=X h k:=rfl
@[go_sem↓] def aCh:a0 (aQ av) ai X h k=k undef h:=rfl
@[go_sem↓] def aCi:a0 (aQ ai) av X h k=k undef h:=rfl
@[go_sem↓] def aCg:a0 (aQ av) av X h k=X h k:=rfl
@[go_sem↓high] def aCx[Decidable p]:Pu (J (aQ (decide p))) h k=((p->k (aQ ai) h)/\(¬p->k (aQ av) h)):=by
 by_cases aJ:p<;>simp[Pu,aJ]
@[go_sem↓] def gl:b1 (aQ ai) X Y=X:=by simp[b1]
@[go_sem↓] def ga:b1 (aQ av) X Y=Y:=by simp[b1]
@[go_sem] def aGw:pk (aQ ai) a b=J a:=rfl
@[go_sem] def aGv:pk (aQ av) a b=J b:=rfl
@[go_sem] def aGQ:un .not (aQ ai)=J (aQ av):=rfl
@[go_sem] def aGP:un .not (aQ av)=J (aQ ai):=rfl
def yJ(h:X k):fD 0 X (λ_=>k):=⟨k,λ_ _ h=>h,h⟩
def ani(h:∀N:ao->H->Prop,(∀v h,k v h->N v h)->X N):fD 1 X (λ_=>k):=⟨k,λ_ _ _ h=>h,h k λ_ _ h=>h⟩
def lO(h:X k):fD 1 X (λ_=>k):=⟨k,λ_ _ _ h=>h,h⟩
def Eo(h:X k):fD 2 X (λ_=>k):=⟨k,λ_ _ _ _ h=>h,h⟩
def XZ(h:X k):fD 3 X (λ_=>k):=⟨k,λ_ _ _ _ _ h=>h,h⟩
end
def sX(b7:Nat->H->Prop)(m:Nat)(aW:b7 m h)(aL:∀m d h (N:H->Prop),b7 m h->(∀ez h,ez<m->b7 ez h->N h)->b N d h):iL 0 [] h b:=
 ⟨b7,⟨m,aW⟩,λm d h az=>aL m d h _ az λez _ hm h=>⟨ez,hm,h⟩⟩
def eV(b7:Nat->ao->H->Prop)(m:Nat)(aW:b7 m v h)(aL:∀m d v h (N:ao->H->Prop),b7 m v h->(∀ez v h,ez<m->b7 ez v h->N v h)->b N d v h):iL 1 [v] h b:=
 ⟨b7,⟨m,aW⟩,λm d v h az=>aL m d v h _ az λez _ _ hm h=>⟨ez,hm,h⟩⟩
def jn(b7:Nat->ao->ao->H->Prop)(m:Nat)(aW:b7 m v u h)(aL:∀m d v u h (N:ao->ao->H->Prop),b7 m v u h->(∀ez v u h,ez<m->b7 ez v u h->N v u h)->b N d v u h):iL 2 [v,u] h b:=
 ⟨b7,⟨m,aW⟩,λm d v u h az=>aL m d v u h _ az λez _ _ _ hm h=>⟨ez,hm,h⟩⟩
def G1(b7:Nat->ao->ao->ao->H->Prop)(m:Nat)(aW:b7 m v u t h)(aL:∀m d v u t h (N:ao->ao->ao->H->Prop),b7 m v u t h->(∀ez v u t h,ez<m->b7 ez v u t h->N v u t h)->b N d v u t h):iL 3 [v,u,t] h b:=
 ⟨b7,⟨m,aW⟩,λm d v u t h az=>aL m d v u t h _ az λez _ _ _ _ hm h=>⟨ez,hm,h⟩⟩
@[go_sem] def aGj:nc (bU (J a))=J (bU (J a)):=rfl
@[go_sem] def FY:nc (aN b)=J (aN b):=rfl
@[go_sem] def oO:fd off (aN b)=J (bU (J ⟨b,off,ab⟩)):=by
 simp only[aN,fd,Addr.add];grind
@[go_sem] def CN:fd off (bU (J ⟨b,o,ab⟩))=J (bU (J ⟨b,o+off,ab⟩)):=by
 simp only[fd,Addr.add];grind
def fs(af:h[b]?=J (aO c t b3)):cd (bU (J ⟨b,o,ab⟩)) h k=Pu c[o]? h k:=by
 simp only[cd,rd,af,Option.isSome_none,uL,lL,Pu]
@[go_sem] def xH:exv i (bA (List.toArray l))=l[i]?:=by simp[exv]
@[go_sem] def aFS:fb (a5 a n c)=J (ba .i64 (n:Int)):=id rfl
def dS(h:H)(x:Obj):(a6 h x)[ag h]?=J x:=a1
@[go_sem↓] def gE:oG t z h k=k (aN (ag h)) (a6 h (aO (aZ z) t)):=id rfl
@[go_sem↓] def ant{o:Nat}{h:H}{k:K}{t:Nat}{b3:Nat×Nat}:cd (bU (J ⟨ag h,o,ab⟩)) (a6 h (aO c t b3)) k=Pu c[o]? (a6 h (aO c t b3)) k:=fs (dS h _)
def xv(af:h[b]?=J (aO c t b3))(au:U (cellsL v)=sz)(aH:ones (cellsL v)=ai)(aL:o+sz<=ag c)(bj:o+sz<=b3.1\/b3.2<=o):
  bZ sz (bU (J ⟨b,o,ab⟩)) v h k=k undef (dy h b (aO (ht c o (cellsL v)) t b3)):=by
 simp[bZ,af,au,aH,aL,bj]
def Lc{o sz:Nat}{v:ao}{h:H}{k:K}{t:Nat}{b3:Nat×Nat}(au:U (cellsL v)=sz)(aH:ones (cellsL v)=ai)(aL:o+sz<=ag c)(bj:o+sz<=b3.1\/b3.2<=o):
  bZ sz (bU (J ⟨ag h,o,ab⟩)) v (a6 h (aO c t b3)) k=k undef (a6 h (aO (ht c o (cellsL v)) t b3)):=by
 rw[xv (dS h _) au aH aL bj,U2]
attribute [go_sem] O0 rq uN
@[go_sem] def qL{a b:Nat}(h:a+b<9223372036854775808):bn .add (ba .i64 (a:Int)) (ba .i64 (b:Int))=J (ba .i64 ((a+b:Nat):Int)):=by
 simp only[bn,ei];congr 2;simp only[jv];omega
@[go_sem] def aCG{a n:Nat}(h:a+OfNat.ofNat n<9223372036854775808):bn .add (ba .i64 (a:Int)) (ba .i64 (no_index (OfNat.ofNat n):Int))=J (ba .i64 ((a+OfNat.ofNat n:Nat):Int)):=qL h
@[go_sem] def m'{a b:Nat}(h:b<=a)(h':a<9223372036854775808):bn .sub (ba .i64 (a:Int)) (ba .i64 (b:Int))=J (ba .i64 ((a-b:Nat):Int)):=by
 simp only[bn,ei];congr 2;simp only[jv];omega
@[go_sem] def azL{a n:Nat}(h:OfNat.ofNat n<=a)(h':a<9223372036854775808):bn .sub (ba .i64 (a:Int)) (ba .i64 (no_index (OfNat.ofNat n):Int))=J (ba .i64 ((a-OfNat.ofNat n:Nat):Int)):=m' h h'
section
variable{k:IntKind}{a b n:Nat}
@[go_sem] def NM:bn fG (ba k (a:Int)) (ba k (b:Int))=J (aQ (decide (a<b))):=by simp[bn]
@[go_sem high] def Ud(h:a<b):bn fG (ba k (a:Int)) (ba k (b:Int))=J (aQ ai):=by rw[NM,j7 h]
@[go_sem high] def NN(h:b<=a):bn fG (ba k (a:Int)) (ba k (b:Int))=J (aQ av):=by rw[NM,ig (Nat.not_lt.2 h)]
@[go_sem] def aF1:bn fG (ba k (a:Int)) (ba k (no_index (OfNat.ofNat n):Int))=J (aQ (decide (a<OfNat.ofNat n))):=NM
@[go_sem high] def aF3(h:a<OfNat.ofNat n):bn fG (ba k (a:Int)) (ba k (no_index (OfNat.ofNat n):Int))=J (aQ ai):=Ud h
@[go_sem high] def aF2(h:OfNat.ofNat n<=a):bn fG (ba k (a:Int)) (ba k (no_index (OfNat.ofNat n):Int))=J (aQ av):=NN h
@[go_sem] def aFX:bn fG (ba k (no_index (OfNat.ofNat n):Int)) (ba k (b:Int))=J (aQ (decide (OfNat.ofNat n<b))):=NM
@[go_sem high] def aFZ(h:OfNat.ofNat n<b):bn fG (ba k (no_index (OfNat.ofNat n):Int)) (ba k (b:Int))=J (aQ ai):=Ud h
@[go_sem high] def aFY(h:b<=OfNat.ofNat n):bn fG (ba k (no_index (OfNat.ofNat n):Int)) (ba k (b:Int))=J (aQ av):=NN h
@[go_sem] def NK:bn .leq (ba k (a:Int)) (ba k (b:Int))=J (aQ (decide (a<=b))):=by simp[bn]
@[go_sem high] def T6(h:a<=b):bn .leq (ba k (a:Int)) (ba k (b:Int))=J (aQ ai):=by rw[NK,j7 h]
@[go_sem high] def T5(h:b<a):bn .leq (ba k (a:Int)) (ba k (b:Int))=J (aQ av):=by rw[NK,ig (Nat.not_le.2 h)]
@[go_sem] def aFO:bn .leq (ba k (a:Int)) (ba k (no_index (OfNat.ofNat n):Int))=J (aQ (decide (a<=OfNat.ofNat n))):=NK
@[go_sem high] def aFQ(h:a<=OfNat.ofNat n):bn .leq (ba k (a:Int)) (ba k (no_index (OfNat.ofNat n):Int))=J (aQ ai):=T6 h
@[go_sem high] def aFP(h:OfNat.ofNat n<a):bn .leq (ba k (a:Int)) (ba k (no_index (OfNat.ofNat n):Int))=J (aQ av):=T5 h
@[go_sem] def aFL:bn .leq (ba k (no_index (OfNat.ofNat n):Int)) (ba k (b:Int))=J (aQ (decide (OfNat.ofNat n<=b))):=NK
@[go_sem high] def aFN(h:OfNat.ofNat n<=b):bn .leq (ba k (no_index (OfNat.ofNat n):Int)) (ba k (b:Int))=J (aQ ai):=T6 h
@[go_sem high] def aFM(h:b<OfNat.ofNat n):bn .leq (ba k (no_index (OfNat.ofNat n):Int)) (ba k (b:Int))=J (aQ av):=T5 h
@[go_sem] def Mp:bn hf (ba k (a:Int)) (ba k (b:Int))=J (aQ (decide (b<a))):=by simp[bn]
@[go_sem high] def RK(h:b<a):bn hf (ba k (a:Int)) (ba k (b:Int))=J (aQ ai):=by rw[Mp,j7 h]
@[go_sem high] def RJ(h:a<=b):bn hf (ba k (a:Int)) (ba k (b:Int))=J (aQ av):=by rw[Mp,ig (Nat.not_lt.2 h)]
@[go_sem] def aDJ:bn hf (ba k (a:Int)) (ba k (no_index (OfNat.ofNat n):Int))=J (aQ (decide (OfNat.ofNat n<a))):=Mp
@[go_sem high] def aDL(h:OfNat.ofNat n<a):bn hf (ba k (a:Int)) (ba k (no_index (OfNat.ofNat n):Int))=J (aQ ai):=RK h
@[go_sem high] def aDK(h:a<=OfNat.ofNat n):bn hf (ba k (a:Int)) (ba k (no_index (OfNat.ofNat n):Int))=J (aQ av):=RJ h
@[go_sem] def aDG:bn hf (ba k (no_index (OfNat.ofNat n):Int)) (ba k (b:Int))=J (aQ (decide (b<OfNat.ofNat n))):=Mp
@[go_sem high] def aDI(h:b<OfNat.ofNat n):bn hf (ba k (no_index (OfNat.ofNat n):Int)) (ba k (b:Int))=J (aQ ai):=RK h
@[go_sem high] def aDH(h:OfNat.ofNat n<=b):bn hf (ba k (no_index (OfNat.ofNat n):Int)) (ba k (b:Int))=J (aQ av):=RJ h
@[go_sem] def L':bn h0 (ba k (a:Int)) (ba k (b:Int))=J (aQ (decide (b<=a))):=by simp[bn]
@[go_sem high] def Ru(h:b<=a):bn h0 (ba k (a:Int)) (ba k (b:Int))=J (aQ ai):=by rw[L',j7 h]
@[go_sem high] def Rt(h:a<b):bn h0 (ba k (a:Int)) (ba k (b:Int))=J (aQ av):=by rw[L',ig (Nat.not_le.2 h)]
@[go_sem] def aDx:bn h0 (ba k (a:Int)) (ba k (no_index (OfNat.ofNat n):Int))=J (aQ (decide (OfNat.ofNat n<=a))):=L'
@[go_sem high] def aDz(h:OfNat.ofNat n<=a):bn h0 (ba k (a:Int)) (ba k (no_index (OfNat.ofNat n):Int))=J (aQ ai):=Ru h
@[go_sem high] def aDy(h:a<OfNat.ofNat n):bn h0 (ba k (a:Int)) (ba k (no_index (OfNat.ofNat n):Int))=J (aQ av):=Rt h
@[go_sem] def aDu:bn h0 (ba k (no_index (OfNat.ofNat n):Int)) (ba k (b:Int))=J (aQ (decide (b<=OfNat.ofNat n))):=L'
@[go_sem high] def aDw(h:b<=OfNat.ofNat n):bn h0 (ba k (no_index (OfNat.ofNat n):Int)) (ba k (b:Int))=J (aQ ai):=Ru h
@[go_sem high] def aDv(h:OfNat.ofNat n<b):bn h0 (ba k (no_index (OfNat.ofNat n):Int)) (ba k (b:Int))=J (aQ av):=Rt h
@[go_sem] def LU:bn cQ (ba k (a:Int)) (ba k (b:Int))=J (aQ (decide (a=b))):=by
 simp only[bn,eqV,ei,jl,dg,Wz];grind
@[go_sem high] def Q3(h:a=b):bn cQ (ba k (a:Int)) (ba k (b:Int))=J (aQ ai):=by rw[LU,j7 h]
@[go_sem high] def Q2(h:a≠b):bn cQ (ba k (a:Int)) (ba k (b:Int))=J (aQ av):=by rw[LU,ig (h)]
@[go_sem] def apP:bn cQ (ba k (a:Int)) (ba k (no_index (OfNat.ofNat n):Int))=J (aQ (decide (a=OfNat.ofNat n))):=LU
@[go_sem high] def aDk(h:a=OfNat.ofNat n):bn cQ (ba k (a:Int)) (ba k (no_index (OfNat.ofNat n):Int))=J (aQ ai):=Q3 h
@[go_sem high] def aDj(h:a≠OfNat.ofNat n):bn cQ (ba k (a:Int)) (ba k (no_index (OfNat.ofNat n):Int))=J (aQ av):=Q2 h
@[go_sem] def aDg:bn cQ (ba k (no_index (OfNat.ofNat n):Int)) (ba k (b:Int))=J (aQ (decide (OfNat.ofNat n=b))):=LU
@[go_sem high] def aDi(h:OfNat.ofNat n=b):bn cQ (ba k (no_index (OfNat.ofNat n):Int)) (ba k (b:Int))=J (aQ ai):=Q3 h
@[go_sem high] def aDh(h:OfNat.ofNat n≠b):bn cQ (ba k (no_index (OfNat.ofNat n):Int)) (ba k (b:Int))=J (aQ av):=Q2 h
@[go_sem] def Uy:bn hF (ba k (a:Int)) (ba k (b:Int))=J (aQ (decide (¬a=b))):=by
 simp only[bn,eqV,ei,jl,dg,Wz];grind
@[go_sem high] def aeF(h:a≠b):bn hF (ba k (a:Int)) (ba k (b:Int))=J (aQ ai):=by rw[Uy,j7 h]
@[go_sem high] def aeE(h:a=b):bn hF (ba k (a:Int)) (ba k (b:Int))=J (aQ av):=by rw[Uy,ig (λe=>e h)]
@[go_sem] def aGn:bn hF (ba k (a:Int)) (ba k (no_index (OfNat.ofNat n):Int))=J (aQ (decide (¬a=OfNat.ofNat n))):=Uy
@[go_sem high] def aGp(h:a≠OfNat.ofNat n):bn hF (ba k (a:Int)) (ba k (no_index (OfNat.ofNat n):Int))=J (aQ ai):=aeF h
@[go_sem high] def aGo(h:a=OfNat.ofNat n):bn hF (ba k (a:Int)) (ba k (no_index (OfNat.ofNat n):Int))=J (aQ av):=aeE h
@[go_sem high] def aFW(h:(OfNat.ofNat a:Nat)<OfNat.ofNat b):bn fG (ba k (no_index (OfNat.ofNat a):Int)) (ba k (no_index (OfNat.ofNat b):Int))=J (aQ ai):=Ud h
@[go_sem high] def aFV(h:OfNat.ofNat b<=(OfNat.ofNat a:Nat)):bn fG (ba k (no_index (OfNat.ofNat a):Int)) (ba k (no_index (OfNat.ofNat b):Int))=J (aQ av):=NN h
@[go_sem high] def aFK(h:(OfNat.ofNat a:Nat)<=OfNat.ofNat b):bn .leq (ba k (no_index (OfNat.ofNat a):Int)) (ba k (no_index (OfNat.ofNat b):Int))=J (aQ ai):=T6 h
@[go_sem high] def aFJ(h:OfNat.ofNat b<(OfNat.ofNat a:Nat)):bn .leq (ba k (no_index (OfNat.ofNat a):Int)) (ba k (no_index (OfNat.ofNat b):Int))=J (aQ av):=T5 h
@[go_sem high] def aDF(h:OfNat.ofNat b<(OfNat.ofNat a:Nat)):bn hf (ba k (no_index (OfNat.ofNat a):Int)) (ba k (no_index (OfNat.ofNat b):Int))=J (aQ ai):=RK h
@[go_sem high] def aDE(h:(OfNat.ofNat a:Nat)<=OfNat.ofNat b):bn hf (ba k (no_index (OfNat.ofNat a):Int)) (ba k (no_index (OfNat.ofNat b):Int))=J (aQ av):=RJ h
@[go_sem high] def aDt(h:OfNat.ofNat b<=(OfNat.ofNat a:Nat)):bn h0 (ba k (no_index (OfNat.ofNat a):Int)) (ba k (no_index (OfNat.ofNat b):Int))=J (aQ ai):=Ru h
@[go_sem high] def aDs(h:(OfNat.ofNat a:Nat)<OfNat.ofNat b):bn h0 (ba k (no_index (OfNat.ofNat a):Int)) (ba k (no_index (OfNat.ofNat b):Int))=J (aQ av):=Rt h
@[go_sem high] def aDf(h:(OfNat.ofNat a:Nat)=OfNat.ofNat b):bn cQ (ba k (no_index (OfNat.ofNat a):Int)) (ba k (no_index (OfNat.ofNat b):Int))=J (aQ ai):=Q3 h
@[go_sem high] def aDe(h:(OfNat.ofNat a:Nat)≠OfNat.ofNat b):bn cQ (ba k (no_index (OfNat.ofNat a):Int)) (ba k (no_index (OfNat.ofNat b):Int))=J (aQ av):=Q2 h
@[go_sem high] def aGm(h:(OfNat.ofNat a:Nat)≠OfNat.ofNat b):bn hF (ba k (no_index (OfNat.ofNat a):Int)) (ba k (no_index (OfNat.ofNat b):Int))=J (aQ ai):=aeF h
@[go_sem high] def aGl(h:(OfNat.ofNat a:Nat)=OfNat.ofNat b):bn hF (ba k (no_index (OfNat.ofNat a):Int)) (ba k (no_index (OfNat.ofNat b):Int))=J (aQ av):=aeE h
@[go_sem] def awx:bn fG (ba .i64 (-1)) (ba .i64 0)=J (aQ ai):=by simp[bn]
@[go_sem] def aGL(h:OfNat.ofNat n<=a)(h':a<256):bn .sub (ba .u8 (a:Int)) (ba .u8 (no_index (OfNat.ofNat n):Int))=J (ba .u8 ((a-OfNat.ofNat n:Nat):Int)):=by
 have e:∀m:Nat,m<=a->bn .sub (ba .u8 (a:Int)) (ba .u8 (m:Int))=J (ba .u8 ((a-m:Nat):Int)):=λm hm=>by
  simp only[bn,ei];congr 2;simp only[aBJ];omega
 exact e _ h
@[go_sem] def Zl(h:a<9223372036854775808):ci .i64 (ba k (a:Int))=J (ba .i64 (a:Int)):=by
 simp only[ci];congr 2;simp only[jv];omega
@[go_sem] def aoX(h:a<2147483648):ci .i32 (ba k (a:Int))=J (ba .i32 (a:Int)):=by
 simp only[ci];congr 2;simp only[IntKind.wrap_i32];omega
@[go_sem] def Hv(h:a<18446744073709551616):ci .u64 (ba k (a:Int))=J (ba .u64 (a:Int)):=by
 simp only[ci];congr 2;simp[IntKind.wrap,IntKind.bits,IntKind.signed];omega
@[go_sem] def aoY(h:a<256):ci .u8 (ba k (a:Int))=J (ba .u8 (a:Int)):=by
 simp only[ci];congr 2;simp only[aBJ];omega
@[go_sem] def aGF(h:a<576460752303423488):bn .shl (ba .i64 (a:Int)) (ba .u64 4)=J (ba .i64 ((a*16:Nat):Int)):=by
 simp[bn,IntKind.bits];simp only[jv];omega
end
@[go_sem] def aFT:q3 (S l)=J (ba .i64 (U l:Int)):=by simp[q3,S,ByteArray.size]
@[go_sem] def m3{l:B}{i:Nat}(h:i<l.length):ixs (S l) (.int k (i:Int))=J (.int .u8 (g l i:Int)):=by
 have e:(ByteArray.mk l.toArray)[i]?=J l[i]:=by
  have aL:i<(ByteArray.mk l.toArray).size:=by simpa[ByteArray.size] using h
  rw[getElem?_pos (ByteArray.mk l.toArray) i aL];rfl
 simp[ixs,S,e,g,h]
def VA(aa:i<=j)(ad:j<=l.length)(xX:br=J (.int .i64 (i:Int))\/(br=ab/\i=0))(SH:az=J (.int .i64 (j:Int))\/(az=ab/\j=l.length)):sls (S l) br az=J (S ((l.take j).drop i)):=by
 have ar:ub (ByteArray.mk l.toArray).size az (ByteArray.mk l.toArray).size=J j:=by
  rcases SH with rfl|⟨rfl,rfl⟩
  .simp[ub,ByteArray.size];omega
  .simp[ub,ByteArray.size]
 have aw:ub j br 0=J i:=by
  rcases xX with rfl|⟨rfl,rfl⟩
  .simp[ub];omega
  .simp[ub]
 simp only[sls,S,ar,aw];congr 2
 apply ByteArray.ext;simp[ByteArray.data_extract,BW]
@[go_sem] def OC{l:B}(aa:i<=j)(ad:j<=U l):sls (S l) (J (ba .i64 (i:Int))) (J (ba .i64 (j:Int)))=J (S (ax i (bf j l))):=VA aa ad (bF rfl) (bF rfl)
@[go_sem] def zL{l:B}(h:i<=U l):sls (S l) (J (ba .i64 (i:Int))) ab=J (S (ax i l)):=by
 rw[VA (j:=U l) h (bQ _) (bF rfl) (bt ⟨rfl,rfl⟩),O5]
@[go_sem] def DI{l:B}(h:j<=U l):sls (S l) ab (J (ba .i64 (j:Int)))=J (S (bf j l)):=by
 rw[VA (i:=0) (ed _) h (bt ⟨rfl,rfl⟩) (bF rfl),Ky]
def aoW:((no_index (OfNat.ofNat n:Nat):Nat):Int)=OfNat.ofNat n:=rfl
@[go_sem] def aCz:Value.string (ByteArray.mk (List.toArray l))=S l:=rfl
attribute [go_sem] ahK decide_false not_true_eq_false not_false_eq_true nS tK tM Nat.reduceAdd aoW
@[go_sem] def LS:bn cQ (S a) (S b)=J (aQ (decide (a=b))):=by
 simp only[bn,eqV,S,jl,dg,Wz,aBH];grind
@[go_sem] def aGk:bn hF (S a) (S b)=J (aQ (decide (¬a=b))):=by
 simp only[bn,eqV,S,jl,dg,Wz,aBH];grind
@[go_sem] def Hb(h:U a+U b<=1099511627776):bn .add (S a) (S b)=J (S (a++b)):=by
 simp only[bn,S];rw[aA (by simpa[ByteArray.size] using h)];congr 2
def aR{p q:Prop}(h:q)(e:p=q:=by conv=>lhs;(simp-implicitDefEqProofs+contextual (disch:=omega) only[go_sem];try simp only[p7,p9,p4,p2,p3,p1,p0,pZ,p5])):p:=e▸h
def bG{a p q:Prop}(x:a)(h:q)(e:a->p=q:=by intro x;conv=>lhs;(simp-implicitDefEqProofs+contextual (disch:=omega) only[go_sem,x];try simp only[p7,p9,p4,p2,p3,p1,p0,pZ,p5])):p:=(e x)▸h
def dG{a b p q:Prop}(x:a)(y:b)(h:q)(e:a->b->p=q:=by intro x y;conv=>lhs;(simp-implicitDefEqProofs+contextual (disch:=omega) only[go_sem,x,y];try simp only[p7,p9,p4,p2,p3,p1,p0,pZ,p5])):p:=(e x y)▸h
def hk{a b c p q:Prop}(x:a)(y:b)(z:c)(h:q)(e:a->b->c->p=q:=by intro x y z;conv=>lhs;(simp-implicitDefEqProofs+contextual (disch:=omega) only[go_sem,x,y,z];try simp only[p7,p9,p4,p2,p3,p1,p0,pZ,p5])):p:=(e x y z)▸h
def i_{a b c d p q:Prop}(x:a)(y:b)(z:c)(u:d)(h:q)(e:a->b->c->d->p=q:=by intro x y z u;conv=>lhs;(simp-implicitDefEqProofs+contextual (disch:=omega) only[go_sem,x,y,z,u];try simp only[p7,p9,p4,p2,p3,p1,p0,pZ,p5])):p:=(e x y z u)▸h
def vE{a b c d f p q:Prop}(x:a)(y:b)(z:c)(u:d)(v:f)(h:q)(e:a->b->c->d->f->p=q:=by intro x y z u v;conv=>lhs;(simp-implicitDefEqProofs+contextual (disch:=omega) only[go_sem,x,y,z,u,v];try simp only[p7,p9,p4,p2,p3,p1,p0,pZ,p5])):p:=(e x y z u v)▸h
def DZ{a b c d f g p q:Prop}(x:a)(y:b)(z:c)(u:d)(v:f)(w:g)(h:q)(e:a->b->c->d->f->g->p=q:=by intro x y z u v w;conv=>lhs;(simp-implicitDefEqProofs+contextual (disch:=omega) only[go_sem,x,y,z,u,v,w];try simp only[p7,p9,p4,p2,p3,p1,p0,pZ,p5])):p:=(e x y z u v w)▸h
def xb{a b c d f g bx bH p q:Prop}(x:a)(y:b)(z:c)(u:d)(v:f)(w:g)(b_:bx)(cp:bH)(h:q)(e:a->b->c->d->f->g->bx->bH->p=q:=by intro x y z u v w b_ cp;conv=>lhs;(simp-implicitDefEqProofs+contextual (disch:=omega) only[go_sem,x,y,z,u,v,w,b_,cp];try simp only[p7,p9,p4,p2,p3,p1,p0,pZ,p5])):p:=(e x y z u v w b_ cp)▸h
def ag8{a b c d f g bx bH cq dT e3 hJ p q:Prop}(x:a)(y:b)(z:c)(u:d)(v:f)(w:g)(b_:bx)(cp:bH)(fB:cq)(hx:dT)(r6:e3)(D0:hJ)(h:q)(e:a->b->c->d->f->g->bx->bH->cq->dT->e3->hJ->p=q:=by intro x y z u v w b_ cp fB hx r6 D0;conv=>lhs;(simp-implicitDefEqProofs+contextual (disch:=omega) only[go_sem,x,y,z,u,v,w,b_,cp,fB,hx,r6,D0];try simp only[p7,p9,p4,p2,p3,p1,p0,pZ,p5])):p:=(e x y z u v w b_ cp fB hx r6 D0)▸h
def ag9{a b c d f g bx bH cq dT e3 hJ lo px rz dk p q:Prop}(x:a)(y:b)(z:c)(u:d)(v:f)(w:g)(b_:bx)(cp:bH)(fB:cq)(hx:dT)(r6:e3)(D0:hJ)(Wb:lo)(Wc:px)(Wd:rz)(mP:dk)(h:q)(e:a->b->c->d->f->g->bx->bH->cq->dT->e3->hJ->lo->px->rz->dk->p=q:=by intro x y z u v w b_ cp fB hx r6 D0 Wb Wc Wd mP;conv=>lhs;(simp-implicitDefEqProofs+contextual (disch:=omega) only[go_sem,x,y,z,u,v,w,b_,cp,fB,hx,r6,D0,Wb,Wc,Wd,mP];try simp only[p7,p9,p4,p2,p3,p1,p0,pZ,p5])):p:=(e x y z u v w b_ cp fB hx r6 D0 Wb Wc Wd mP)▸h
def ys{p q:Prop}(h:q)(e:p=q:=by conv=>lhs;(simp-implicitDefEqProofs+contextual (disch:=(first|omega|with_unfolding_all exact id rfl|with_unfolding_all exact id (lK rfl))) only[go_sem];try simp only[p7,p9,p4,p2,p3,p1,p0,pZ,p5])):p:=e▸h
def uI{a p q:Prop}(x:a)(h:q)(e:a->p=q:=by intro x;conv=>lhs;(simp-implicitDefEqProofs+contextual (disch:=(first|omega|with_unfolding_all exact id rfl|with_unfolding_all exact id (lK rfl))) only[go_sem,x];try simp only[p7,p9,p4,p2,p3,p1,p0,pZ,p5])):p:=(e x)▸h
def aha{a b p q:Prop}(x:a)(y:b)(h:q)(e:a->b->p=q:=by intro x y;conv=>lhs;(simp-implicitDefEqProofs+contextual (disch:=(first|omega|with_unfolding_all exact id rfl|with_unfolding_all exact id (lK rfl))) only[go_sem,x,y];try simp only[p7,p9,p4,p2,p3,p1,p0,pZ,p5])):p:=(e x y)▸h
def Gw{a b c p q:Prop}(x:a)(y:b)(z:c)(h:q)(e:a->b->c->p=q:=by intro x y z;conv=>lhs;(simp-implicitDefEqProofs+contextual (disch:=(first|omega|with_unfolding_all exact id rfl|with_unfolding_all exact id (lK rfl))) only[go_sem,x,y,z];try simp only[p7,p9,p4,p2,p3,p1,p0,pZ,p5])):p:=(e x y z)▸h
def Wa{a b c d f g p q:Prop}(x:a)(y:b)(z:c)(u:d)(v:f)(w:g)(h:q)(e:a->b->c->d->f->g->p=q:=by intro x y z u v w;conv=>lhs;(simp-implicitDefEqProofs+contextual (disch:=(first|omega|with_unfolding_all exact id rfl|with_unfolding_all exact id (lK rfl))) only[go_sem,x,y,z,u,v,w];try simp only[p7,p9,p4,p2,p3,p1,p0,pZ,p5])):p:=(e x y z u v w)▸h
def V9{a p q:Prop}(x:a)(h:q)(e:a->p=q:=by intro x;conv=>lhs;(simp-implicitDefEqProofs+contextual (disch:=(first|omega|with_unfolding_all exact id rfl|with_unfolding_all exact id (lK rfl))) only[go_sem,↓x];try simp only[p7,p9,p4,p2,p3,p1,p0,pZ,p5])):p:=(e x)▸h
def DY{a b c p q:Prop}(x:a)(y:b)(z:c)(h:q)(e:a->b->c->p=q:=by intro x y z;conv=>lhs;(simp-implicitDefEqProofs+contextual (disch:=(first|omega|with_unfolding_all exact id rfl|with_unfolding_all exact id (lK rfl))) only[go_sem,↓x,y,z];try simp only[p7,p9,p4,p2,p3,p1,p0,pZ,p5])):p:=(e x y z)▸h
def c8{p q:Prop}(h:q)(e:p=q:=by conv=>lhs;simp only[p7,p9,p4,p2,p3,p1,p0,pZ,p5]):p:=e▸h
def c4{b:Nat}{h:H}{c:Array ao}{t:Nat}{b3:Nat×Nat}(af:h[b]?=J (aO c t b3))⦃o:Nat⦄⦃k:K⦄:cd (bU (J ⟨b,o,ab⟩)) h k=Pu c[o]? h k:=fs af
abbrev _root_.Go.Value.i(n:Int):ao:=ba .i64 n
abbrev ah(n:Int):ao:=ba .i64 n
abbrev _root_.Go.Value.u(n:Int):ao:=ba .u64 n
abbrev a4(n:Int):ao:=ba .u64 n
abbrev _root_.Go.Value.b(n:Int):ao:=ba .u8 n
abbrev bu(n:Int):ao:=ba .u8 n
abbrev _root_.Go.Value.j(n:Int):ao:=ba .i32 n
abbrev dc(n:Int):ao:=ba .i32 n
end
def a3(h:H)(p:Nat)(D:B)(t:Nat)(i sd:Nat):H:=dy h p (aO #[S D,ah i,ah sd] t)
section
variable{h:H}{p t i j sd n:Nat}{D:B}{k R:K}
def qS(aJ:p<ag h):(a3 h p D t i sd)[p]?=J (aO #[S D,ah (i:Int),ah (sd:Int)] t):=by simp[a3,aJ]
@[go_sem↓] def aCo(aJ:p<ag h):cd (bU (J ⟨p,0,ab⟩)) (a3 h p D t i sd) k=k (S D) (a3 h p D t i sd):=by rw[fs (qS aJ)];rfl
@[go_sem↓] def aCp(aJ:p<ag h):cd (bU (J ⟨p,1,ab⟩)) (a3 h p D t i sd) k=k (ah (i:Int)) (a3 h p D t i sd):=by rw[fs (qS aJ)];rfl
@[go_sem↓] def aCq(aJ:p<ag h):cd (bU (J ⟨p,2,ab⟩)) (a3 h p D t i sd) k=k (ah (sd:Int)) (a3 h p D t i sd):=by rw[fs (qS aJ)];rfl
@[go_sem↓] def aCA(aJ:p<ag h):bZ 1 (bU (J ⟨p,1,ab⟩)) (ah (j:Int)) (a3 h p D t i sd) k=k undef (a3 h p D t j sd):=by
 simp[bZ,qS aJ,cellsL,ones,one,ht];simp[a3,set_set]
@[go_sem↓] def anS(aJ:p<ag h):bZ 1 (bU (J ⟨p,2,ab⟩)) (ah (j:Int)) (a3 h p D t i sd) k=k undef (a3 h p D t i j):=by
 simp[bZ,qS aJ,cellsL,ones,one,ht];simp[a3,set_set]
@[go_sem↓] def aCB(aJ:p<ag h):bZ 1 (bU (J ⟨p,2,ab⟩)) (ah (no_index (OfNat.ofNat n):Int)) (a3 h p D t i sd) k=k undef (a3 h p D t i (OfNat.ofNat n)):=anS aJ
def j8(aJ:p<ag h)(bq:sd=0->R (aQ ai) (a3 h p D t i sd))(bw:¬sd=0->R (aQ av) (a3 h p D t i sd)):bo 12 [aN p] (a3 h p D t i sd) R:=by
 apply akx;refine aR ?_;grind
def KM(aJ:p<ag h)(aM:U D<=400)(az:i<=U D+1)(aI:n<=1000)(q:R (bu (g D (i+n):Int)) (a3 h p D t i sd)):bo 14 [aN p,ah (n:Int)] (a3 h p D t i sd) R:=by
 apply akR;refine aR ?_;refine⟨λ_=>q,λaI=>?_⟩;have:g D (i+n)=0:=by unfold g;simp_all
 grind
def hn(aJ:p<ag h)(aM:U D<=400)(az:i<=U D+1)(q:R (bu (g D i:Int)) (a3 h p D t i sd)):bo 14 [aN p,ah 0] (a3 h p D t i sd) R:=KM (n:=0) aJ aM az I q
def B6(aJ:p<ag h)(bq:U D<=i->R (aQ ai) (a3 h p D t i sd))(bw:i<U D->R (aQ av) (a3 h p D t i sd)):bo 15 [aN p] (a3 h p D t i sd) R:=by
 apply ak2;refine aR ?_;grind
def iK(aJ:p<ag h)(q:R (bA #[]) (a3 h p D t (U D) (if sd=0 then n else sd))):bo 21 [aN p,ah (n:Int)] (a3 h p D t i sd) R:=by
 apply alS;refine yJ ?_;refine aR ?_;grind
def sU(aJ:p<ag h)(aM:U D<=400)(az:i<=U D)(hu:U u<=100)(bq:u<+:ax i D->R (aQ ai) (a3 h p D t i sd))(bw:¬u<+:ax i D->R (aQ av) (a3 h p D t i sd)):bo 11 [aN p,S u] (a3 h p D t i sd) R:=by
 apply ako;refine aR ?_;have ae:ax i (bf (i+U u) D)=(ax i D).take (U u):=al
 rw[ae];have FG:u<+:ax i D↔(ax i D).take (U u)=u:=by rw[List.prefix_iff_eq_take];grind
 grind
def blanks:B->B
 |[]=>[]
 |c::l=>if c.toNat=32\/c.toNat=9 then blanks l else c::l
def nt(h:i<U D):ax i D=D[i]::ax (i+1) D:=tJ h
def fu(h:i<U D):g D i=(D[i]).toNat:=by simp[g,h]
def cu{D:B}{i:Nat}(h:g D i≠0):i<U D:=by
 rcases jw i (U D) with h'|h'
 .exact h'
 .exact absurd (by simp[g,Wp h']) h
def Qk(h:g D i=32\/g D i=9):blanks (ax i D)=blanks (ax (i+1) D):=by
 have au:=cu (D:=D) (i:=i) I;rw[fu au] at h;rw[nt au,blanks,aA h]
def Qj(aa:g D i≠32)(ad:g D i≠9):blanks (ax i D)=ax i D:=by
 rcases jw i (U D) with au|au
 .rw[fu au] at aa ad;rw[nt au,blanks,ak I]
 .rw[iu au];rfl
def sa(aJ:p<ag h)(aM:U D<=400)(az:i<=U D)(q:∀j,i<=j->j<=U D->ax j D=blanks (ax i D)->R (bA #[]) (a3 h p D t j sd)):bo 13 [aN p] (a3 h p D t i sd) R:=by
 apply akH;refine sX (λm h'=>∃j,i<=j/\j<=U D/\blanks (ax j D)=blanks (ax i D)/\h'=a3 h p D t j sd/\m=U D-j) (U D-i) ⟨i,bQ _,az,rfl,rfl,rfl⟩ ?_;rintro m d h' N ⟨j,eK,aC,af,rfl,rfl⟩ a7;refine hn aJ aM I ?_;have step:(g D j=32\/g D j=9)->N (a3 h p D t (j+1) sd):=λay=>
  have au:=cu (D:=D) (i:=j) I;a7 (U D-(j+1)) _ I ⟨j+1,I,I,by rw[<-Qk ay];exact af,rfl,rfl⟩
 refine aR ?_;refine⟨λaa=>step (bF aa),λaa=>hn aJ aM I ?_⟩;refine aR ?_;refine⟨λad=>step (bt ad),λad=>?_⟩;exact q j eK aC (by rw[<-af,Qj aa ad])
end
inductive eW(α:Type)|ok(a:α)(l:B)|no(c:Nat)
def top(l:B):Nat:=(l.headD 0).toNat
def eF:top (ax i D)=g D i:=by
 simp only[top,g,List.headD_eq_head?_getD,List.head?_drop,iw]
def o3(l:B):Option B:=if top l=10 then J l.tail else if[13,10]<+:l then J (ax 2 l) else ab
def jN(c:Nat):Prop:=(97<=c/\c<=122)\/(65<=c/\c<=90)\/(48<=c/\c<=57)\/c=95\/c=45
instance(c:Nat):Decidable (jN c):=by unfold jN;infer_instance
def fQ(c:Nat):Option Nat:=if 48<=c/\c<=57 then J (c-48) else if 97<=c/\c<=102 then J (c-97+10) else if 65<=c/\c<=70 then J (c-65+10) else ab
def hexN:Nat->Nat->B->eW Nat
 |0,v,l=>.ok v l
 |n+1,v,l=>match fQ (top l) with
  |some d=>hexN n (v*16+d) l.tail
  |none=>.no 1
def xx(b:ByteArray):B:=bC b.data
def enc(n:Nat):B:=xx (Utf8.encode n)
def escape(l:B):eW B:=
 let c:=top l
 if c=98 then .ok [8] l.tail else if c=116 then .ok [9] l.tail else if c=110 then .ok [10] l.tail else if c=102 then .ok [12] l.tail else if c=114 then .ok [13] l.tail
 else if c=34 then .ok [34] l.tail else if c=92 then .ok [92] l.tail
 else if c=117\/c=85 then match hexN (if c=85 then 8 else 4) 0 l.tail with
  | .ok v r=>if 1114111<v\/(55296<=v/\v<=57343) then .no 1 else .ok (enc v) r
  | .no c=>.no c
 else if c=101\/c=120 then .no 2 else .no 1
def comLoop:B->eW Unit
 |[]=>.ok () []
 |c::l=>if c.toNat=10 then .ok () (c::l) else if[13,10]<+:c::l then .ok () (c::l) else if c.toNat<32/\c.toNat≠9 then .no 1 else if c.toNat=127 then .no 2 else comLoop l
def comment(l:B):eW Unit:=if top l≠35 then .ok () l else comLoop l
def space:Nat->B->eW Unit
 |0,l=>.ok () l
 |n+1,l=>match comment (blanks l) with
  | .no c=>.no c
  | .ok _ l=>match o3 l with
   |none=>.ok () l
   |some l=>space n l
def wL:Nat->B->B
 |0,l=>l
 |n+1,l=>match o3 (blanks l) with
  |none=>blanks l
  |some l=>wL n l
def zu(l:B):Option B:=match o3 (blanks l) with
 |none=>ab
 |some l=>J (wL (U l) l)
def RQ{α:Type}(res:eW α)(e:α->ao)(Dm:ao->Prop)(D:B)(mk:Nat->Nat->H)(R:K):Prop:=match res with
 | .ok a l=>∀j,j<=U D->ax j D=l->R (e a) (mk j 0)
 | .no c=>c≠0->∀v,Dm v->R v (mk (U D) c)
def wM(v:ao):Prop:=∃s,v=S s/\U s<=400
def ads(v:ao):Prop:=v=bA #[]
def Hx(au:j<U D):comLoop (ax j D)=if g D j=10 then .ok () (ax j D) else if[13,10]<+:ax j D then .ok () (ax j D) else if g D j<32/\g D j≠9 then .no 1 else if g D j=127 then .no 2 else comLoop (ax (j+1) D):=by
 rw[nt au,comLoop,fu au]
section
variable{h:H}{p t i j sd n:Nat}{D:B}{k R:K}
def tail_drop:(ax i D).tail=ax (i+1) D:=a1
def Ef(aJ:p<ag h)(aM:U D<=400)(az:i<=U D)(bq:∀j,i<j->j<=U D->o3 (ax i D)=J (ax j D)->R (aQ ai) (a3 h p D t j sd))(bw:o3 (ax i D)=ab->R (aQ av) (a3 h p D t i sd)):bo 20 [aN p] (a3 h p D t i sd) R:=by
 apply alN;refine hn aJ aM I ?_;refine aR ?_;refine⟨λaa=>?_,λaa=>sU aJ aM az a1 (λad=>?_) (λad=>?_)⟩
 .have:=cu (D:=D) (i:=i) I;exact bq _ I I (by simp[o3,eF,aa])
 .refine aR ?_;have au:=ad.length_le;simp at au;exact bq _ I I (by simp[o3,eF,aa,ad])
 .refine aR ?_;exact bw (by simp[o3,eF,aa,ad])
def W_(aJ:p<ag h)(aM:U D<=400)(az:i<=U D)(q:RQ (comment (ax i D)) (λ_=>bA #[]) ads D (a3 h p D t) R):bo 18 [aN p] (a3 h p D t i 0) R:=by
 apply XN;refine hn aJ aM I ?_;refine aR ?_;refine⟨λaa=>?_,λaa=>?_⟩
 .simp only[comment,eF,ne_eq,aa,not_false_eq_true,ei,RQ] at q;grind
 .have bP:comment (ax i D)=comLoop (ax i D):=by simp[comment,eF,aa]
  rw[bP] at q;refine sX (λm h'=>∃j,i<=j/\j<=U D/\comLoop (ax j D)=comLoop (ax i D)/\h'=a3 h p D t j 0/\m=U D-j) (U D-i) ⟨i,bQ _,az,rfl,rfl,rfl⟩ ?_;rintro m d h' N ⟨j,eK,aC,af,rfl,rfl⟩ a7;rw[<-af] at q;refine B6 aJ (λad=>?_) (λad=>?_)
  .refine aR ?_;rw[iu ad,comLoop] at q;exact q j aC (iu ad)
  .rw[Hx ad] at q af;refine aR ?_;refine hn aJ aM I ?_;refine aR ?_;refine⟨λan=>sU aJ aM aC a1 (λaT=>?_) (λaT=>?_),λan=>?_⟩
   .refine aR ?_;rw[ak an,aA aT] at q;exact q j aC rfl
   .rw[ak an,ak aT] at q af;refine aR ?_;refine hn aJ aM I ?_;have azE:g D j<32/\g D j≠9->bD 21 [aN p,ah 1] (a3 h p D t j 0) λ_ h=>R (bA #[]) h:=λay=>by
     rw[aA ay] at q;exact iK (n:=1) aJ (q I _ rfl)
    have go:¬(g D j<32/\g D j≠9)->g D j≠127->N (a3 h p D t (j+1) 0):=λay bN=>by
     rw[ak ay,ak bN] at af;exact a7 (U D-(j+1)) _ I ⟨j+1,I,I,af,rfl,rfl⟩
    have azF:g D j=127->bD 21 [aN p,ah 2] (a3 h p D t j 0) λ_ h=>R (bA #[]) h:=λay=>by
     rw[ak I,aA ay] at q;exact iK (n:=2) aJ (q I _ rfl)
    refine aR ?_;refine⟨λbN=>⟨λcB=>azE ⟨bN,cB⟩,λcB=>go I I⟩,λbN=>⟨λcB=>azF cB,λcB=>go I cB⟩⟩
   .rw[aA I] at q;exact q j aC rfl
end
def Zw:∀{l r:B} {u:Unit},comLoop l=.ok u r->U r<=U l
 |[],r,u,h=>by simp only[comLoop,eW.ok.injEq] at h;grind
 |c::l,r,u,h=>by
  rw[comLoop] at h;split at h
  .grind
  .split at h
   .grind
   .split at h
    .cases h
    .split at h
     .cases h
     .exact Nat.le_succ_of_le (Zw h)
def QA(h:comment l=.ok u r):U r<=U l:=by
 unfold comment at h;split at h
 .grind
 .exact Zw h
def apo{D:B}(aC:j<=U D)(az:i<=U D)(h:U (ax j D)<=U (ax i D)):i<=j:=al
section
variable{h:H}{p t i j sd n c:Nat}{D:B}{k R:K}
def ajy(aJ:p<ag h)(aL:sd≠0)(q:R (bA #[]) (a3 h p D t i sd)):bo 62 [aN p] (a3 h p D t i sd) R:=by
 apply XS;refine sX (λm h'=>h'=a3 h p D t i sd) 0 rfl ?_;rintro m d h' N rfl a7;exact j8 aJ (λe=>absurd e aL) λ_=>by refine aR ?_;exact q
def Xn(aJ:p<ag h)(aM:U D<=400)(az:i<=U D)(aI:U D-i<n)(q:RQ (space n (ax i D)) (λ_=>bA #[]) ads D (a3 h p D t) R):bo 62 [aN p] (a3 h p D t i 0) R:=by
 apply XS;refine sX (λm h'=>∃j di,j<=U D/\U D-j<di/\space di (ax j D)=space n (ax i D)/\h'=a3 h p D t j 0/\m=U D-j) (U D-i) ⟨i,n,az,aI,rfl,rfl,rfl⟩ ?_;rintro m d h' N ⟨j,di,aC,ma,af,rfl,rfl⟩ a7;rw[<-af] at q;obtain⟨di,rfl⟩:=tL (I:di≠0);rw[space] at q af;refine j8 aJ (λ_=>?_) (λe=>absurd rfl e);refine aR ?_;refine sa aJ aM aC λbS aa ad an=>?_;rw[<-an] at q af;refine W_ aJ aM ad ?_;cases ay:comment (ax bS D) with
 |no c=>
  rw[ay] at q;intro aT v aD;refine Ef aJ aM (bQ _) (λbc bN cB=>I) λ_=>?_;refine aR ?_;exact q aT _ rfl
 |ok u l=>
  rw[ay] at q af;intro bc aT bN;subst bN;simp only at q af;refine Ef aJ aM aT (λeL cB de hC=>?_) λhC=>?_
  .rw[hC] at q af;refine aR ?_;have:=apo aT ad (QA ay);exact a7 (U D-eL) _ I ⟨eL,di,de,I,af,rfl,rfl⟩
  .rw[hC] at q;refine aR ?_;exact q bc aT rfl
def Xi(bq:jN c->R (aQ ai) h)(bw:¬jN c->R (aQ av) h):bo 46 [bu (c:Int)] h R:=by
 apply amj;refine aR ?_;unfold jN at bq bw;grind
def Eb(ay:c<256)(bq:∀d,fQ c=J d->d<16->R (ah (d:Int)) h)(bw:fQ c=ab->R (ah (-1)) h):bo 122 [bu (c:Int)] h R:=by
 apply akA;refine aR ?_;unfold fQ at bq bw;repeat' first|refine And.intro ?_ ?_|intro _
 .grind
 .grind
 .grind
 .grind
 all_goals grind
def asU(h:fQ c=J d):d<16:=by
 unfold fQ at h;grind
def avU(v:ao):Prop:=v=ah 0
def ajM(aJ:p<ag h)(aM:U D<=400)(az:i<=U D)(aI:n<=8)(q:RQ (hexN n 0 (ax i D)) (λv=>ah (v:Int)) avU D (a3 h p D t) R):bo 85 [aN p,ah (n:Int)] (a3 h p D t i 0) R:=by
 apply amV;refine jn (λm v u h'=>∃(j x k:Nat),j<=U D/\k<=n/\x<16^k/\v=ah x/\u=ah k/\hexN (n-k) x (ax j D)=hexN n 0 (ax i D)/\h'=a3 h p D t j 0/\m=n-k) n ⟨i,0,0,az,ed _,aE,rfl,rfl,rfl,rfl,rfl⟩ ?_;rintro m d v u h' N ⟨j,x,k,aC,aq,ae,rfl,rfl,af,rfl,rfl⟩ a7;rw[<-af] at q;have Tw:x<4294967296:=cP ae (l4 (n:=16) aE (I:k<=8));refine aR ?_;refine⟨λaa=>?_,λaa=>?_⟩
 .refine hn aJ aM I ?_;obtain⟨e,he⟩:∃e,n-k=e+1:=⟨n-k-1,I⟩;rw[he,hexN,eF] at q af;refine Eb (dZ D j) (λv5 ad an=>?_) λad=>?_
  .rw[ad] at q af;have au:j<U D:=cu (by intro bP;rw[bP] at ad;simp[fQ] at ad);refine aR ?_;refine a7 e _ _ _ I ⟨j+1,x*16+v5,k+1,I,I,?_,rfl,rfl,?_,rfl,I⟩
   .omega
   .rw[(I:n-(k+1)=e),<-af,tail_drop]
  .rw[ad] at q;refine aR ?_;exact iK (n:=1) aJ (q I _ rfl)
 .have e:n-k=0:=I
  rw[e,hexN] at q;exact q j aC rfl
def aoZ(dq:IntKind)(n:Int):Au (ba dq n)=J (fo (Utf8.encode n)):=rfl
def anO(b:ByteArray):S (xx b)=fo b:=by cases b;simp[S,xx]
def anP(v:Nat):S (enc v)=fo (Utf8.encode (v:Int)):=anO _
@[go_sem] def ao0{v:Nat}:Au (ba dq (v:Int))=J (S (enc v)):=by rw[aoZ,anP]
@[go_sem] def aC2:Au (ba dq 0)=J (S (enc 0)):=ao0 (v:=0)
@[go_sem] def aC1:ci .i32 (ba dq 0)=J (dc 0):=aoX (a:=0) aE
def apJ(r:Int):U (xx (Utf8.encode r))<=4:=by
 unfold Utf8.encode;generalize (if Utf8.valid r=ai then r.toNat else Utf8.runeError)=c;dsimp only;by_cases aa:c<128
 .rw[aA aa];simp[xx]
 .rw[ak aa];by_cases ad:c<2048
  .rw[aA ad];simp[xx]
  .rw[ak ad];by_cases an:c<65536
   .rw[aA an];simp[xx]
   .rw[ak an];simp[xx]
def Q0(v:Nat):U (enc v)<=4:=apJ v
def Xm(aJ:p<ag h)(aM:U D<=400)(az:i<=U D)(q:RQ (escape (ax i D)) S wM D (a3 h p D t) R):bo 60 [aN p] (a3 h p D t i 0) R:=by
 apply amw;refine hn aJ aM I ?_;refine aR ?_;unfold escape at q;simp only[eF,tail_drop] at q;have F4:∀x,RQ (.ok x (ax (i+1) D)) S wM D (a3 h p D t) R->g D i≠0->R (S x) (a3 h p D t (i+1) 0):=λx q bk=>q (i+1) (cu bk) rfl;have F0:∀c ej,c≠0->RQ (.no c) S wM D (a3 h p D t) R->bD 21 [aN p,ah c] (a3 h p D t ej 0) λ_ h=>R (S []) h:=λc ej ay q=>iK aJ (q ay _ ⟨[],rfl,a1⟩);refine⟨λaa=>?_,λaa=>⟨λad=>?_,λad=>⟨λan=>?_,λan=>⟨λaT=>?_,λaT=>⟨λbN=>?_,λbN=>⟨λcB=>?_,λcB=>⟨λde=>?_,λde=>?_⟩⟩⟩⟩⟩⟩⟩
 .grind
 .grind
 .grind
 .grind
 .grind
 .grind
 .grind
 .rw[ak aa,ak ad,ak an,ak aT,ak bN,ak cB,ak de] at q;clear aa ad an aT bN cB de;refine lO ?_;have ab2:∀n:Nat,n<=8->n=(if g D i=85 then 8 else 4)->(g D i=117\/g D i=85)->bD 85 [aN p,ah n] (a3 h p D t (i+1) 0) λv20 h=>Pu (bn hf v20 (ah 1114111)) h λgC h=>
    a0 gC av (λh k=>k v20 h) h λf' h=>a0 gC av (Pu (bn h0 f' (ah 55296))) h λg2 h=>a0 gC av (λh k=>k g2 h) h λji h=>
    a0 ji ai (λh k=>k v20 h) h λhS h=>a0 ji ai (Pu (bn .leq hS (ah 57343))) h λjj h=>a0 gC av (Pu (pk ji jj (aQ av))) h λgT h=>
    Pu (pk gC (aQ ai) gT) h λjH h=>b1 jH (bD 21 [aN p,(ah 1)] h λmL h=>R (fo ⟨#[]⟩) h)<|
    Pu (ci .i32 v20) h λv30 h=>Pu (Au v30) h λj2 h=>R j2 h:=by
   intro n atT aI ay;have au:i<U D:=cu I;rw[aA ay,<-aI] at q;refine ajM aJ aM au atT ?_;cases ae:hexN n 0 (ax (i+1) D) with
   |no c=>
    rw[ae] at q;rintro ay v rfl;refine aR ?_;exact q ay _ ⟨_,rfl,dH (Q0 0) aE⟩
   |ok v r=>
    rw[ae] at q;intro j aC qX;simp only at q;have pK:(1114111<v\/55296<=v/\v<=57343)->bD 21 [aN p,ah 1] (a3 h p D t j 0) λ_ h=>R (S []) h:=λaD=>by
     grind
    have aGs:¬(1114111<v\/55296<=v/\v<=57343)->R (S (enc v)) (a3 h p D t j 0):=λaD=>by
     rw[ak aD] at q;exact q j aC qX
    refine aR ?_;grind
  have rest:¬(g D i=117\/g D i=85)->(g D i=101\/g D i=120->bD 21 [aN p,ah 2] (a3 h p D t (i+1) 0) λ_ h=>R (S []) h)/\(¬(g D i=101\/g D i=120)->bD 21 [aN p,ah 1] (a3 h p D t (i+1) 0) λ_ h=>R (S []) h):=λay=>by
   grind
  refine aR ?_;refine⟨λaw=>?_,λaw=>⟨λar=>?_,λar=>?_⟩⟩
  .refine lO ?_;refine aR ?_;exact ab2 4 aE al (bF aw)
  .refine lO ?_;refine aR ?_;exact ab2 8 aE al (bt ar)
  grind
def qt(l:B):Prop:=top l=35\/top l=10\/[13,10]<+:l
instance(l:B):Decidable (qt l):=by unfold qt;infer_instance
def KQ(aJ:p<ag h)(aM:U D<=400)(az:i<=U D)(bq:qt (ax i D)->R (bA #[]) (a3 h p D t (U D) (if sd=0 then 2 else sd))) (bw:¬qt (ax i D)->R (bA #[]) (a3 h p D t i sd)):bo 63 [aN p] (a3 h p D t i sd) R:=by
 apply amy;unfold qt at bq bw;simp only[eF] at bq bw;refine hn aJ aM I ?_;refine aR ?_;refine⟨λaa=>iK (n:=2) aJ (bq (bF aa)),λaa=>⟨λad=>iK (n:=2) aJ (bq (bt (bF ad))),λad=>?_⟩⟩;refine sU aJ aM az a1 (λan=>?_) (λan=>?_)
 .refine aR ?_;exact iK (n:=2) aJ (bq (bt (bt an)))
 .refine aR ?_;grind
def ajw(aJ:p<ag h)(aM:U D<=400)(az:i<=U D)(bq:∀j,i<j->j<=U D->zu (ax i D)=J (ax j D)->R (aQ ai) (a3 h p D t j sd))(bw:zu (ax i D)=ab->R (aQ av) (a3 h p D t i sd)):bo 59 [aN p] (a3 h p D t i sd) R:=by
 apply amv;refine aR ?_;refine sa aJ aM az λbS aa ad an=>?_;unfold zu at bq bw;rw[<-an] at bq bw;refine Ef aJ aM ad (λbc aT bN cB=>?_) λcB=>?_
 .rw[cB] at bq;refine aR ?_;refine sX (λm h'=>∃j di,bc<=j/\j<=U D/\U D-j<=di/\wL di (ax j D)=wL (U (ax bc D)) (ax bc D)/\h'=a3 h p D t j sd/\m=U D-j) (U D-bc) ⟨bc,U D-bc,bQ _,bN,bQ _,a1,rfl,rfl⟩ ?_;rintro m d h' N ⟨j,di,ij,aC,ma,af,rfl,rfl⟩ a7;refine sa aJ aM aC λeL de hC gg=>?_;refine Ef aJ aM hC (λvy dh qR ue=>?_) λue=>?_
  .refine aR ?_;obtain⟨di,rfl⟩:=tL (I:di≠0);rw[wL,<-gg,ue] at af;exact a7 (U D-vy) _ I ⟨vy,di,I,qR,I,af,rfl,rfl⟩
  .refine aR ?_;refine bq eL I hC ?_;simp only;rw[<-af];cases di with
   |zero=>
    have e:ax j D=[]:=iu I;rw[gg,e];rfl
   |succ di=>rw[wL,<-gg,ue]
 .rw[cB] at bw;refine aR ?_;exact bw rfl
end
@[go_sem] def Bm{a n:Nat}(h:a*OfNat.ofNat n<9223372036854775808):bn .mul (ah (a:Int)) (ah (no_index (OfNat.ofNat n):Int))=J (ah ((a*OfNat.ofNat n:Nat):Int)):=by
 have e:∀m:Nat,a*m<9223372036854775808->bn .mul (ah a) (ah m)=J (ah (a*m:Nat)):=λm hm=>by
  simp only[bn,ei];congr 2;rw[<-Int.natCast_mul];simp only[jv];omega
 exact e _ h
def twoLoop:Nat->B->Option Nat
 |v,[]=>J v
 |v,c::l=>if c.toNat<48\/57<c.toNat then ab else twoLoop (v*10+(c.toNat-48)) l
def two(l:B):Option Nat:=twoLoop 0 l
def VR(h:i<U l):twoLoop v (ax i l)=if g l i<48\/57<g l i then ab else twoLoop (v*10+(g l i-48)) (ax (i+1) l):=by
 rw[nt h,twoLoop,fu h]
section
variable{h:H}{R:K}{l a:B}
def od(au:U l<=18)(bq:∀v,two l=J v->v<10^U l->R (ah (v:Int)) h)(bw:two l=ab->R (ah (-1)) h):bo 64 [S l] h R:=by
 apply amz;refine aR ?_;refine jn (λm v u h'=>∃x k:Nat,v=ah x/\u=ah k/\k<=U l/\x<10^k/\twoLoop x (ax k l)=two l/\h'=h/\m=18-k) 18 ⟨0,0,rfl,rfl,ed _,aE,rfl,rfl,rfl⟩ ?_;rintro m d v u h' N ⟨x,k,rfl,rfl,aq,ae,aP,rfl,rfl⟩ a7;have aFg:x<1000000000000000000:=cP ae (l4 (n:=10) aE (I:k<=18));have aX:=dZ l k;have bad:k<U l->(g l k<48\/57<g l k)->R (ah (-1)) h':=λaa ad=>by
  rw[VR aa,aA ad] at aP;grind
 refine aR ?_;refine⟨λaa=>⟨λad=>bad aa (bF ad),λad=>⟨λan=>bad aa (bt an),λan=>?_⟩⟩,λaa=>?_⟩
 .rw[VR aa,ak I] at aP;have aJ:x*10+(g l k-48)<10^(k+1):=I
  have aFh:x*10+(g l k-48)<9223372036854775808:=by
   by_cases H0:k+1<=18
   .exact cP aJ (dH (l4 (n:=10) aE H0) aE)
   .omega
  refine aR ?_;exact a7 (18-(k+1)) _ _ _ I ⟨_,k+1,rfl,rfl,aa,aJ,aP,rfl,rfl⟩
 .have e:k=U l:=I
  subst e;rw[Wo,twoLoop] at aP;grind
def Xt(bq:top l=43->R (bA #[S l.tail,aQ av]) h) (bw:top l=45->R (bA #[S l.tail,aQ ai]) h) (fm:top l≠43->top l≠45->R (bA #[S l,aQ av]) h):bo 90 [S l] h R:=by
 apply am0;have bP:top l=g l 0:=by rw[<-eF (D:=l) (i:=0)];rfl
 have apS:ax 1 l=l.tail:=a1
 rw[bP] at bq bw fm;refine aR ?_;refine⟨λaa=>?_,λaa=>?_⟩
 .have au:=lJ.2 aa;have es:sls (S l) (J (ah 1)) ab=J (S l.tail):=by rw[<-apS];exact zL (i:=1) au
  have AD:ixs (S l) (ah 0)=J (bu (g l 0:Int)):=m3 (i:=0) au;rw[<-bP] at bq bw fm AD;generalize top l=c at bq bw fm AD;refine dG es AD ?_;grind
 .have au:l=[]:=al
  subst au;exact fm aE aE
def cut(a:B):B->Option (B×B)
 |[]=>ab
 |c::l=>if c∈a then J ([],l) else(cut a l).map λx=>(c::x.1,x.2)
def aaC(az:i<U l)(aq:k<U a):g l i=g a k↔l[i]=a[k]:=by
 rw[fu az,fu aq];exact oF
def ajS(au:U l<=400)(bE:U a<=10)(bq:∀x y,cut a l=J (x,y)->R (bA #[S x,S y,aQ ai]) h) (bw:cut a l=ab->R (bA #[S l,S [],aQ av]) h):bo 94 [S l,S a] h R:=by
 apply am3;refine aR ?_;refine eV (λm u h'=>∃k:Nat,u=ah k/\k<=U l/\cut a l=(cut a (ax k l)).map (λx=>(bf k l++x.1,x.2))/\h'=h/\m=400-k) 400 ⟨0,rfl,ed _,a1,rfl,rfl⟩ ?_;rintro m d u h' N ⟨k,rfl,aq,aP,rfl,rfl⟩ a7;refine aR ?_;refine⟨λaa=>?_,λaa=>?_⟩
 .refine eV (λm u cN=>∃e:Nat,u=ah e/\e<=U a/\(∀c',c'<e->∀(h:c'<U a),l[k]≠a[c'])/\cN=h'/\m=10-e) 10 ⟨0,rfl,ed _,λe he=>I,rfl,rfl⟩ ?_;rintro m d u cN xq ⟨e,rfl,he,bk,rfl,rfl⟩ so;refine aR ?_;refine⟨λad=>⟨λan=>?_,λan=>?_⟩,λad=>?_⟩
  .have aT:=(aaC aa ad).1 an;refine bq _ _ ?_;rw[aP,nt aa,cut,aA al];simp
  .refine so (10-(e+1)) _ _ I ⟨e+1,rfl,ad,λc' iT hr=>?_,rfl,rfl⟩;by_cases aw:c'=e
   .subst aw;exact λc=>an ((aaC aa hr).2 c)
   grind
  .refine a7 (400-(k+1)) _ _ I ⟨k+1,rfl,aa,?_,rfl,rfl⟩;rw[aP,nt aa,cut,ak]
   .rw[Option.map_map];congr 1
    funext x
    have e:bf (k+1) l=bf k l++[l[k]]:=m8
    grind
   .intro hm;obtain⟨c',iT,bO⟩:=aBN hm;grind
 .have e:k=U l:=I
  subst e;rw[Wo,cut] at aP;exact bw aP
end
section
variable{a b:Nat}
def BP{x:Nat}(h:x<18446744073709551616):IntKind.u64.wrap (x:Int)=x:=by simp[IntKind.wrap,IntKind.bits,IntKind.signed];omega
@[go_sem] def azM(h:b<=a)(h':a<18446744073709551616):bn .sub (a4 (a:Int)) (a4 (b:Int))=J (a4 ((a-b:Nat):Int)):=by
 simp only[bn,ei];congr 2;rw[<-Int.ofNat_sub h,BP I]
@[go_sem] def EF(h:a+b<18446744073709551616):bn .add (a4 (a:Int)) (a4 (b:Int))=J (a4 ((a+b:Nat):Int)):=by
 simp only[bn,ei];congr 2;rw[<-Int.natCast_add,BP h]
def zB(h:a*b<18446744073709551616):bn .mul (a4 (a:Int)) (a4 (b:Int))=J (a4 ((a*b:Nat):Int)):=by
 simp only[bn,ei];congr 2;rw[<-Int.natCast_mul,BP h]
@[go_sem] def afk(h:0<b)(h':a<18446744073709551616):bn .quo (a4 (a:Int)) (a4 (b:Int))=J (a4 ((a/b:Nat):Int)):=by
 simp only[bn,ei];rw[ak I];congr 2;have e:((a:Int).tdiv (b:Int))=((a/b:Nat):Int):=al
 rw[e,BP (nT (ahF _ _) h')]
end
def whole(b m:Nat):Nat->B->Option Nat
 |n,[]=>J n
 |n,c::l=>match fQ c.toNat with
  |some d=>if(m-d)/b<n then ab else whole b m (n*b+d) l
  |none=>ab
def dig(b:Nat):Bool->B->Option B
 |_,[]=>J []
 |pv,c::l=>if c.toNat=95 then(if pv=ai/\(fQ (top l)).isSome=ai then dig b av l else ab) else match fQ c.toNat with
  |some d=>if b<=d then ab else(dig b ai l).map (c::·)
  |none=>ab
section
variable{h:H}{R:K}{l:B}{b m:Nat}
def Pw(au:U l<=400)(af:0<b)(hm:15<=m)(wz:m<18446744073709551616)(aD:∀c∈l,(fQ c.toNat).isSome=ai)(bq:∀n,whole b m 0 l=J n->n<=m->R (bA #[a4 (n:Int),aQ ai]) h)
  (bw:whole b m 0 l=ab->R (bA #[a4 0,aQ av]) h):bo 89 [S l,a4 (b:Int),a4 (m:Int)] h R:=by
 apply XU;refine aR ?_;refine jn (λdW v u h'=>∃n k:Nat,v=a4 n/\u=ah k/\k<=U l/\n<=m/\whole b m n (ax k l)=whole b m 0 l/\h'=h/\dW=400-k) 400 ⟨0,0,rfl,rfl,ed _,ed _,rfl,rfl,rfl⟩ ?_;rintro dW d v u h' N ⟨n,k,rfl,rfl,aq,aI,aP,rfl,rfl⟩ a7;refine aR ?_;refine⟨λaa=>?_,λaa=>?_⟩
 .rw[nt aa,whole] at aP;have aL:=aD _ (zW aa);rw[<-fu aa] at aP aL;refine Eb (dZ l k) (λd ad an=>?_) λad=>?_
  .rw[ad] at aP;simp only at aP;have cF:¬(m-d)/b<n->n*b+d<=m:=λaT=>by
    have:=jx b (z0 aT);have:=Nat.div_mul_le_self (m-d) b;omega
   refine aR ?_;refine⟨λaT=>?_,λaT=>?_⟩
   .grind
   .rw[ak aT] at aP;have bN:=cF aT;refine bG (zB (I:n*b<18446744073709551616)) ?_;exact a7 (400-(k+1)) _ _ _ I ⟨_,k+1,rfl,rfl,aa,bN,aP,rfl,rfl⟩
  grind
 .have e:k=U l:=I
  subst e;rw[Wo,whole] at aP;grind
def GO(au:U l<=400)(bq:∀o,dig b av l=J o->o≠[]->R (.tuple #[S o,.bool ai]) h) (bw:dig b av l=J []->R (.tuple #[S [],.bool av]) h) (fm:dig b av l=ab->R (.tuple #[S [],.bool av]) h):bo 88 [S l,.i (b:Int)] h R:=by
 apply amY;refine aR ?_;refine jn (λdW v u h'=>∃(o:B) (k:Nat) (pv:Bool),v=S o/\u=.i (k:Int)/\k<=U l/\U o<=k/\dig b av l=(dig b pv (ax k l)).map (o++·)/\(pv=ai↔k≠0/\(fQ (g l (k-1))).isSome=ai)/\h'=h/\dW=400-k) 400
  ⟨[],0,av,rfl,rfl,ed _,bQ _,a1,a1,rfl,rfl⟩ ?_
 rintro dW d v u h' N ⟨o,k,pv,rfl,rfl,aq,jq,aP,A_,rfl,rfl⟩ a7;refine aR ?_;refine⟨λaa=>?_,λaa=>?_⟩
 .rw[nt aa,dig,<-fu aa,eF] at aP;have bad:¬(pv=ai/\(fQ (g l (k+1))).isSome=ai)->g l k=95->R (.tuple #[S [],.bool av]) h':=λaf ay=>by
   grind
  refine aR ?_;refine⟨λad=>?_,λad=>?_⟩
  .refine⟨λan=>bad (λc=>(A_.1 c.1).1 an) ad,λan=>⟨λaT=>?_,λaT=>?_⟩⟩
   .have:g l (k+1)=0:=by unfold g;rw[iw,Wp I];rfl
    refine bad (λc=>?_) ad;have:=c.2;rw[‹g l (k+1)=0›] at this;simp[fQ] at this
   .skip
    refine Eb (dZ l (k-1)) (λd1 bN cB=>?_) λbN=>?_
    .refine aR ?_;refine Eb (dZ l (k+1)) (λd2 de hC=>?_) λde=>?_
     .refine aR ?_;have aJ:pv=ai:=A_.2 ⟨an,by rw[bN];rfl⟩;rw[aA ad,aA ⟨aJ,by rw[de];rfl⟩] at aP;refine a7 (400-(k+1)) _ _ _ I ⟨o,k+1,av,rfl,rfl,aa,I,aP,?_,rfl,rfl⟩;simp[ad,fQ]
     .refine aR ?_;grind
    .refine aR ?_;grind
  .rw[ak ad] at aP;refine Eb (dZ l k) (λd1 an aT=>?_) λan=>?_
   .rw[an] at aP;simp only at aP;have aL:ax k (bf (k+1) l)=[l[k]]:=by rw[BW,(I:k+1-k=1),nt aa];rfl
    refine bG aL ?_;refine⟨λbN=>?_,λbN=>?_⟩
    .grind
    .rw[ak bN,Option.map_map] at aP;have fg:U [l[k]]=1:=rfl;refine aR ?_;refine a7 (400-(k+1)) _ _ _ I ⟨o++[l[k]],k+1,ai,rfl,rfl,aa,al,?_,?_,rfl,rfl⟩
     .rw[aP];congr 1;grind
     .simp[an]
   .rw[an] at aP;refine aR ?_;exact fm aP
 .have e:k=U l:=I
  subst e;rw[Wo,dig] at aP;grind
end
section
def P1:Z 67=[bu 0,bu 0]:=b4
def fV(b:Nat):Nat:=if b<128 then 240 else if b<194 then 241 else if b<224 then 2 else if b<225 then 19 else if b<237 then 3 else if b<238 then 35 else if b<240 then 3 else if b<241 then 52 else if b<244 then 4 else if b<245 then 68 else 241
def tU(k:Nat):Nat:=if k=1 then 160 else if k=3 then 144 else 128
def tT(k:Nat):Nat:=if k=2 then 159 else if k=4 then 143 else 191
structure jM(h:H):Prop where
 first:∀i,i<256->rd h ⟨0,i,ab⟩=J (bu (fV i:Int))
 br:∀k,k<5->rd h ⟨1,k*2,ab⟩=J (bu (tU k:Int))
 az:∀k,k<5->rd h ⟨1,k*2+1,ab⟩=J (bu (tT k:Int))
 NL:rd h ⟨1,30,ab⟩=J (bu 0)
 MW:rd h ⟨1,31,ab⟩=J (bu 0)
def ayW(e:rd h ⟨b,o,ab⟩=J v):∃c t b3,h[b]?=J (aO c t b3)/\c[o]?=J v:=by
 unfold rd at e;grind
def aB.rd{h h':H}(e:aB h h'){a:Addr}{v:ao}(q:rd h a=J v):rd h' a=J v:=by
 have au:a.block<ag h:=by
  rcases jw a.block (ag h) with au|au
  .exact au
  .simp[F.rd,ahp au] at q
 unfold F.rd at*;rw[e.2 _ au];exact q
def jM.ext(t:jM h)(e:aB h h'):jM h':=⟨λi az=>e.rd (t.first i az),λk aq=>e.rd (t.br k aq),λk aq=>e.rd (t.az k aq),e.rd t.NL,e.rd t.MW⟩
def aB.trans(a:aB h h')(b:aB h' cN):aB h cN:=⟨dH a.1 b.1,λx ae=>(b.2 x (cP ae a.1)).trans (a.2 x ae)⟩
def jE(l:B):Nat:=
 let x:=fV (g l 0)
 if U l=0 then 0 else if 240<=x then 1 else if U l<x%8 then 1
 else if g l 1<tU (x/16)\/tT (x/16)<g l 1 then 1 else if x%8<=2 then 2
 else if g l 2<128\/191<g l 2 then 1 else if x%8<=3 then 3
 else if g l 3<128\/191<g l 3 then 1 else 4
@[go_sem] def avx(h:i<n):iar n sz (bU (J ⟨b,o,ab⟩)) (ba k (i:Int))=J (bU (J ⟨b,o+i*sz,ab⟩)):=by
 simp only[iar,Addr.add,pU];grind
def yL(af:h[b]?=J (aO c t b3))(aL:o+(n+1)<=ag c):
  cO (n+1) (bU (J ⟨b,o,ab⟩)) h k=k (cA (c.extract o (o+(n+1)))) h:=by
 simp[cO,af,aL]
def K5(e:rd h ⟨b,o,ab⟩=J v):cd (bU (J ⟨b,o,ab⟩)) h k=k v h:=by simp only[cd,e]
def PL(aw:rd h ⟨b,o,ab⟩=J x)(ar:rd h ⟨b,o+1,ab⟩=J y):cO 2 (bU (J ⟨b,o,ab⟩)) h k=k (cA #[x,y]) h:=by
 obtain⟨c,t,b3,af,ay⟩:=ayW aw;have j':c[o+1]?=J y:=by simpa[rd,af] using ar
 have aL:o+1<ag c:=(cm.1 j').1;rw[yL af I];have:c.extract o (o+(1+1))=#[x,y]:=by
  grind
 rw[this]
variable{h:H}{R:K}{l:B}
@[go_sem low] def YX:bn .and (ba k a) (ba k b)=J (ba k (nr .and k a b)):=by simp[bn]
@[go_sem low] def EK:bn .or (ba k a) (ba k b)=J (ba k (nr .or k a b)):=by simp[bn]
@[go_sem low] def aCO:bn .andNot (ba k a) (ba k b)=J (ba k (nr .andNot k a b)):=by simp[bn]
@[go_sem low] def aGG:bn .shl (ba k a) (ba dq (no_index (OfNat.ofNat b):Int))=J (ba k (k.wrap (a*2^(min b k.bits)))):=by
 show(if((b:Nat):Int)<0 then ab else J (Value.int k (k.wrap (a*2^(min ((b:Nat):Int).toNat k.bits)))))=_;grind
@[go_sem low] def aGH:bn .shr (ba k a) (ba dq (no_index (OfNat.ofNat b):Int))=J (ba k (a.fdiv (2^(min b k.bits)))):=by
 show(if((b:Nat):Int)<0 then ab else J (Value.int k (a.fdiv (2^(min ((b:Nat):Int).toNat k.bits)))))=_;grind
@[go_sem low] def Qs:ci j (ba k a)=J (ba j (j.wrap a)):=rfl
@[go_sem] def aC0:((0:Nat):Int)=0:=rfl
def I0(h:OfNat.ofNat n<U l):ixs (S l) (ba k (no_index (OfNat.ofNat n):Int))=J (bu (g l (OfNat.ofNat n):Int)):=m3 h
def ayl{α:Type}(l:Array α)(x y:α):dy (a6 l x) (ag l) y=a6 l y:=U2 l x y
theorem aik(dn:jM h)(au:l.length<=1000)(q:∀v h',aB h h'->R (.tuple #[v,.i (jE l:Int)]) h'):bo 123 [S l] h R:=by
 apply akB;have cn:=dZ l 0;have ct:=dZ l 1;have bd:=dZ l 2;have cb:=dZ l 3;have ae:=dn.first (g l 0) cn
 unfold jE at q;have Il:fV (g l 0)=240\/fV (g l 0)=241\/fV (g l 0)=2\/fV (g l 0)=19\/fV (g l 0)=3\/fV (g l 0)=35\/fV (g l 0)=52\/fV (g l 0)=4\/fV (g l 0)=68:=by
  unfold fV;repeat' split
  all_goals simp
 generalize fV (g l 0)=x at q ae Il;have k3:x<=241:=I
 have aw:nr .and .u8 (x:Int) 7=((x%8:Nat):Int):=by rcases Il with rfl|rfl|rfl|rfl|rfl|rfl|rfl|rfl|rfl<;>rfl
 have ar:(x:Int).fdiv (2^(min 4 8))=((x/16:Nat):Int):=al
 by_cases aW:l.length=0
 .simp only[aW,ei] at q;refine aR ?_;exact q _ _ (aB.refl _)
 .simp only[aW,lL] at q;by_cases abh:240<=x
  .simp only[abh,ei] at q;(simp-implicitDefEqProofs+contextual (disch:=omega) only[go_sem,I0,nn,K5 ae];try refine c8 ?_)
   exact q _ _ (aB.refl _)
  .simp only[abh,lL] at q;have aq:x/16<5:=I
   have Ex:∀{a b:Nat} {k:K},bZ 2 (aN h.size) (.agg #[.b (a:Int),.b (b:Int)]) (h.push (.cells [Value.int .u8 0,.b 0].toArray 67)) k=k undef (h.push (.cells #[.b (a:Int),.b (b:Int)] 67)):=λ{a b k}=>
    Lc rfl rfl aE (.inr (ed _))
   have fin:∀v (n:Nat),n=(if l.length<x%8 then 1 else if g l 1<tU (x/16)\/tT (x/16)<g l 1 then 1 else if x%8<=2 then 2
    else if g l 2<128\/191<g l 2 then 1 else if x%8<=3 then 3 else if g l 3<128\/191<g l 3 then 1 else 4)->∀o,R (.tuple #[v,.i (n:Int)]) (h.push o):=λv n aI o=>aI▸q v _ (aB.push _ _)
   (simp-implicitDefEqProofs+contextual (disch:=omega) only[go_sem,I0,nn,K5 ae,aw,ar,PL (dn.br _ aq) (dn.az _ aq),P1,Ex];try refine c8 ?_)
   repeat' first|refine And.intro ?_ ?_|intro _
   all_goals clear q dn Ex ae aw ar
   all_goals grind
def ajN(dn:jM h)(au:U l<=1000)(q:∀v h',aB h h'->R (bA #[v,ah (jE l:Int)]) h'):bo 86 [S l] h R:=by
 apply amW;have cn:=dZ l 0;have e:∀v,g l 0<128->l≠[]->R (bA #[v,ah 1]) h:=λv aa ad=>by
  have aF:jE l=1:=by
   unfold jE fV;have:U l≠0:=λe=>ad (vF e);simp[aa,this]
  have:=q v h (aB.refl _);grind
 have azv:bD 123 [S l] h λj4 h=>Pu (exv 0 j4) h λj5 h=>Pu (exv 1 j4) h λv10 h=>R (bA #[j5,v10]) h:=aik dn au λv h' he=>q v h' he;have bk:∀{k:K} {b:B},(¬b=[])->0<U b:=λ{k b} h=>lJ.2 h;refine aR ?_;refine⟨λaa=>?_,λaa=>azv⟩;have h_:=lJ.2 aa;refine bG @I0 ?_;grind
end
def YD:Z 3=[ah 0]:=b4
@[go_sem] def aF0:bn fG (ah (-1)) (ah (no_index (OfNat.ofNat n):Int))=J (aQ ai):=by
 have e:∀m:Nat,bn fG (ah (-1)) (ah m)=J (aQ ai):=λm=>by
  simp only[bn,ei,dg,Wz,r_];omega
 exact e _
@[go_sem] def ay2{a n:Nat}(h:0<(OfNat.ofNat n:Nat)):bn .rem (ah (a:Int)) (ah (no_index (OfNat.ofNat n):Int))=J (ah ((a%OfNat.ofNat n:Nat):Int)):=by
 have e:∀m:Nat,0<m->bn .rem (ah a) (ah m)=J (ah (a%m:Nat)):=λm hm=>by
  simp only[bn,ei];grind
 exact e _ h
def zx(y:Nat):Prop:=(y%4=0/\y%100≠0)\/y%400=0
instance(y:Nat):Decidable (zx y):=by unfold zx;infer_instance
def ET(m:Nat):Nat:=if m=2 then 28 else if m=4\/m=6\/m=9\/m=11 then 30 else 31
def s3(y m:Nat):Nat:=if m=2/\zx y then 29 else ET m
def nY(l:B):Prop:=U l=10/\g l 4=45/\g l 7=45/\∃y m d,two (bf 4 l)=J y/\two (ax 5 (bf 7 l))=J m/\two (ax 8 l)=J d/\1<=m/\m<=12/\1<=d/\d<=s3 y m
def TA{h:H}(ae:x<len):ia 1 (a5 (J ⟨ag h,0,ab⟩) len cap) (ah (x:Int))=J (bU (J ⟨ag h,x,ab⟩)):=by
 simp only[ia,pU,Addr.add];grind
section
variable{h:H}{R:K}{l:B}{m:Nat}
def apa(aa:1<=m)(ad:m<=12):(#[Value.int .i64 31,ah 28,ah 31,ah 30,ah 31,ah 30,ah 31,ah 31,ah 30,ah 31,ah 30,ah 31]:Array ao)[m-1]?=J (ah (ET m:Int)):=by
 have:m=1\/m=2\/m=3\/m=4\/m=5\/m=6\/m=7\/m=8\/m=9\/m=10\/m=11\/m=12:=I
 rcases this with rfl|rfl|rfl|rfl|rfl|rfl|rfl|rfl|rfl|rfl|rfl|rfl<;>rfl
def ah3:ew 3 12 (Z 3) [(0,1,(ah 31)),(1,1,(ah 28)),(2,1,(ah 31)),(3,1,(ah 30)),(4,1,(ah 31)),(5,1,(ah 30)),(6,1,(ah 31)),(7,1,(ah 31)),(8,1,(ah 30)),(9,1,(ah 31)),(10,1,(ah 30)),(11,1,(ah 31))] h k=
  k (a5 (J ⟨ag h,0,ab⟩) 12 12) (a6 h (aO #[Value.int .i64 31,ah 28,ah 31,ah 30,ah 31,ah 30,ah 31,ah 31,ah 30,ah 31,ah 30,ah 31] 3)):=by
 rw[YD];rfl
def Xj(au:U l<=400)(bq:nY l->∀h',aB h h'->R (.bool ai) h')(bw:¬nY l->∀h',aB h h'->R (.bool av) h'):bo 47 [S l] h R:=by
 apply amk;have no:¬nY l->R (.bool av) h:=λaI=>bw aI h (aB.refl _);by_cases hlen:U l=10
 .have i4:ixs (S l) (.i 4)=J (.b (g l 4:Int)):=m3 (i:=4) I;have i7:ixs (S l) (.i 7)=J (.b (g l 7:Int)):=m3 (i:=7) I;have s1:sls (S l) ab (J (.i 4))=J (S (bf 4 l)):=DI (j:=4) I;have s2:sls (S l) (J (.i 5)) (J (.i 7))=J (S (ax 5 (bf 7 l))):=OC (i:=5) (j:=7) I I;have dB:sls (S l) (J (.i 8)) ab=J (S (ax 8 l)):=zL (i:=8) I;refine vE i4 i7 s1 s2 dB ?_;refine⟨λaa=>no λc=>aa c.2.1,λaa=>⟨λad=>no λc=>ad c.2.2.1,λad=>?_⟩⟩;have c3:U (bf 4 l)<=18:=by simp;omega
  have dA:U (ax 5 (bf 7 l))<=18:=by simp;omega
  have jX:U (ax 8 l)<=18:=by simp;omega
  have bound:∀{x:B} {v:Nat},U x<=18->v<10^U x->v<9223372036854775808:=λ{x v} ae aD=>
   cP aD (dH (l4 (n:=10) aE ae) aE)
  have bB:(∀y m d,two (bf 4 l)=J y->two (ax 5 (bf 7 l))=J m->two (ax 8 l)=J d->¬(1<=m/\m<=12/\1<=d/\d<=s3 y m))->¬nY l:=λaI c=>by
   obtain⟨_,_,_,y,m,d,aw,ar,aS,ay⟩:=c;grind
  refine od c3 (λy a2 lC=>od dA (λm hm wz=>od jX (λd aG h9=>?_) λaG=>?_) λhm=>od jX (λd aG _=>?_) λaG=>?_) λa2=>od dA (λm hm _=>od jX (λd aG _=>?_) λaG=>?_) λhm=>od jX (λd aG _=>?_) λaG=>?_
  .have aFl:=bound c3 lC;have acs:=bound dA wz;have Ig:=bound jX h9;have UA:¬(1<=m/\m<=12/\1<=d/\d<=s3 y m)->∀h',aB h h'->R (.bool av) h':=λaI=>bw (bB λy' ez fl aw ar aS=>al);have yes:(1<=m/\m<=12/\1<=d/\d<=s3 y m)->∀h',aB h h'->R (.bool ai) h':=λay=>bq ⟨hlen,aa|>OX.1,ad|>OX.1,y,m,d,a2,hm,aG,ay⟩;by_cases aF:1<=m/\m<=12/\1<=d
   .have he:=aB.push h (.cells #[Value.int .i64 31,.i 28,.i 31,.i 30,.i 31,.i 30,.i 31,.i 31,.i 30,.i 31,.i 30,.i 31] 3);have abR:(m=2/\((y%4=0/\y%100≠0)\/y%400=0)/\s3 y m=29)\/(¬(m=2/\((y%4=0/\y%100≠0)\/y%400=0))/\s3 y m=ET m):=by
     unfold s3 zx;by_cases ay:m=2/\((y%4=0/\y%100≠0)\/y%400=0)
     .exact .inl ⟨ay.1,ay.2,aA ay⟩
     .exact .inr ⟨ay,ak ay⟩
    have aX:=apa aF.1 aF.2.1;have aBq:d<=s3 y m->R (.bool ai) _:=λay=>yes ⟨aF.1,aF.2.1,aF.2.2,ay⟩ _ he;have aw8:¬d<=s3 y m->R (.bool av) _:=λay=>UA (λc=>ay c.2.2.2) _ he;have d2:m=2->ET m=28:=λe=>by subst e;rfl
    generalize s3 y m=v5 at abR aBq aw8;generalize ET m=d0 at aX abR d2;clear yes UA he bq bw no bB;refine hk @ah3 @TA aX ?_;repeat' first|refine And.intro ?_ ?_|intro _
    all_goals grind
   .have:=UA (λc=>aF ⟨c.1,c.2.1,c.2.2.1⟩) h (aB.refl _);refine aR ?_;grind
  all_goals
   have:=bw (bB λy' ez fl aw ar aS=>m8) h (aB.refl _);refine aR ?_;grind
 ·(simp-implicitDefEqProofs+contextual (disch:=omega) only[go_sem];try refine c8 ?_)
  exact no λc=>hlen c.1
end
def trim0:Nat->B->B
 |0,l=>l
 |n+1,l=>if g l (U l-1)=48 then trim0 n (bf (U l-1) l) else l
def py(l:B):Bool:=l.all λc=>decide (48<=c.toNat/\c.toNat<=57)
def QS:∀(l:B) (v:Nat),(twoLoop v l).isSome=py l
 |[],v=>rfl
 |c::l,v=>by
  rw[twoLoop];by_cases h:c.toNat<48\/57<c.toNat
  .rw[aA h];have:¬(48<=c.toNat/\c.toNat<=57):=I
   simp[py,this]
  .rw[ak h,QS l];have:48<=c.toNat/\c.toNat<=57:=I
   simp[py,this]
def ZP(h:k<U l):py (ax k l)=(decide (48<=g l k/\g l k<=57)&&py (ax (k+1) l)):=by
 rw[nt h,py,ahs,fu h];rfl
def aph(h:py l=ai):py (bf n l)=ai:=by
 unfold py at*;grind
def u9(l:B):Option B:=if U l<=8 then J [] else if g l 8=46/\U l≠9/\py (ax 9 l)=ai then J (ax 9 (bf (min (U l) 18) l)) else ab
def clock(l:B):B×Nat:=
 if U l=5/\g l 2=58/\(two (bf 2 l)).isSome=ai/\(two (ax 3 l)).isSome=ai then([],2)
 else if U l<8\/g l 2≠58\/g l 5≠58 then([],1)
 else match two (bf 2 l),two (ax 3 (bf 5 l)),two (ax 6 (bf 8 l)) with
  |J h,J m,J s=>if 23<h\/59<m\/60<s then([],1) else match u9 l with
   |none=>([],1)
   |some p=>if s=60 then([],2) else(bf 8 l++(if trim0 9 p=[] then[] else 46::trim0 9 p),0)
  |_,_,_=>([],1)
section
variable{h:H}{R:K}{l:B}
theorem Xr(au:l.length<=400)(q:R (.tuple #[S (clock l).1,.i ((clock l).2:Int)]) h):bo 87 [S l] h R:=by
 apply amX;have bad:clock l=([],1)->R (.tuple #[S [],.i 1]) h:=λe=>al
 have ae0:clock l=([],2)->R (.tuple #[S [],.i 2]) h:=λe=>al
 have L_:bn .geq (.i (-1)) (.i 0)=some (.bool false):=rfl;have i2:2<l.length->ixs (S l) (.i 2)=some (.b (g l 2:Int)):=λh=>m3 (i:=2) h;have i5:5<l.length->ixs (S l) (.i 5)=some (.b (g l 5:Int)):=λh=>m3 (i:=5) h;have i8:8<l.length->ixs (S l) (.i 8)=some (.b (g l 8:Int)):=λh=>m3 (i:=8) h;have Oo:2<=l.length->sls (S l) none (some (.i 2))=some (S (l.take 2)):=λh=>DI (j:=2) h;have dB:3<=l.length->sls (S l) (some (.i 3)) none=some (S (l.drop 3)):=λh=>zL (i:=3) h;have azd:5<=l.length->sls (S l) (some (.i 3)) (some (.i 5))=some (S ((l.take 5).drop 3)):=λh=>OC (i:=3) (j:=5) I h;have aze:8<=l.length->sls (S l) (some (.i 6)) (some (.i 8))=some (S ((l.take 8).drop 6)):=λh=>OC (i:=6) (j:=8) I h;have afP:8<=l.length->sls (S l) none (some (.i 8))=some (S (l.take 8)):=λh=>DI (j:=8) h;by_cases bN:l.length=5
 .have c3:(l.take 2).length<=18:=by simp;omega
  have dA:(l.drop 3).length<=18:=by simp;omega
  have aoz:¬(g l 2=58/\(two (l.take 2)).isSome=true/\(two (l.drop 3)).isSome=true)->R (.tuple #[S [],.i 1]) h:=λaI=>bad (by
   unfold clock;rw[ak (λc=>aI c.2),aA (.inl I)])
  refine hk i2 Oo dB ?_;refine⟨λaa=>od c3 (λx ae _=>?_) λae=>?_,λaa=>aoz λc=>aa c.1⟩
  .refine bG dB ?_;refine od dA (λy a2 _=>?_) λa2=>?_
   .refine aR ?_;exact ae0 (by unfold clock;rw[aA ⟨bN,aa,by rw[ae];rfl,by rw[a2];rfl⟩])
   .refine bG L_ ?_;grind
  .refine bG L_ ?_;grind
 ·(simp-implicitDefEqProofs+contextual (disch:=omega) only[go_sem,i2,i5,Oo,azd,aze];try refine c8 ?_)
  have c1:clock l=if l.length<8\/g l 2≠58\/g l 5≠58 then([],1) else match two (l.take 2),two ((l.take 5).drop 3),two ((l.take 8).drop 6) with
   |some h,some m,some s=>if 23<h\/59<m\/60<s then([],1) else match u9 l with
    |none=>([],1)
    |some p=>if s=60 then([],2) else(l.take 8++(if trim0 9 p=[] then[] else 46::trim0 9 p),0)
   |_,_,_=>([],1):=by unfold clock;rw[ak (λc=>bN c.1)]
  refine⟨λaa=>bad al,λaa=>⟨λad=>bad al,λad=>⟨λan=>bad al,λan=>?_⟩⟩⟩;rw[ak I] at c1;have c3:(l.take 2).length<=18:=by simp;omega
  have dA:((l.take 5).drop 3).length<=18:=by simp;omega
  have jX:((l.take 8).drop 6).length<=18:=by simp;omega
  refine od c3 (λx ae _=>od dA (λy a2 _=>od jX (λz aV _=>?_) λaV=>?_) λa2=>od jX (λz aV _=>?_) λaV=>?_) λae=>od dA (λy a2 _=>od jX (λz aV _=>?_) λaV=>?_) λa2=>od jX (λz aV _=>?_) λaV=>?_
  .rw[ae,a2,aV] at c1;simp only at c1;have tW:(23<x\/59<y\/60<z)->R (.tuple #[S [],.i 1]) h:=λay=>bad al;(simp-implicitDefEqProofs+contextual (disch:=omega) only[go_sem];try refine c8 ?_)
   refine⟨λaT=>tW (.inl aT),λaT=>⟨λbN=>tW (.inr (.inl bN)),λbN=>⟨λcB=>tW (.inr (.inr cB)),λcB=>?_⟩⟩⟩;rw[ak I] at c1;clear tW;refine ani λN a7=>?_;have tail:∀part:B,part.length<=9->u9 l=some part->(λ(oB:Value) (h:H)=>Pu (bn .eql (.i (z:Int)) (.i 60)) h λpb h=>
     b1 pb (R (.tuple #[(.string ⟨#[]⟩),(.i 2)]) h)<|
     iL 1 [oB] h λsc _ iZ h=>
     Pu (bn .neq iZ (.string ⟨#[]⟩)) h λju h=>
     a0 ju true (λh k=>k iZ h) h λoC h=>
     a0 ju true (λh k=>k iZ h) h λnj h=>
     a0 ju true (Pu (q3 nj)) h λl2 h=>
     a0 ju true (Pu (bn .sub l2 (.i 1))) h λko h=>
     a0 ju true (Pu (ixs oC ko)) h λmN h=>
     a0 ju true (Pu (bn .eql mN (.b 48))) h λkQ h=>
     Pu (pk ju kQ (.bool false)) h λlg h=>
     b1 lg (Pu (q3 iZ) h λoa h=>
     Pu (bn .sub oa (.i 1)) h λnR h=>
     Pu (sls iZ none (some nR)) h λmO h=>
     sc mO h)<|
     Pu (bn .neq iZ (.string ⟨#[]⟩)) h λrk h=>
     b1 rk (Pu (bn .add (.string ⟨#[46]⟩) iZ) h λpS h=>
     Pu (sls (S l) none (some (.i 8))) h λrl h=>
     Pu (bn .add rl pS) h λoD h=>
     R (.tuple #[oD,(.i 0)]) h)<|
     Pu (sls (S l) none (some (.i 8))) h λrm h=>
     Pu (bn .add rm iZ) h λnk h=>
     R (.tuple #[nk,(.i 0)]) h) (S part) h:=by
    intro part jV aue;rw[aue] at c1;simp only at c1;(simp-implicitDefEqProofs+contextual (disch:=omega) only[go_sem];try refine c8 ?_)
    refine⟨λde=>ae0 al,λde=>?_⟩;rw[ak de] at c1;refine eV (λdW v h'=>∃(n:Nat) (cur:B),v=S cur/\h'=h/\cur.length<=n/\n<=9/\trim0 n cur=trim0 9 part/\dW=n) 9 ⟨9,part,rfl,rfl,jV,bQ _,rfl,rfl⟩ ?_;rintro dW d v h' N ⟨n,cur,rfl,rfl,ML,aEN,uy,rfl⟩ a7;have fin:(cur=[]\/g cur (cur.length-1)≠48)->clock l=(l.take 8++(if cur=[] then[] else 46::cur),0):=λay=>by
     have:trim0 dW cur=cur:=by
      cases dW with
      |zero=>rfl
      |succ k=>
       rw[trim0];rcases ay with rfl|ay
       .rw[ak aE]
       grind
     grind
    have aFF:(l.take 8).length=8:=by simp;omega
    have aFC:([46]:B).length=1:=rfl;have l0:([]:B).length=0:=rfl;refine aR ?_;refine⟨λhC=>?_,λhC=>?_⟩
    .have xZ:=lJ.2 hC;have aFD:(46::cur).length=cur.length+1:=rfl;refine bG afP ?_;refine⟨λgg=>?_,λgg=>?_⟩
     .obtain⟨k,rfl⟩:=tL (show dW≠0 by omega);rw[trim0,aA gg] at uy;exact a7 k _ _ I ⟨k,_,rfl,rfl,by simp;omega,I,uy,rfl⟩
     .have e:=fin (.inr gg);rw[ak hC] at e;rw[e] at q;have aFE:([46]++cur:B).length=cur.length+1:=rfl;refine aR ?_;exact q
    .have ay:cur=[]:=al
     subst ay;have e:=fin (.inl rfl);rw[e] at q;refine bG afP ?_;exact q
   have axf:u9 l=none->R (.tuple #[S [],.i 1]) h:=λe=>bad (by rw[c1,e]);by_cases hC:l.length<=8
   .have:=tail [] aE (by unfold u9;rw[aA hC]);refine aR ?_;exact a7 _ _ this
   .have Fy:min l.length 18<=l.length:=Nat.min_le_left _ _;have atO:9<=min l.length 18:=I
    have aef:q4 true (.i (l.length:Int)) (.i 18)=some (.i ((min l.length 18:Nat):Int)):=by
     simp only[q4,ei];grind
    have Oq:sls (S l) (some (.i 9)) (some (.i ((min l.length 18:Nat):Int)))=some (S ((l.take (min l.length 18)).drop 9)):=OC (i:=9) atO Fy;have oq:u9 l=if g l 8=46/\l.length≠9/\py (l.drop 9)=true then some ((l.take (min l.length 18)).drop 9) else none:=by unfold u9;rw[ak hC]
    have atG:((l.take (min l.length 18)).drop 9).length<=9:=by simp;omega
    have Sx:py (l.drop 9)=true->py ((l.take (min l.length 18)).drop 9)=true:=λe=>by
     rw[BW];exact aph e
    have vU:¬(g l 8=46/\l.length≠9/\py (l.drop 9)=true)->R (.tuple #[S [],.i 1]) h:=λaI=>axf al;refine hk i8 aef Oq ?_;refine⟨λgg=>vU λc=>gg c.1,λgg=>⟨λdh=>vU λc=>c.2.1 dh,λdh=>?_⟩⟩;refine od I (λw hw _=>?_) λhw=>?_
    .refine aR ?_;refine eV (λdW v h'=>∃k:Nat,v=.i (k:Int)/\h'=h/\9<=k/\k<=l.length/\py (l.drop k)=py (l.drop 9)/\dW=400-k) (400-9) ⟨9,rfl,rfl,bQ _,I,rfl,rfl⟩ ?_;rintro dW d v h' xq ⟨k,rfl,rfl,atr,aq,Fk,rfl⟩ so;have YW:k<l.length->¬(48<=g l k/\g l k<=57)->R (.tuple #[S [],.i 1]) h':=λlA ay=>vU λc=>by
      rw[<-Fk,ZP lA] at c;grind
     refine dG aef Oq ?_;refine⟨λqR=>⟨λue=>YW qR I,λue=>⟨λdx=>YW qR I,λdx=>?_⟩⟩,λqR=>?_⟩
     .refine so (400-(k+1)) _ _ I ⟨k+1,rfl,rfl,I,qR,?_,rfl⟩;rw[<-Fk,ZP qR];grind
     .have aG:py (l.drop 9)=true:=by
       rw[<-Fk,iu I];rfl
      exact a7 _ _ (tail _ atG al)
    .refine aR ?_;refine vU λc=>?_;have:=QS ((l.take (min l.length 18)).drop 9) 0;rw[Sx c.2.2] at this;unfold two at hw;grind
  all_goals
   have:=bad al;refine aR ?_;grind
end
def b2(h:H)(v:ao)(sz:Nat)(L:List ao):Option Nat->Prop
 |none=>v=.slice ab 0 0/\L=[]
 |some r=>∃(len cap:Nat) (c:Array ao) (t:Nat),v=.slice (J ⟨r,0,ab⟩) len cap/\h[r]?=J (.cells c t)/\len<=cap/\ag c=cap*sz/\U L=len*sz/\c.toList.take (U L)=L
def bV(ro:Option Nat)(h h':H):Prop:=ag h<=ag h'/\∀b,b<ag h->J b≠ro->h'[b]?=h[b]?
def bV.g_(e:aB h h')(ro:Option Nat):bV ro h h':=⟨e.1,λb af _=>e.2 b af⟩
def bV.fe(e:aB aW h)(aw:bV ro h h')(aF:∀r,ro=J r->ag aW<=r):aB aW h':=
 ⟨dH e.1 aw.1,λb af=>by rw[aw.2 b (cP af e.1) (λe=>al),e.2 b af]⟩
def DC:∀(vs:List ao) (c:Array ao) (o:Nat),o+U vs<=ag c->bf (o+U vs) (bC (ht c o vs))=bf o (bC c)++vs
 |[],c,o,_=>by simp[ht]
 |v::vs,c,o,h=>by
  simp only[nS] at h⊢;have:=DC vs (dy c o v) (o+1) (by simp;omega);rw[ht,(I:o+(U vs+1)=o+1+U vs),this];have e:bf (o+1) (bC (dy c o v))=bf o (bC c)++[v]:=by
   have aH:o<ag c:=I
   apply Kz;grind
  rw[e];simp
def b2.append(aF:b2 h v sz L ro)(c0:0<sz)(aV:U z=sz)(ae:lenV x=J n)(aI:shown h sz n x=J new)(cM:bC new=M)(aH:ones M=ai)(arT:U M=n*sz)
  (e0:(U L+U M)*by_<=1099511627776) (q:∀ch h' b0,bV ro h h'->b2 h' ch sz (L++M) b0->(b0=ro\/b0=J (ag h))->k ch h'):Ap t sz by_ z v x h k:=by
 have m0:ag new=n*sz:=al
 have atH:∀len,U L=len*sz->(len+n)*by_<=1099511627776:=λlen au=>by
  refine dH (jx _ ?_) e0;rw[au,arT,<-zY];exact vG _ c0
 have grown:∀(old:Array ao) (len c:Nat),bC old=L->U L=len*sz->len+n<=c->k (.slice (J ⟨ag h,0,ab⟩) (len+n) c) (a6 h (.cells (old++new++aZ (repL (c-(len+n)) z)) t)):=by
  intro old len c uu au ay;refine q _ _ (J (ag h)) (bV.g_ (aB.push _ _) _) ⟨len+n,c,_,t,rfl,dS _ _,ay,?_,?_,?_⟩ (.inr rfl)
  .have aw:ag old=len*sz:=al
   simp only[Array.size_append,aw,m0,D7,tC,aV];rw[<-zY,<-zY];grind
  .grind
  grind
 cases ro with
 |none=>
  obtain⟨rfl,rfl⟩:=aF;simp only[Ap,ae,aI];refine⟨al,m0,?_⟩;split
  .rename_i aW;have:n=0:=I
   subst this;have hm:M=[]:=vF I;subst hm;exact q _ _ ab (bV.g_ (aB.refl _) _) ⟨rfl,rfl⟩ (.inl rfl)
  .simp only[shown];refine⟨a1,atH 0 a1,λc ay _=>?_⟩;exact grown #[] 0 c rfl a1 ay
 |some r=>
  obtain⟨len,cap,c,eO,rfl,af,rJ,eC,au,hD⟩:=aF;simp only[Ap,ae,aI];refine⟨al,m0,?_⟩;have hle:∀m,m<=cap->m*sz<=ag c:=λm hm=>by rw[eC];exact jx _ hm
  split
  .rename_i acL;cases n with
   |zero=>
    have hm:M=[]:=vF I;subst hm;simp only;refine q _ _ (J r) (bV.g_ (aB.refl _) _) ⟨len,cap,c,eO,rfl,af,rJ,eC,?_,?_⟩ (.inl rfl)
    .grind
    grind
   |succ n=>
    simp only[af];have aa:=hle (len+(n+1)) acL;refine⟨trivial,I,.inr (ed _),?_⟩;have a':r<ag h:=(cm.1 af).1;refine q _ _ (J r) ⟨a1,λb dN bk=>?_⟩ ⟨len+(n+1),cap,_,eO,rfl,by simp[a'];rfl,acL,by rw[zH];exact eC,al,?_⟩ (.inl rfl)
    .grind
    .rw[cM,r8,au,DC _ _ _ al,<-au,hD]
  .have qp:shown h sz len (.slice (J ⟨r,0,ab⟩) len cap)=J (c.extract 0 (len*sz)):=by
    simp only[shown,af];grind
   simp_all
def j9:Z 28=[bu 0,ah 0,a4 0,S [],a5 ab 0 0,a5 ab 0 0]:=b4
def g5(kind:Nat)(n:Int)(bits:Nat)(text:B):ao:=cA #[bu kind,ah n,a4 bits,S text,a5 ab 0 0,a5 ab 0 0]
section
variable{h:H}{k:K}{b t:Nat}{c cs:Array ao}{b3:Nat×Nat}
def yD:Bd (Z 28) [] h k=k (g5 0 0 0 []) h:=by rw[j9];rfl
def Pa{kind:Nat}{n:Int}:Bd (Z 28) [(0,1,bu (kind:Int)),(1,1,ah n)] h k=k (g5 kind n 0 []) h:=by rw[j9];rfl
def Pb{kind bits:Nat}:Bd (Z 28) [(0,1,bu (kind:Int)),(2,1,a4 (bits:Int))] h k=k (g5 kind 0 bits []) h:=by rw[j9];rfl
def Pc{kind:Nat}{s:B}:Bd (Z 28) [(0,1,bu (kind:Int)),(3,1,S s)] h k=k (g5 kind 0 0 s) h:=by rw[j9];rfl
def Lb{k:H->K}(af:h[b]?=J (aO c t))(ay:ag c=6)(eC:ag cs=6)(aH:ones (bC cs)=ai)(q:k (dy h b (aO cs t)) (cA cs) (dy h b (aO cs t))):bZ 6 (aN b) (cA cs) h λ_ h=>cO 6 (aN b) h (k h):=by
 have a':b<ag h:=(cm.1 af).1;have aJ:ht c 0 (bC cs)=cs:=by
  have:=DC (bC cs) c 0 (by simp;omega);simp only[tM,Wv,sS] at this;apply Array.ext';have e:=this;rw[xg (by rw[Kv,Kv,zH];omega)] at e;exact e
 have hlen:U (bC cs)=6:=by simpa using eC
 show bZ 6 (bU (J ⟨b,0,ab⟩)) (cA cs) h _;rw[xv (v:=cA cs) af hlen aH I (bt (ed _))];simp only[cellsL,aJ];have cF:(dy h b (aO cs t))[b]?=J (aO cs t):=by simp[a']
 show cO 6 (bU (J ⟨b,0,ab⟩)) _ (k _);rw[yL (n:=5) cF I];have:cs.extract 0 (0+(5+1))=cs:=by rw[(I:0+(5+1)=ag cs)];exact Wi
 rw[this];exact q
def aB.set{aW:H}{x:Obj}(e:aB aW h)(af:ag aW<=b):aB aW (dy h b x):=⟨by simpa using e.1,λi az=>by rw[D3,ak I];exact e.2 i az⟩
end
def dm:ag (a3 h p D t i sd)=ag h:=by simp[a3]
def g1(af:b≠p):(a3 h p D t i sd)[b]?=h[b]?:=by simp[a3,D3,O9 af]
def MA(aJ:p<ag h)(e:aB (a3 h p D t i sd) h'):∃aa,aB h aa/\h'=a3 aa p D t i sd:=by
 refine⟨dy h' p h[p],⟨by simpa[a3] using e.1,λb af=>?_⟩,?_⟩
 .rw[D3];by_cases ja:p=b
  .subst ja;have:p<ag h':=cP (by rw[dm];exact aJ) e.1;grind
  .rw[ak ja,e.2 b (by rw[dm];exact af),g1 (O9 ja)]
 .unfold a3;rw[set_set];have:=e.2 p (by rw[dm];exact aJ);rw[qS aJ] at this;grind
def jM.a3{h:H}{p t i sd:Nat}{D:B}(dn:jM h)(aJ:2<=p):jM (a3 h p D t i sd):=by
 have e:∀b o,b<2->rd (F.a3 h p D t i sd) ⟨b,o,ab⟩=rd h ⟨b,o,ab⟩:=λb o af=>by unfold rd;rw[g1 (I:b≠p)]
 exact⟨λi az=>by rw[e _ _ I];exact dn.first i az,λk aq=>by rw[e _ _ I];exact dn.br k aq,λk aq=>by rw[e _ _ I];exact dn.az k aq,by rw[e _ _ I];exact dn.NL,by rw[e _ _ I];exact dn.MW⟩
def aB.lt(e:aB h h')(aJ:p<ag h):p<ag h':=cP aJ e.1
def sg{α:Type}(res:eW α)(e:α->ao)(Dm:ao->Prop)(D:B)(h:H)(p t:Nat)(R:K):Prop:=match res with
 | .ok a l=>∀aa j,aB h aa->j<=U D->ax j D=l->R (e a) (a3 aa p D t j 0)
 | .no c=>c≠0->∀aa v,aB h aa->Dm v->R v (a3 aa p D t (U D) c)
def sg.ext(q:sg res e Dm D h p t R)(he:aB h aa):sg res e Dm D aa p t R:=by
 cases res with
 |ok a l=>exact λad j ar aC au=>q ad j (he.trans ar) aC au
 |no c=>exact λay ad v ar aD=>q ay ad v (he.trans ar) aD
def sg.afN(q:sg res e Dm D h p t R):RQ res e Dm D (a3 h p D t) R:=by
 cases res with
 |ok a l=>exact λj aC au=>q h j (aB.refl _) aC au
 |no c=>exact λay v aD=>q ay h v (aB.refl _) aD
def plain(l:B):eW B:=if l=[]\/(top l<32/\top l≠9)\/top l=127 then .no 1 else .ok (bf (jE l) l) (ax (jE l) l)
def pre(s:B):eW B->eW B
 | .ok a r=>.ok (s++a) r
 | .no c=>.no c
def basic:Nat->B->eW B
 |0,_=>.no 9
 |n+1,l=>if top l=34 then .ok [] l.tail else match(if top l=92 then escape l.tail else plain l) with
  | .ok s r=>pre s (basic n r)
  | .no c=>.no c
def literal:Nat->B->eW B
 |0,_=>.no 9
 |n+1,l=>if top l=39 then .ok [] l.tail else match plain l with
  | .ok s r=>pre s (literal n r)
  | .no c=>.no c
def ap5(b:Nat):fV b=240\/fV b=241\/fV b=2\/fV b=19\/fV b=3\/fV b=35\/fV b=52\/fV b=4\/fV b=68:=by
 unfold fV;repeat' split
 all_goals simp
def afA(l:B):jE l<=U l/\(l≠[]->0<jE l):=by
 have aI:l≠[]->U l≠0:=λh e=>h (vF e);have bj:=ap5 (g l 0);unfold jE;generalize fV (g l 0)=x at bj;simp only;by_cases aW:U l=0
 .simp only[aW,ei];grind
 .simp only[aW,lL];constructor
  .repeat' split
   all_goals omega
  .intro _;repeat' split
   all_goals omega
def Ok(l:B):jE l<=U l:=(afA l).1
def Ol(h:l≠[]):0<jE l:=(afA l).2 h
def SA:∀{n v x:Nat} {l r:B},hexN n v l=.ok x r->U r+n=U l
 |0,v,x,l,r,h=>by simp only[hexN,eW.ok.injEq] at h;grind
 |n+1,v,x,l,r,h=>by
  rw[hexN] at h;split at h
  .rename_i d aG;have:=SA h;cases l with
   |nil=>simp[top,fQ] at aG
   |cons c l=>grind
  .cases h
def LV(h:escape l=.ok s r):U s+U r<=U l/\U r<U l:=by
 have au:top l≠0->0<U l:=λh=>by cases l with
  |nil=>simp[top] at h
  |cons=>simp
 unfold escape at h;simp only at h;have one:∀{x:UInt8},top l≠0->eW.ok [x] l.tail=eW.ok s r->U s+U r<=U l/\U r<U l:=λ{x} bk e=>by
  grind
 repeat (split at h;grind)
 split at h
 .rename_i hu;have:=au I;split at h
  .rename_i v cC ae;have ae:=SA ae;split at h
   .cases h
   .simp only[eW.ok.injEq] at h;have aT:=Q0 v;grind
  .cases h
 grind
def Ga(h:plain l=.ok s r):U s+U r=U l/\U r<U l:=by
 unfold plain at h;split at h
 .cases h
 .rename_i ay;simp only[eW.ok.injEq] at h;have aa:=Ol (l:=l) (λe=>ay (bF e));have ad:=Ok l;grind
section
variable{h:H}{p t i j sd n c:Nat}{D:B}{k R:K}
def Pt(dn:jM h)(dV:2<=p)(aJ:p<ag h)(aM:U D<=400)(az:i<=U D)(q:sg (plain (ax i D)) S wM D h p t R):bo 61 [aN p] (a3 h p D t i 0) R:=by
 apply amx;refine hn aJ aM I (B6 aJ (λaa=>?_) λaa=>?_)
 .have e:plain (ax i D)=.no 1:=by unfold plain;rw[aA (bF (iu aa))]
  rw[e] at q;refine aR ?_;exact iK (n:=1) aJ (q aE _ _ (aB.refl _) ⟨[],rfl,aE⟩)
 .have bk:ax i D≠[]:=λe=>by have:=mQ List.length e;grind
  have pK:((g D i<32/\g D i≠9)\/g D i=127)->bD 21 [aN p,ah 1] (a3 h p D t i 0) λ_ h=>R (S []) h:=λay=>by
   have e:plain (ax i D)=.no 1:=by unfold plain;rw[aA (bt (by simpa only[eF] using ay))]
   rw[e] at q;exact iK (n:=1) aJ (q aE _ _ (aB.refl _) ⟨[],rfl,aE⟩)
  have aw:=Ok (ax i D);have ar:=Ol bk;simp only[ix] at aw;have go:¬((g D i<32/\g D i≠9)\/g D i=127)->bD 86 [S (ax i D)] (a3 h p D t i 0) λgC h=>Pu (exv 0 gC) h λf' h=>Pu (exv 1 gC) h λg2 h=>Pu (fd 1 (aN p)) h λhS h=>cd hS h λjj h=>
    Pu (bn .add jj g2) h λgT h=>Pu (fd 1 (aN p)) h λmL h=>bZ 1 mL gT h λ_ h=>Pu (fd 0 (aN p)) h λj2 h=>cd j2 h λmM h=>Pu (fd 1 (aN p)) h λkM h=>cd kM h λpR h=>
    Pu (bn .sub pR g2) h λlH h=>Pu (fd 1 (aN p)) h λkj h=>cd kj h λme h=>Pu (sls mM (J lH) (J me)) h λjI h=>R jI h:=λay=>by
   have e:plain (ax i D)=.ok (bf (jE (ax i D)) (ax i D)) (ax (jE (ax i D)) (ax i D)):=by
    unfold plain;rw[ak];simp only[eF,bk,false_or];exact ay
   rw[e] at q;refine ajN (dn.a3 dV) (by simp;omega) λv h' he=>?_;generalize jE (ax i D)=m at q aw ar⊢;obtain⟨aa,AY,rfl⟩:=MA aJ he;have dE:=AY.lt aJ;have aC:=q aa (i+m) AY I m8;have aP:ax i (bf (i+m) D)=bf m (ax i D):=al
   refine dG @KD aP ?_;exact aC
  refine aR ?_;refine⟨λan=>⟨λaT=>pK (bF ⟨an,aT⟩),λaT=>?_⟩,λan=>⟨λaT=>pK (bt aT),λaT=>go I⟩⟩;grind
def K0(f:Nat->B->eW B)(D:B)(h:H)(p t:Nat)(target:eW B)(m:Nat)(v:ao)(h':H):Prop:=
 ∃aa,aB h aa/\((∃n out j,v=S out/\h'=a3 aa p D t j 0/\j<=U D/\U out<=j/\U D-j<n/\pre out (f n (ax j D))=target/\m=U D-j+1)\/(∃c,c≠0/\target=.no c/\h'=a3 aa p D t (U D) c/\m=0))
def UY(a b:B)(r:eW B):pre a (pre b r)=pre (a++b) r:=by cases r<;>simp[pre]
def pre_nil(r:eW B):pre [] r=r:=by cases r<;>simp[pre]
def HL{target:eW B}{N:ao->H->Prop}{aa:H}{out:B}{res:eW B}{m di:Nat}(he:aB h aa)(aM:U D<=400)(aC:j<=U D)(aH:U out<=j)
  (a7:∀ez v h',ez<m->K0 f D h p t target ez v h'->N v h') (hm:m=U D-j+1) (ma:U D-j<di+1)
  (aP:pre out (match res with| .ok s r=>pre s (f di r)| .no c=>.no c)=target) (hlen:∀s r,res=.ok s r->U s+U r<=U D-j/\U r<U D-j):
  sg res S wM D aa p t (λv h=>Pu (bn .add (S out) v) h λv h=>N v h):=by
 cases res with
 |no c=>
  rintro ay ad v vi ⟨s,rfl,aL⟩;refine aR ?_;exact a7 0 _ _ I ⟨ad,he.trans vi,bt ⟨c,ay,aP.symm,rfl,rfl⟩⟩
 |ok s r=>
  intro ad bc vi ij aF;subst aF;have:=hlen s _ rfl;simp only[ix] at this;refine aR ?_;refine a7 (U D-bc+1) _ _ I ⟨ad,he.trans vi,bF ⟨di,out++s,bc,rfl,rfl,ij,by simp;omega,I,?_,rfl⟩⟩;rw[<-aP];simp only;rw[UY]
def Xg(dn:jM h)(dV:2<=p)(aJ:p<ag h)(aM:U D<=400)(az:i<U D)(aI:U D-(i+1)<n)(q:sg (basic n (ax (i+1) D)) S wM D h p t R):bo 42 [aN p] (a3 h p D t i 0) R:=by
 apply amf;refine aR ?_;refine eV (K0 basic D h p t (basic n (ax (i+1) D))) (U D-(i+1)+1) ⟨h,aB.refl _,bF ⟨n,[],i+1,rfl,rfl,az,a1,aI,pre_nil _,rfl⟩⟩ ?_;rintro m d v h' N ⟨aa,he,e_⟩ a7;have dE:=he.lt aJ;rcases e_ with ⟨di,out,j,rfl,rfl,aC,sB,ma,aP,rfl⟩|⟨c,ay,fR,rfl,rfl⟩
 .refine j8 dE (λ_=>?_) (λe=>absurd rfl e);obtain⟨di,rfl⟩:=tL (I:di≠0);refine aR ?_;refine hn dE aM I ?_;rw[basic,eF,tail_drop] at aP;refine aR ?_;refine⟨λad=>?_,λad=>⟨λan=>?_,λan=>?_⟩⟩
  .have:=cu (D:=D) (i:=j) I;rw[aA ad] at aP;rw[<-aP] at q;simpa[pre] using q aa (j+1) he I rfl
  .have au:=cu (D:=D) (i:=j) I;rw[ak ad,aA an] at aP;refine Xm dE aM au (sg.afN ?_);exact HL he aM aC sB a7 rfl ma aP λs r e=>by
    have:=LV e;grind
  .rw[ak ad,ak an] at aP;refine Pt (dn.ext he) dV dE aM aC ?_;exact HL he aM aC sB a7 rfl ma aP λs r e=>by
    have:=Ga e;grind
 .refine j8 dE (λe=>absurd e ay) λ_=>?_;refine aR ?_;rw[fR] at q;exact q ay aa _ he ⟨[],rfl,a1⟩
def Xh(dn:jM h)(dV:2<=p)(aJ:p<ag h)(aM:U D<=400)(az:i<U D)(aI:U D-(i+1)<n)(q:sg (literal n (ax (i+1) D)) S wM D h p t R):bo 43 [aN p] (a3 h p D t i 0) R:=by
 apply amg;refine aR ?_;refine eV (K0 literal D h p t (literal n (ax (i+1) D))) (U D-(i+1)+1) ⟨h,aB.refl _,bF ⟨n,[],i+1,rfl,rfl,az,a1,aI,pre_nil _,rfl⟩⟩ ?_;rintro m d v h' N ⟨aa,he,e_⟩ a7;have dE:=he.lt aJ;rcases e_ with ⟨di,out,j,rfl,rfl,aC,sB,ma,aP,rfl⟩|⟨c,ay,fR,rfl,rfl⟩
 .refine j8 dE (λ_=>?_) (λe=>absurd rfl e);obtain⟨di,rfl⟩:=tL (I:di≠0);refine aR ?_;refine hn dE aM I ?_;rw[literal,eF,tail_drop] at aP;refine aR ?_;refine⟨λad=>?_,λad=>?_⟩
  .have:=cu (D:=D) (i:=j) I;rw[aA ad] at aP;rw[<-aP] at q;simpa[pre] using q aa (j+1) he I rfl
  .rw[ak ad] at aP;refine Pt (dn.ext he) dV dE aM aC ?_;exact HL he aM aC sB a7 rfl ma aP λs r e=>by
    have:=Ga e;grind
 .refine j8 dE (λe=>absurd e ay) λ_=>?_;refine aR ?_;rw[fR] at q;exact q ay aa _ he ⟨[],rfl,a1⟩
end
def mcnt(m:Nat):B->Nat
 |[]=>0
 |c::l=>if c.toNat=m then mcnt m l+1 else 0
def sevLoop(m:Nat):Nat->B->eW B
 |0,_=>.no 9
 |n+1,l=>if l=[] then .no 1
  else if top l=m then(if mcnt m l<3 then pre (bf (mcnt m l) l) (sevLoop m n (ax (mcnt m l) l)) else if 5<mcnt m l then .no 1 else .ok (bf (mcnt m l-3) l) (ax (mcnt m l) l))
  else if top l=10 then pre [10] (sevLoop m n l.tail)
  else if[13,10]<+:l then .no 2
  else if top l=92/\m=34 then match zu l.tail with
   |some r=>sevLoop m n r
   |none=>match escape l.tail with
    | .ok s r=>pre s (sevLoop m n r)
    | .no c=>.no c
  else match plain l with
   | .ok s r=>pre s (sevLoop m n r)
   | .no c=>.no c
def Gd(m n:Nat)(l:B):eW B:=sevLoop m n ((o3 l).getD l)
def wR(hm:m≠0):mcnt m (ax j D)=if g D j=m then mcnt m (ax (j+1) D)+1 else 0:=by
 rcases jw j (U D) with au|au
 .rw[nt au,mcnt,fu au]
 .rw[iu au,mcnt,ak];intro e;have:=cu (D:=D) (i:=j) I;omega
def Ui(m:Nat):∀l:B,mcnt m l<=U l
 |[]=>bQ _
 |c::l=>by
  rw[mcnt];split
  .have:=Ui m l;simp;omega
  omega
def NX(h:o3 l=J r):U r<U l:=by
 unfold o3 at h;split at h
 .rename_i aP;cases l with
  |nil=>simp[top] at aP
  |cons c l=>grind
 grind
section
variable{h:H}{p t i j sd n c m:Nat}{D:B}{k R:K}
def ai7(aJ:p<ag h)(aM:U D<=400)(az:i<=U D)(q:∀v j,i<=j->j<=U D->(o3 (ax i D)).getD (ax i D)=ax j D->R v (a3 h p D t j sd)):bo 20 [aN p] (a3 h p D t i sd) R:=
 Ef aJ aM az (λj aa ad an=>q _ j I ad (by rw[an];rfl)) λan=>q _ i (bQ _) az (by rw[an];rfl)
def adr:∀(n:Nat) (l:B),U (wL n l)<=U l
 |0,l=>bQ _
 |n+1,l=>by
  have af:∀l,U (blanks l)<=U l:=by
   intro l;induction l with
   |nil=>exact bQ _
   |cons c l bR=>rw[blanks];grind
  rw[wL];split
  .exact af l
  .rename_i gi au;have:=NX au;have:=adr n gi;grind
def ajo(dn:jM h)(dV:2<=p)(aJ:p<ag h)(aM:U D<=400)(az:i+3<=U D)(hm:m=34\/m=39)(aI:U D-(i+3)<n)(q:sg (Gd m n (ax (i+3) D)) S wM D h p t R):bo 41 [aN p,bu (m:Int)] (a3 h p D t i 0) R:=by
 apply ame;refine aR ?_;refine ai7 aJ aM az λ_ i1 aa ad an=>?_;unfold Gd at q;rw[an] at q;refine aR ?_;refine eV (K0 (sevLoop m) D h p t (sevLoop m n (ax i1 D))) (U D-i1+1) ⟨h,aB.refl _,bF ⟨n,[],i1,rfl,rfl,ad,a1,I,pre_nil _,rfl⟩⟩ ?_;rintro dW d v h' N ⟨aa,he,e_⟩ a7;have dE:=he.lt aJ;rcases e_ with ⟨di,out,j,rfl,rfl,aC,sB,ma,aP,rfl⟩|⟨c,ay,fR,rfl,rfl⟩
 .refine j8 dE (λ_=>?_) (λe=>absurd rfl e);obtain⟨di,rfl⟩:=tL (I:di≠0);refine aR ?_;refine lO ?_;refine hn dE aM I (B6 dE (λaT=>?_) λaT=>?_)
  .refine aR ?_;rw[sevLoop,aA (iu aT)] at aP;refine iK (n:=1) dE ?_;exact a7 0 _ _ I ⟨aa,he,bt ⟨1,aE,by simpa[pre] using aP.symm,rfl,rfl⟩⟩
  .have bk:ax j D≠[]:=λe=>by have:=mQ List.length e;grind
   rw[sevLoop,ak bk,eF,tail_drop] at aP;refine aR ?_;refine⟨λbN=>?_,λbN=>?_⟩
   .rw[aA bN] at aP;have eS:=Ui m (ax j D);simp only[ix] at eS;refine eV (λmk v h'=>∃k:Nat,v=ah k/\h'=a3 aa p D t j 0/\k+mcnt m (ax (j+k) D)=mcnt m (ax j D)/\mk=400-k) 400 ⟨0,rfl,rfl,a1,I⟩ ?_;rintro mk d v h' xq ⟨k,rfl,rfl,aq,rfl⟩ so;refine KM dE aM I I ?_;rw[wR I] at aq;refine aR ?_;refine⟨λcB=>?_,λcB=>?_⟩
    .have:=cu (D:=D) (i:=j+k) I;rw[aA cB] at aq;exact so (400-(k+1)) _ _ I ⟨k+1,rfl,rfl,al,rfl⟩
    .rw[ak cB,nm] at aq;subst aq;have zk:0<mcnt m (ax j D):=al
     generalize mcnt m (ax j D)=k at aP eS cB zk;have aL:ax j (bf (j+k) D)=bf k (ax j D):=al
     have q1:ax j (bf (j+k-3) D)=bf (k-3) (ax j D):=by rw[BW];grind
     have aG:ax (j+k) D=ax k (ax j D):=m8
     have fg:U (bf k (ax j D))=k:=al
     have mB:U (bf (k-3) (ax j D))=k-3:=al
     refine hk @KD aL q1 ?_;refine⟨λde=>?_,λde=>⟨λhC=>?_,λhC=>?_⟩⟩
     .rw[aA de] at aP;refine a7 (U D-(j+k)+1) _ _ I ⟨aa,he,bF ⟨di,_,j+k,rfl,rfl,I,al,I,?_,rfl⟩⟩;rw[<-aP,aG,UY]
     .rw[ak de,aA hC] at aP;rw[<-aP] at q;exact iK (n:=1) dE (q aE aa _ he ⟨[],rfl,a1⟩)
     .rw[ak de,ak hC] at aP;rw[<-aP] at q;exact q aa (j+k) he I aG
   .rw[ak bN] at aP;refine⟨λcB=>?_,λcB=>?_⟩
    .have au:=cu (D:=D) (i:=j) I;rw[aA cB] at aP;have atz:U ([10]:B)=1:=rfl;refine aR ?_;refine a7 (U D-(j+1)+1) _ _ I ⟨aa,he,bF ⟨di,out++[10],j+1,rfl,rfl,I,al,I,?_,rfl⟩⟩;rw[<-aP,UY]
    .rw[ak cB] at aP;refine sU dE aM aC a1 (λde=>?_) λde=>?_
     .refine aR ?_;rw[aA de] at aP;refine iK (n:=2) dE ?_;exact a7 0 _ _ I ⟨aa,he,bt ⟨2,aE,by simpa[pre] using aP.symm,rfl,rfl⟩⟩
     .rw[ak de] at aP;have pl:¬(g D j=92/\m=34)->bD 61 [aN p] (a3 aa p D t j 0) λqz h=>Pu (bn .add (S out) qz) h λmj h=>N mj h:=λay=>by
       rw[ak ay] at aP;refine Pt (dn.ext he) dV dE aM aC ?_;exact HL he aM aC sB a7 rfl ma aP λs r e=>by
        have:=Ga e;grind
      refine aR ?_;refine⟨λhC=>⟨λgg=>?_,λgg=>pl I⟩,λhC=>pl I⟩;have au:=cu (D:=D) (i:=j) I;rw[aA ⟨hC,gg⟩] at aP;refine ajw dE aM au (λbc dh qR ue=>?_) λue=>?_
      .refine aR ?_;rw[ue] at aP;exact a7 (U D-bc+1) _ _ I ⟨aa,he,bF ⟨di,_,bc,rfl,rfl,qR,I,I,aP,rfl⟩⟩
      .refine aR ?_;rw[ue] at aP;refine Xm dE aM au (sg.afN ?_);exact HL he aM aC sB a7 rfl ma aP λs r e=>by
        have:=LV e;grind
 .refine j8 dE (λe=>absurd e ay) λ_=>?_;refine aR ?_;rw[fR] at q;exact q ay aa _ he ⟨[],rfl,a1⟩
end
def tR:Z 9=[S []]:=b4
def bareN:B->Nat
 |[]=>0
 |c::l=>if jN c.toNat then bareN l+1 else 0
def simple(F:Nat)(l:B):eW B:=if top l=34 then basic F l.tail else if top l=39 then literal F l.tail else if bareN l=0 then .no 1 else .ok (bf (bareN l) l) (ax (bareN l) l)
def keyLoop(F:Nat):Nat->List B->B->eW (List B)
 |0,_,_=>.no 9
 |n+1,acc,l=>if top (blanks l)≠46 then .ok acc (blanks l) else match simple F (blanks (blanks l).tail) with
  | .ok k r=>keyLoop F n (acc++[k]) r
  | .no c=>.no c
def key(F:Nat)(l:B):eW (List B):=match simple F l with
 | .ok k r=>keyLoop F F [k] r
 | .no c=>.no c
def Lu:bareN (ax j D)=if jN (g D j) then bareN (ax (j+1) D)+1 else 0:=by
 rcases jw j (U D) with au|au
 .rw[nt au,bareN,fu au]
 .rw[iu au,bareN,ak];intro e;have:=cu (D:=D) (i:=j) (by unfold jN at e;omega);omega
def Hm:∀l:B,bareN l<=U l
 |[]=>bQ _
 |c::l=>by
  rw[bareN];split
  .have:=Hm l;simp;omega
  omega
def uk(aJ:p<ag h)(x:Obj):a6 (a3 h p D t i sd) x=a3 (a6 h x) p D t i sd:=by
 unfold a3;grind
def arX(aJ:p<ag h)(aF:ro≠J p)(e:bV ro (a3 h p D t i sd) h'):∃aa,bV ro h aa/\h'=a3 aa p D t i sd:=by
 refine⟨dy h' p h[p],⟨by simpa[a3] using e.1,λb af ass=>?_⟩,?_⟩
 .rw[D3];by_cases ja:p=b
  .subst ja;have:p<ag h':=cP (by rw[dm];exact aJ) e.1;grind
  .rw[ak ja,e.2 b (by rw[dm];exact af) ass,g1 (O9 ja)]
 .unfold a3;rw[set_set];have:=e.2 p (by rw[dm];exact aJ) (λe=>aF e.symm);rw[qS aJ] at this;grind
def b2.at(aF:b2 h v sz L ro)(e:∀r,ro=J r->h'[r]?=h[r]?):b2 h' v sz L ro:=by
 cases ro with
 |none=>exact aF
 |some r=>
  obtain⟨len,cap,c,t,aa,ad,an⟩:=aF;exact⟨len,cap,c,t,aa,al,an⟩
def D_(aV:cellsL z=[z])(aD:cellsL v=[v]):ew t 1 [z] [(0,1,v)] h k=k (a5 (J ⟨ag h,0,ab⟩) 1 1) (a6 h (aO #[v] t)):=by
 simp[ew,repL,fillL,aD,putL]
section
variable{h:H}{p t i j sd n c m F:Nat}{D:B}{k R:K}
def Xf(dn:jM h)(dV:2<=p)(aJ:p<ag h)(aM:U D<=400)(az:i<=U D)(iR:U D<F)(q:sg (simple F (ax i D)) S wM D h p t R):bo 40 [aN p] (a3 h p D t i 0) R:=by
 apply amd;unfold simple at q;rw[eF,tail_drop] at q;refine hn aJ aM I ?_;refine aR ?_;refine⟨λaa=>?_,λaa=>⟨λad=>?_,λad=>?_⟩⟩
 .rw[aA aa] at q;exact Xg dn dV aJ aM (cu I) I q
 .rw[ak aa,aA ad] at q;exact Xh dn dV aJ aM (cu I) I q
 .rw[ak aa,ak ad] at q;have af:=Hm (ax i D);simp only[ix] at af;refine sX (λm h'=>∃k:Nat,k+bareN (ax (i+k) D)=bareN (ax i D)/\h'=a3 h p D t (i+k) 0/\m=400-k) 400 ⟨0,a1,rfl,rfl⟩ ?_;rintro dW d h' N ⟨k,aq,rfl,rfl⟩ a7;have fin:bareN (ax (i+k) D)=0->(i+k=i->bD 21 [aN p,ah 1] (a3 h p D t (i+k) 0) λv h=>R (S []) h)/\(¬i+k=i->R (S (ax i (bf (i+k) D))) (a3 h p D t (i+k) 0)):=λaV=>by
   rw[aV,nm] at aq;rw[<-aq] at q;refine⟨λe=>?_,λe=>?_⟩
   .rw[aA I] at q;exact iK (n:=1) aJ (q aE h _ (aB.refl _) ⟨[],rfl,aE⟩)
   .rw[ak I] at q;have aL:ax i (bf (i+k) D)=bf k (ax i D):=al
    rw[aL];exact q h (i+k) (aB.refl _) I m8
  refine B6 aJ (λan=>?_) λan=>?_
  .have:=fin I;refine aR ?_;exact this
  .refine aR ?_;refine hn aJ aM I ?_;refine Xi (λaT=>?_) λaT=>?_
   .rw[Lu,aA aT] at aq;refine aR ?_;exact a7 (400-(k+1)) _ I ⟨k+1,al,rfl,rfl⟩
   .have:=fin (by rw[Lu,ak aT]);refine aR ?_;exact this
def vW:∀l:B,U (blanks l)<=U l
 |[]=>bQ _
 |c::l=>by
  have:=vW l;rw[blanks];grind
def UX(h:pre s x=.ok a r):∃b,x=.ok b r/\a=s++b:=by
 cases x with
 |ok b cC=>simp only[pre,eW.ok.injEq] at h;grind
 |no c=>cases h
def Gi(h:top l≠0):0<U l:=by
 cases l with
 |nil=>simp[top] at h
 |cons=>simp
def Qi:∀{n:Nat} {l s r:B},basic n l=.ok s r->U s+U r<=U l/\U r<U l
 |0,l,s,r,h=>by cases h
 |n+1,l,s,r,h=>by
  rw[basic] at h;split at h
  .have:=Gi (l:=l) I;grind
  .split at h
   .rename_i s1 cc aL;have au:U s1+U cc<=U l/\U cc<U l:=by
     split at aL
     .have:=LV aL;grind
     .have:=Ga aL;omega
    obtain⟨b,af,rfl⟩:=UX h;have:=Qi af;simp;omega
   .cases h
def T9:∀{n:Nat} {l s r:B},literal n l=.ok s r->U s+U r<=U l/\U r<U l
 |0,l,s,r,h=>by cases h
 |n+1,l,s,r,h=>by
  rw[literal] at h;split at h
  .have:=Gi (l:=l) I;grind
  .split at h
   .rename_i s1 cc aL;have:=Ga aL;obtain⟨b,af,rfl⟩:=UX h;have:=T9 af;simp;omega
   .cases h
def OA(h:simple n l=.ok s r):U s+U r<=U l/\U r<U l:=by
 unfold simple at h;split at h
 .have:=Qi h;grind
 .split at h
  .have:=T9 h;grind
  .split at h
   .cases h
   .have af:=Hm l;grind
def anm(res:eW (List B))(D:B)(h:H)(p t:Nat)(R:K):Prop:=match res with
 | .ok ks l=>∀aa j v r,aB h aa->ag h<=r->j<=U D->ax j D=l->ks≠[]->U ks<=401->b2 aa v 1 (ks.map S) (J r)->R v (a3 aa p D t j 0)
 | .no c=>c≠0->∀aa v,aB h aa->R v (a3 aa p D t (U D) c)
def Xd(dn:jM h)(dV:2<=p)(aJ:p<ag h)(aM:U D<=400)(az:i<=U D)(iR:U D<F)(q:anm (key F (ax i D)) D h p t R):bo 25 [aN p] (a3 h p D t i 0) R:=by
 apply alX;unfold key at q;refine Xf dn dV aJ aM az iR ?_;let b7:Nat->ao->H->Prop:=λm v h'=>∃aa j,aB h aa/\((∃n acc r,h'=a3 aa p D t j 0/\j<=U D/\ag h<=r/\acc≠[]/\U acc<=j+1/\U D-j<n/\b2 aa v 1 (acc.map S) (J r)/\keyLoop F n acc (ax j D)=(match simple F (ax i D) with| .ok k r=>keyLoop F F [k] r| .no c=>.no c)/\m=U D-j+1)\/
  (∃c,c≠0/\(match simple F (ax i D) with| .ok k r=>keyLoop F F [k] r| .no c=>.no c)=.no c/\h'=a3 aa p D t (U D) c/\m=0))
 have loop:∀m v h',b7 m v h'->iL 1 [v] h' λlN _ dD h=>bD 12 [aN p] h λv4 h=>b1 v4 (bD 13 [aN p] h λfI h=>bD 14 [aN p,(ah 0)] h λv6 h=>Pu (bn hF v6 (bu 46)) h λhH h=>b1 hH (R dD h)<|
   Pu (nc (aN p)) h λj4 h=>Pu (fd 1 j4) h λj5 h=>cd j5 h λv10 h=>Pu (bn .add v10 (ah 1)) h λv11 h=>Pu (nc (aN p)) h λhv h=>Pu (fd 1 hv) h λjG h=>bZ 1 jG v11 h λ_ h=>
   bD 13 [aN p] h λlG h=>bD 40 [aN p] h λjh h=>ew 9 1 (Z 9) [(0,1,jh)] h λiq h=>Ap 9 1 16 (Z 9) dD iq h λiY h=>lN iY h)<|R dD h:=by
  intro m v h' cr;refine eV b7 m cr ?_;rintro dW d v h' N ⟨aa,j,he,e_⟩ a7;have dE:=he.lt aJ;rcases e_ with ⟨n,acc,r,rfl,aC,aF,bk,xM,aI,e1,aP,rfl⟩|⟨c,ay,fR,rfl,rfl⟩
  .refine j8 dE (λ_=>?_) (λe=>absurd rfl e);obtain⟨n,rfl⟩:=tL (I:n≠0);refine aR ?_;refine sa dE aM aC λbS ad an aT=>hn dE aM I ?_;rw[keyLoop,<-aT,eF,tail_drop] at aP;refine aR ?_;refine⟨λbN=>?_,λbN=>?_⟩
   .rw[aA bN] at aP;rw[<-aP] at q;exact q aa bS v r he aF an rfl bk I e1
   .rw[ak bN] at aP;have au:=cu (D:=D) (i:=bS) I;refine sa dE aM au λbc cB de hC=>Xf (dn.ext he) dV dE aM de iR ?_;rw[<-hC] at aP;have app:∀s ad (eL sd:Nat),aB aa ad->(∀an ch cC,aB h an->ag h<=cC->b2 an ch 1 ((acc++[s]).map S) (J cC)->N ch (a3 an p D t eL sd))->
      ew 9 1 (Z 9) [(0,1,S s)] (a3 ad p D t eL sd) λiq h=>Ap 9 1 16 (Z 9) v iq h λiY h=>N iY h:=by
     intro s ad eL sd ar fin;have auc:=ar.lt dE;rw[tR,D_ rfl rfl,uk auc,dm];have aS:aB h (a6 ad (aO #[S s] 9)):=(he.trans ar).trans (aB.push _ _);have hM:p<ag (a6 ad (aO #[S s] 9)):=by simp;omega
     have C':b2 (a3 (a6 ad (aO #[S s] 9)) p D t eL sd) v 1 (acc.map S) (J r):=e1.at λcC fh=>by
      cases fh;rw[g1 I];have il:r<ag aa:=by
       obtain⟨len,cap,c,eO,_,af,_⟩:=e1;grind
      exact(ar.trans (aB.push _ _)).2 r il
     refine b2.append (n:=1) (new:=#[S s]) (M:=[S s]) C' aE rfl rfl ?_ rfl rfl rfl ?_ ?_
     .have:(a3 (a6 ad (aO #[S s] 9)) p D t eL sd)[ag ad]?=J (aO #[S s] 9):=by rw[g1 I];grind
      simp[shown,this]
     .simp;omega
     .intro ch h' b0 bl x3 dF;obtain⟨an,dt,rfl⟩:=arX hM al bl;have e6:aB h an:=bV.fe aS dt λcC fh=>al
      have q0:∃cC,b0=J cC/\ag h<=cC:=by
       rcases dF with rfl|rfl
       .grind
       .exact⟨_,rfl,by rw[dm];exact aS.1⟩
      obtain⟨cC,rfl,fh⟩:=q0;refine fin an ch cC e6 fh ?_;rw[rr];exact x3.at λafl e=>by cases e;rw[g1 I]
    cases aL:simple F (ax bc D) with
    |no c=>
     rw[aL] at aP;rintro ay ad v ar ⟨s,rfl,_⟩;have fin:∀an ch cC,aB h an->ag h<=cC->b2 an ch 1 ((acc++[s]).map S) (J cC)->N ch (a3 an p D t (U D) c):=λan ch cC aS fh x3=>
      a7 0 _ _ I ⟨an,j,aS,bt ⟨c,ay,aP.symm,rfl,rfl⟩⟩
     grind
    |ok s l=>
     rw[aL] at aP;have k1:=OA aL;simp only[ix] at k1;intro ad eL ar wv mB;subst mB;simp only[ix] at k1;have bE:U (acc++[s])<=eL+1:=al
     have fin:∀an ch cC,aB h an->ag h<=cC->b2 an ch 1 ((acc++[s]).map S) (J cC)->N ch (a3 an p D t eL 0):=λan ch cC aS fh x3=>
      a7 (U D-eL+1) _ _ I ⟨an,eL,aS,bF ⟨n,acc++[s],cC,rfl,wv,fh,a1,bE,I,x3,aP,rfl⟩⟩
     grind
  .refine j8 dE (λe=>absurd e ay) λ_=>?_;refine aR ?_;rw[fR] at q;exact q ay aa _ he
 have start:∀s aa (j sd:Nat),aB h aa->(∀ad v,aB h ad->b2 ad v 1 ([s].map S) (J (ag aa))->∃m,b7 m v (a3 ad p D t j sd))->ew 9 1 (Z 9) [(0,1,S s)] (a3 aa p D t j sd) λv2 h=>
   iL 1 [v2] h λlN _ dD h=>bD 12 [aN p] h λv4 h=>b1 v4 (bD 13 [aN p] h λfI h=>bD 14 [aN p,(ah 0)] h λv6 h=>Pu (bn hF v6 (bu 46)) h λhH h=>b1 hH (R dD h)<|
   Pu (nc (aN p)) h λj4 h=>Pu (fd 1 j4) h λj5 h=>cd j5 h λv10 h=>Pu (bn .add v10 (ah 1)) h λv11 h=>Pu (nc (aN p)) h λhv h=>Pu (fd 1 hv) h λjG h=>bZ 1 jG v11 h λ_ h=>
   bD 13 [aN p] h λlG h=>bD 40 [aN p] h λjh h=>ew 9 1 (Z 9) [(0,1,jh)] h λiq h=>Ap 9 1 16 (Z 9) dD iq h λiY h=>lN iY h)<|R dD h:=by
  intro s aa j sd e fin;rw[tR,D_ rfl rfl,uk (e.lt aJ),dm];obtain⟨m,cr⟩:=fin (a6 aa (aO #[S s] 9)) (a5 (J ⟨ag aa,0,ab⟩) 1 1) (e.trans (aB.push _ _)) ⟨1,1,#[S s],9,rfl,dS _ _,bQ _,rfl,rfl,rfl⟩;exact loop m _ _ cr
 cases aL:simple F (ax i D) with
 |no c=>
  rintro ay aa v aw ⟨s,rfl,_⟩;have:=start s aa (U D) c aw λad v ar _=>⟨0,ad,i,ar,bt ⟨c,ay,by rw[aL],rfl,rfl⟩⟩;exact this
 |ok s l=>
  have k1:=OA aL;intro aa j aw aC au;subst au;simp only[ix] at k1;have:=start s aa j 0 aw λad v ar e1=>⟨U D-j+1,ad,j,ar,bF ⟨F,[s],ag aa,rfl,aC,aw.1,a1,a1,I,e1,by rw[aL],rfl⟩⟩;exact this
end
structure db(h:H)(b:Nat)(D:B)(C:Nat):Prop where
 le:U D<=C
 mH:C<9223372036854775808
 len:U D<=400
 cells:∃c t b3,h[b]?=J (aO c t b3)/\ag c=C/\∀i,i<U D->c[i]?=J (bu (g D i:Int))
def db.ext(d:db h b D C)(e:aB h h'):db h' b D C:=by
 obtain⟨c,t,b3,af,aa,ad⟩:=d.cells;exact⟨d.le,d.mH,d.len,c,t,b3,by rw[e.2 b (cm.1 af).1];exact af,aa,ad⟩
def bp(b i j C:Nat)(v:ao):Prop:=∃e,v=a5 (J ⟨b,e,ab⟩) (j-i) (C-i)/\(i<C->e=i)/\i<=j/\j<=C/\e<=C
def bp.of(aa:n=j-i)(ad:c=C-i)(an:(i<C->e=i)/\i<=j/\j<=C/\e<=C):bp b i j C (a5 (J ⟨b,e,ab⟩) n c):=by
 subst aa ad;exact⟨e,rfl,an.1,an.2⟩
section
variable{h:H}{k:K}{b e n c i l:Nat}{dq:IntKind}
@[go_sem] def IX(az:i<n):ia 1 (a5 (J ⟨b,e,ab⟩) n c) (ba dq (i:Int))=J (bU (J ⟨b,e+i,ab⟩)):=by
 simp only[ia,pU,nn];rw[aA ⟨I,I⟩];simp only[Addr.add];grind
@[go_sem] def aFs(az:0<n):ia 1 (a5 (J ⟨b,e,ab⟩) n c) (ba dq 0)=J (bU (J ⟨b,e,ab⟩)):=IX (i:=0) az
@[go_sem] def aFt(az:OfNat.ofNat l<n):ia 1 (a5 (J ⟨b,e,ab⟩) n c) (ba dq (no_index (OfNat.ofNat l):Int))=J (bU (J ⟨b,e+OfNat.ofNat l,ab⟩)):=IX az
attribute [go_sem] nm
def qH(aM:db h b D C)(he:i<C->e=i)(au:i+l<U D):cd (bU (J ⟨b,e+l,ab⟩)) h k=k (bu (g D (i+l):Int)) h:=by
 obtain⟨c,t,b3,af,aa,ad⟩:=aM.cells;have:=aM.le;rw[fs af,he I,ad _ au];rfl
def vN(aM:db h b D C)(he:i<C->e=i)(au:i<U D):cd (bU (J ⟨b,e,ab⟩)) h k=k (bu (g D i:Int)) h:=qH (l:=0) aM he au
def cX(c l e:Nat):Nat:=if c=l then e else e+l
def Vy{j m:Nat}{br az:Option ao}(xX:br=J (ah (i:Int))\/(br=ab/\i=0))(SH:az=J (ah (j:Int))\/(az=ab/\j=n))(aa:i<=j)(ad:j<=n)(an:n<=c):sl 1 (a5 (J ⟨b,e,ab⟩) n c) br az ab=J (a5 (J ⟨b,cX c i e,ab⟩) (j-i) (c-i)):=by
 have ar:ub c az n=J j:=by
  rcases SH with rfl|⟨rfl,rfl⟩
  .simp[ub];omega
  .simp[ub]
 have aw:ub j br 0=J i:=by
  rcases xX with rfl|⟨rfl,rfl⟩
  .simp[ub];omega
  .simp[ub]
 have bP:ub c ab c=J c:=rfl;simp only[sl,bP,ar,aw,cX];congr 2
 split
 .rfl
 .simp only[jl,Addr.add,nn];grind
@[go_sem] def azt(aa:i<=n)(an:n<=c):sl 1 (a5 (J ⟨b,e,ab⟩) n c) (J (ah (i:Int))) ab ab=J (a5 (J ⟨b,cX c i e,ab⟩) (n-i) (c-i)):=Vy (m:=0) (bF rfl) (bt ⟨rfl,rfl⟩) aa (bQ _) an
@[go_sem] def aGJ(aa:OfNat.ofNat l<=n)(an:n<=c):sl 1 (a5 (J ⟨b,e,ab⟩) n c) (J (ah (no_index (OfNat.ofNat l):Int))) ab ab=J (a5 (J ⟨b,cX c (OfNat.ofNat l) e,ab⟩) (n-OfNat.ofNat l) (c-OfNat.ofNat l)):=azt aa an
@[go_sem] def agm(aa:i<=n)(an:n<=c):sl 1 (a5 (J ⟨b,e,ab⟩) n c) ab (J (ah (i:Int))) ab=J (a5 (J ⟨b,e,ab⟩) i c):=by
 rw[Vy (i:=0) (m:=0) (bt ⟨rfl,rfl⟩) (bF rfl) (ed _) aa an];simp[cX]
@[go_sem] def aGK(aa:OfNat.ofNat l<=n)(an:n<=c):sl 1 (a5 (J ⟨b,e,ab⟩) n c) ab (J (ah (no_index (OfNat.ofNat l):Int))) ab=J (a5 (J ⟨b,e,ab⟩) (OfNat.ofNat l) c):=agm aa an
@[go_sem] def agl(aa:i<=j)(ad:j<=n)(an:n<=c):sl 1 (a5 (J ⟨b,e,ab⟩) n c) (J (ah (i:Int))) (J (ah (j:Int))) ab=J (a5 (J ⟨b,cX c i e,ab⟩) (j-i) (c-i)):=Vy (m:=0) (bF rfl) (bF rfl) aa ad an
@[go_sem] def aGI(aa:OfNat.ofNat l<=j)(ad:j<=n)(an:n<=c):sl 1 (a5 (J ⟨b,e,ab⟩) n c) (J (ah (no_index (OfNat.ofNat l):Int))) (J (ah (j:Int))) ab=J (a5 (J ⟨b,cX c (OfNat.ofNat l) e,ab⟩) (j-OfNat.ofNat l) (c-OfNat.ofNat l)):=agl aa ad an
def q_(aa:(OfNat.ofNat l:Nat)<=OfNat.ofNat dA)(ad:OfNat.ofNat dA<=n)(an:n<=c):sl 1 (a5 (J ⟨b,e,ab⟩) n c) (J (ah (no_index (OfNat.ofNat l):Int))) (J (ah (no_index (OfNat.ofNat dA):Int))) ab=J (a5 (J ⟨b,cX c (OfNat.ofNat l) e,ab⟩) (OfNat.ofNat dA-OfNat.ofNat l) (c-OfNat.ofNat l)):=agl aa ad an
@[go_sem] def aC3:oM (a5 a n c)=J (ah (c:Int)):=id rfl
end
def db.lt(d:db h b D C):b<ag h:=by
 obtain⟨c,t,b3,af,_⟩:=d.cells;grind
def e2(h:H)(b N C:Nat)(v:ao):Prop:=∃e au msg oy i j,v=cW 121 (aN e)/\h[e]?=J (aO #[au,msg,oy] 124)/\bp b i j C au/\j<=N/\∃s,msg=S s/\U s<=1000/\b<e
def e2.ext(d:e2 h b N C v)(e:aB h h'):e2 h' b N C v:=by
 obtain⟨x,au,msg,oy,i,j,aa,ad,an⟩:=d;exact⟨x,au,msg,oy,i,j,aa,by rw[e.2 x (cm.1 ad).1];exact ad,an⟩
def an1:Z 124=[a5 ab 0 0,S [],a5 ab 0 0]:=b4
section
variable{h:H}{R:K}{b N C i j:Nat}{v x:ao}{s:B}{D:B}
def gU(aD:bp b i j C v)(aC:j<=N)(q:∀e h',aB h h'->e2 h' b N C e->R e h')(aL:U s<=1000:=by first|decide|assumption)(dR:b<ag h:=by first|assumption|exact db.lt b8|exact cP (db.lt b8) (And.left b8)|(rw[Array.size_push];exact Nat.lt_succ_of_lt (db.lt b8))|omega):bo 51 [v,S s,x] h R:=by
 apply amo;obtain⟨e,rfl,aa,ad,an⟩:=aD;refine bG @an1 ?_;exact q _ _ (aB.push _ _) ⟨ag h,_,_,_,i,j,rfl,dS _ _,⟨e,rfl,aa,ad,an⟩,aC,s,rfl,aL,dR⟩
def ajt(aM:db h b D C)(aD:bp b i D.length C v)(q:∀j ch,i<=j->bp b j D.length C ch->D.drop j=blanks (D.drop i)->R ch h):bo 50 [v] h R:=by
 apply amn;refine eV (λm ch h'=>∃j,i<=j/\bp b j D.length C ch/\blanks (D.drop j)=blanks (D.drop i)/\h'=h/\m=D.length-j) (D.length-i) ⟨i,bQ _,aD,rfl,rfl,rfl⟩ ?_;rintro m d ch h' N ⟨j,eK,k2,af,rfl,rfl⟩ a7;obtain⟨e,rfl,aa,ad,an⟩:=k2;have au:=aM.mH;have step:(g D j=32\/g D j=9)->j<D.length->N (.slice (J ⟨b,cX (C-j) 1 e,ab⟩) (D.length-j-1) (C-j-1)) h':=λay a'=>
  a7 (D.length-(j+1)) _ _ I ⟨j+1,I,bp.of I I ⟨λ_=>by unfold cX;grind,I,I,by unfold cX;grind⟩,by rw[<-Qk ay];exact af,rfl,rfl⟩
 have fin:¬(g D j=32\/g D j=9)->R (.slice (J ⟨b,e,ab⟩) (D.length-j) (C-j)) h':=λay=>
  q j _ eK ⟨e,rfl,aa,ad,an⟩ (by rw[<-af,Qj (λe=>ay (.inl e)) (λe=>ay (.inr e))])
 (simp-implicitDefEqProofs+contextual (disch:=omega) only[go_sem,qH aM aa,vN aM aa];try refine c8 ?_)
 repeat' first|refine And.intro ?_ ?_|intro _
 all_goals first|exact step I I|exact fin I|exact fin (by have:=@cu D j;omega)
end
def dI{h:H}{b i e C:Nat}{D:B}(aM:db h b D C)(he:i<C->e=i)⦃l:Nat⦄(au:i+l<U D)⦃k:K⦄:cd (bU (J ⟨b,e+l,ab⟩)) h k=k (bu (g D (i+l):Int)) h:=qH aM he au
def hA{h:H}{b i e C:Nat}{D:B}(aM:db h b D C)(he:i<C->e=i)(au:i<U D)⦃k:K⦄:cd (bU (J ⟨b,e,ab⟩)) h k=k (bu (g D i:Int)) h:=vN aM he au
def bp.fL{h:H}{b i j C:Nat}{v:ao}{D:B}(s:bp b i j C v)(d:db h b D C):∃e,v=a5 (J ⟨b,e,ab⟩) (j-i) (C-i)/\(i<C->e=i)/\i<=j/\j<=C/\e<=C/\C<9223372036854775808/\U D<=400:=let⟨e,a,b,c,f,g⟩:=s;⟨e,a,b,c,f,g,d.mH,d.len⟩
def ck{b i j C e n c:Nat}(aa:n=j-i:=by (omega))(ad:c=C-i:=by (omega))(an:(i<C->e=i)/\i<=j/\j<=C/\e<=C:=by exact⟨by (try unfold cX);intro _;(repeat' split)<;>omega,I,I,by (try unfold cX);(repeat' split)<;>omega⟩):bp b i j C (a5 (J ⟨b,e,ab⟩) n c):=bp.of aa ad an
