/- A part of the proof of FnTomlReadCardSaid: for every string the law FnTomlRead returns true. Conditions: those of the given row and card, no others. -/
import Derived.OrdersHeld
import Derived.Laws.Sem
import Derived.Test.YteonbmabmhoffaaGreatDoorProg
import Derived.Test.YteonbmabmhoffaaGreatDoorA00
open Option renaming some->J,none->ab
open Bool renaming true->ai,false->av
open Go renaming Value->ao
open Go.Obj renaming cells->aO
open Go.Value renaming bool->aQ,tuple->bA,pointer->bU,agg->cA,iface->cW,string->fo
open Or renaming inl->bF,inr->bt
open Go.BinOp renaming eql->cQ,neq->hF
open List renaming length->U,toArray->aZ,take->bf
open Array renaming size->ag,toList->bC,push->a6,setIfInBounds->dy
namespace Go.Proofs.YteonbmabmhoffaaGreatDoor.F
set_option linter.all false
set_option autoImplicit true
set_option relaxedAutoImplicit true
set_option maxRecDepth 100000
set_option maxHeartbeats 4000000
noncomputable section
section
def afg:∀(vs:List ao) (c:Array ao) (o j:Nat),j<o\/o+U vs<=j->(ht c o vs)[j]?=c[j]?
 |[],_,_,_,_=>rfl
 |v::vs,c,o,j,h=>by
  simp only[nS] at h;rw[ht,afg vs _ (o+1) j I,D3,ak I]
def aog(b:Addr)(i:Nat):(b.add i).block=b.block:=by unfold Addr.add;grind
def aoh(b:Addr)(i:Nat):(b.add i).off=b.off+i:=by unfold Addr.add;grind
def aq4(h:w.heap[a.block]?=J (aO c t b3))(au:U vs=sz)
  (Sf:apartL (bU (J a)) sz E):Good E w (ir w (dy w.heap a.block (aO (ht c a.off vs) t b3))):=by
 induction E with
 |nil=>exact Good.nil
 |cons y E bR=>
  obtain⟨y,m⟩:=y;simp only[apartL] at Sf;intro x ae b af i az v aD;rcases r9.1 ae with rfl|ae
  .simp only at af az;have aa:=Sf.1;simp only[apartP,af] at aa;simp only[World.cell?,V',D3,aog,aoh] at aD⊢;by_cases e:a.block=b.block
   .have a':b.block<ag w.heap:=e▸(cm.1 h).1;rw[aA e,aA (e▸a')];rw[<-e,h] at aD;simp only at aD⊢;rw[afg _ _ _ _ I];exact aD
   grind
  .exact bR Sf.2 x ae b af i az v aD
variable[hz]{n:Nat}{a:Act}{f:Fr}{Q:Exit->Act->World->Prop}{E:List (ao×Nat)}{k:K}{w:World}
omit [hz] in
def Fa(o:Obj):Good E w (ir w (a6 w.heap o)):=Good.ext (by simpa using aB.push w.heap o)
def UD(h:tg t≠.rN):∀d,P.underlying t=J d->∀ms,d≠.interface ms:=by
 rintro d aG ms rfl;apply h;simp[tg,aG]
def aej(aa:tg t≠.bad)(ad:tg t≠.rN)(w:World):(Instr.makeInterface t x).run P w=.ok (cW t x) w:=by
 obtain⟨d,aG⟩:=JM aa;have:=UD ad d aG;unfold Instr.makeInterface;simp only[Sem.run_bind,gk aG,Result.andThen_ok];simp_all
omit [hz] in
def aeB(h:nc x=J v):∀o:Oper,o.op=.nilCheck X->ev f X=x->execOp (ev f) o=(do pure (.value (<-(pure v:Sem ao)))):=by
 intro o aH ae;obtain⟨dst,op,type,pos,after,guard⟩:=o;subst aH;unfold nc at h;split at h<;>simp only[dg,reduceCtorEq] at h<;>subst h<;>simp only[execOp,ae]<;>rfl
omit [hz] in
def xF(f:Fr)(x:Option Operand):E4 f x=x.map (ev f):=by cases x<;>rfl
def Yk(cr:oS t=ai)(h:bZ (szT t) p v w.heap k):
  ∃a c e b3,p=bU (J a)/\w.heap[a.block]?=J (aO c e b3)/\U (cellsL v)=szT t/\(Instr.storeAt t p v).run P w=.ok () (ir w (dy w.heap a.block (aO (ht c a.off (cellsL v)) e b3)))/\
   k undef (dy w.heap a.block (aO (ht c a.off (cellsL v)) e b3)):=by
 unfold bZ at h;split at h
 .rename_i a;split at h
  .rename_i c e b3 af;obtain⟨aa,ad,an,aT,bN,cB⟩:=h;exact⟨a,c,e,b3,rfl,af,aa,azK cr aa ad af an aT bN,cB⟩
  grind
 grind
omit [hz] in
def K4(au:cO n p h k):∃a,p=bU (J a)/\((n=0/\k (cA #[]) h)\/∃c t b3,h[a.block]?=J (aO c t b3)/\a.spot=ab/\a.off+n<=ag c/\k (cA (c.extract a.off (a.off+n))) h):=by
 unfold cO at au;grind
variable{dst:Option Tmp}{type:TypeId}{pos:String}{after:Array Edge}{guard:Option (Nat×Bool)}
def axV(r:Rel n a f)(x:Operand)(h:opW E f (.move x) w.heap k):Oper.wp P ⟨dst,.move x,type,pos,after,guard⟩ a w (iM ⟨dst,.move x,type,pos,after,guard⟩ a E w k) Q:=by
 exact iz r (pure (ev f x)) rfl rfl h
def axC(r:Rel n a f)(x:Operand)(h:opW E f (.assign x) w.heap k):Oper.wp P ⟨dst,.assign x,type,pos,after,guard⟩ a w (iM ⟨dst,.assign x,type,pos,after,guard⟩ a E w k) Q:=by
 exact iz r (pure (ev f x)) rfl rfl h
def axY(r:Rel n a f)(c x y:Operand)(h:opW E f (.pick c x y) w.heap k):Oper.wp P ⟨dst,.pick c x y,type,pos,after,guard⟩ a w (iM ⟨dst,.pick c x y,type,pos,after,guard⟩ a E w k) Q:=by
 obtain⟨v,aD,aq⟩:=gy h;exact iz r (do pure (if<-asBool (ev f c) then ev f x else ev f y)) (by simp[execOp]) (afd aD w) aq
def axB(r:Rel n a f)(t:TypeId)(h:opW E f (.alloc t) w.heap k):Oper.wp P ⟨dst,.alloc t,type,pos,after,guard⟩ a w (iM ⟨dst,.alloc t,type,pos,after,guard⟩ a E w k) Q:=by
 simp only[opW] at h;split at h
 .rename_i aV;exact sk r (Instr.alloc t ai (bA #[])) rfl (aok aV) (tD _ _) (Fa _) h
 grind
def axE(r:Rel n a f)(t:TypeId)(x:Operand)(h:opW E f (.box t x) w.heap k):Oper.wp P ⟨dst,.box t x,type,pos,after,guard⟩ a w (iM ⟨dst,.box t x,type,pos,after,guard⟩ a E w k) Q:=by
 exact sk r (Instr.box t (ev f x)) rfl aoJ (tD _ _) (Fa _) h
def axF(r:Rel n a f)(t:TypeId)(c9:Array (Nat×Operand))(h:opW E f (.build t c9) w.heap k):Oper.wp P ⟨dst,.build t c9,type,pos,after,guard⟩ a w (iM ⟨dst,.build t c9,type,pos,after,guard⟩ a E w k) Q:=by
 simp only[opW] at h;split at h
 .rename_i aV aP;split at h
  .rename_i l bj aJ;unfold Bd at h;split at h
   .rename_i cs ay;exact iz r (Instr.build t (c9.map λ(i,x)=>(i,ev f x))) rfl (Y_ aV aP bj aJ ay w) h
   grind
  grind
 .rename_i m e aV aP;unfold Bd at h;split at h
  .rename_i cs ay;exact iz r (Instr.build t (c9.map λ(i,x)=>(i,ev f x))) rfl (Y9 aV aP ay w) h
  grind
 grind
def axG(r:Rel n a f)(t:TypeId)(m:Nat)(c9:Array (Nat×Operand))(h:opW E f (.buildSlice t m c9) w.heap k):Oper.wp P ⟨dst,.buildSlice t m c9,type,pos,after,guard⟩ a w (iM ⟨dst,.buildSlice t m c9,type,pos,after,guard⟩ a E w k) Q:=by
 simp only[opW] at h;split at h
 .rename_i e aP;split at h
  .rename_i af;simp only[pf] at af;unfold ew at h;split at h
   .rename_i cs ay;have aa:nz e=ai:=af.1.1;have ad:U (Z e)=szT e:=Ww af.2;have an:m*szT e<=10000:=lK af.1.2;have bO:=aoN (w:=w) aP aa an ad ay;generalize aL:Instr.buildSlice t m (c9.map λ(i,x)=>(i,ev f x))=s at bO;refine sk r s ?_ bO (tD _ _) (Fa _) h;rw[<-aL];rfl
   grind
  grind
 grind
def axO(r:Rel n a f)(t:TypeId)(p:Operand)(h:opW E f (.load t p) w.heap k):Oper.wp P ⟨dst,.load t p,type,pos,after,guard⟩ a w (iM ⟨dst,.load t p,type,pos,after,guard⟩ a E w k) Q:=by
 simp only[opW] at h;split at h
 .rename_i bE;obtain⟨eE,aJ,⟨aW,h⟩|⟨c,e,b3,af,aa,ad,an⟩⟩:=K4 h
  .exact iz r (Instr.loadAt t (ev f p)) rfl (by rw[aJ];exact ad3 bE (MF bE) aW) h
  .exact iz r (Instr.loadAt t (ev f p)) rfl (by rw[aJ];exact awt bE (MF bE) af aa ad) an
 .rename_i bE;unfold cd at h;split at h
  .rename_i eE aJ;split at h
   .rename_i v aD;exact iz r (Instr.loadAt t (ev f p)) rfl (by rw[aJ];exact ad4 bE (by rw[<-Vd];exact aD)) h
   grind
  grind
 grind
def ax1(r:Rel n a f)(t:TypeId)(p x:Operand)(h:opW E f (.store t p x) w.heap k):Oper.wp P ⟨dst,.store t p x,type,pos,after,guard⟩ a w (iM ⟨dst,.store t p x,type,pos,after,guard⟩ a E w k) Q:=by
 simp only[opW] at h;split at h
 .rename_i cr;obtain⟨eE,c,e,b3,aa,ad,an,aT,bN⟩:=Yk cr h;exact L0 r (Instr.storeAt t (ev f p) (ev f x)) rfl aT (tD _ _) Good.nil bN
 .rename_i cr _;obtain⟨aW,h⟩:=h;obtain⟨eE,c,e,b3,aa,ad,an,aT,bN⟩:=Yk cr h;exact L0 r (Instr.storeAt t (ev f p) (ev f x)) rfl aT (tD _ _) (aq4 ad an al) bN
 grind
def axX(r:Rel n a f)(x:Operand)(h:opW E f (.nilCheck x) w.heap k):Oper.wp P ⟨dst,.nilCheck x,type,pos,after,guard⟩ a w (iM ⟨dst,.nilCheck x,type,pos,after,guard⟩ a E w k) Q:=by
 obtain⟨v,aD,aq⟩:=gy h;exact iz r (pure v) (aeB aD _ rfl rfl) rfl aq
def axD(r:Rel n a f)(op:BinOp)(t:TypeId)(x y:Operand)(q:TypeId)(h:opW E f (.binOp op t x y q) w.heap k):Oper.wp P ⟨dst,.binOp op t x y q,type,pos,after,guard⟩ a w (iM ⟨dst,.binOp op t x y q,type,pos,after,guard⟩ a E w k) Q:=by
 have l':∃v,k v w.heap/\(do eqGuard op t x y (ev f x) (ev f y);binOp op t (ev f x) (ev f y):Sem ao).run P w=.ok v w:=by
  have heq:∀ea v,eqW ea t x y (ev f x) (ev f y)=J v->(do eqGuard (cond ea hF cQ) t x y (ev f x) (ev f y);binOp (cond ea hF cQ) t (ev f x) (ev f y):Sem ao).run P w=.ok v w:=by
   intro ea v aD;unfold eqW at aD;split at aD
   .exact Ar aD w
   .exact Ar aD w
   .exact Ar aD w
   .rename_i aP;exact YY aP aD w
   .rename_i aP;exact Y0 aP aD w
   .rename_i aP;split at aD
    .rename_i ay;exact YZ aP ay aD w
    .cases aD
   .cases aD
  cases op;case eql=>
   obtain⟨v,aD,aq⟩:=gy h;grind
  case neq=>
   obtain⟨v,aD,aq⟩:=gy h;grind
  all_goals
   obtain⟨v,aD,aq⟩:=gy h;exact⟨v,aq,Ar aD w⟩
 obtain⟨v,aq,aF⟩:=l';exact iz r _ rfl aF aq
def ax3(r:Rel n a f)(op:UnOp)(t:TypeId)(x:Operand)(h:opW E f (.unOp op t x) w.heap k):Oper.wp P ⟨dst,.unOp op t x,type,pos,after,guard⟩ a w (iM ⟨dst,.unOp op t x,type,pos,after,guard⟩ a E w k) Q:=by
 obtain⟨v,aD,aq⟩:=gy h;exact iz r (Op.unary op (ev f x)) rfl (agY aD w) aq
def axH(r:Rel n a f)(s d:TypeId)(x:Operand)(h:opW E f (.convert s d x) w.heap k):Oper.wp P ⟨dst,.convert s d x,type,pos,after,guard⟩ a w (iM ⟨dst,.convert s d x,type,pos,after,guard⟩ a E w k) Q:=by
 simp only[opW] at h;split at h
 .rename_i aL aG;obtain⟨v,aD,aq⟩:=gy h;exact iz r (convert s d (ev f x)) rfl (Zm aL aG aD w) aq
 .rename_i aL aG;obtain⟨v,aD,aq⟩:=gy h;exact iz r (convert s d (ev f x)) rfl (Zo aL aG aD w) aq
 .rename_i aL aG;obtain⟨v,aD,aq⟩:=gy h;exact iz r (convert s d (ev f x)) rfl (Zp aL aG aD w) aq
 .rename_i e aL aG;split at h
  .rename_i he;unfold Cbs at h;split at h
   .rename_i ae;exact iz r (convert s d (ev f x)) rfl (by rw[ae];exact Zg aL he aG) h
   .rename_i eE m c ae;split at h
    .rename_i cs qp;split at h
     .rename_i iO Fh;exact iz r (convert s d (ev f x)) rfl (by rw[ae];exact Zh aL he aG qp Fh) h.2
     grind
    grind
   grind
  grind
 .rename_i e aL aG;split at h
  .rename_i he;unfold KU at h;split at h
   .rename_i eU ae;obtain⟨aa,ad⟩:=h;obtain⟨c,an,aT,bh,bN,cB,de⟩:=ao7 (w:=w) aL aG he aa;refine sk r (convert s d (ev f x)) rfl (by rw[ae];exact bN) cB (Good.ext (by rw[de];exact aB.push _ _)) al
   grind
  grind
 grind
def axR(r:Rel n a f)(t:TypeId)(x:Operand)(h:opW E f (.makeInterface t x) w.heap k):Oper.wp P ⟨dst,.makeInterface t x,type,pos,after,guard⟩ a w (iM ⟨dst,.makeInterface t x,type,pos,after,guard⟩ a E w k) Q:=by
 have aq:k (cW t (ev f x)) w.heap/\tg t≠.bad/\tg t≠.rN:=by
  simp only[opW] at h;grind
 exact iz r (Instr.makeInterface t (ev f x)) rfl (aej aq.2.1 aq.2.2 w) aq.1
def axQ(r:Rel n a f)(fn:Fn)(x y:Array Operand)(h:opW E f (.makeFunc fn x y) w.heap k):Oper.wp P ⟨dst,.makeFunc fn x y,type,pos,after,guard⟩ a w (iM ⟨dst,.makeFunc fn x y,type,pos,after,guard⟩ a E w k) Q:=by
 simp only[opW] at h;rw[AE,AE] at h;exact iz r (Instr.makeFunc fn (x.map (ev f)) (y.map (ev f))) rfl rfl h
def axS(r:Rel n a f)(t:TypeId)(nK:Option Operand)(h:opW E f (.makeMap t nK) w.heap k):Oper.wp P ⟨dst,.makeMap t nK,type,pos,after,guard⟩ a w (iM ⟨dst,.makeMap t nK,type,pos,after,guard⟩ a E w k) Q:=by
 simp only[opW] at h;split at h
 .rename_i ek e aP;exact sk r (Instr.makeMap t ab) rfl awC (tD _ _) (Fa _) h
 .rename_i ek e x aP;unfold K6 at h;split at h
  .rename_i j m ae;exact sk r (Instr.makeMap t (J (ev f x))) rfl (by rw[ae];exact awB aP) (tD _ _) (Fa _) h
  grind
 grind
def axT(r:Rel n a f)(t:TypeId)(l c:Operand)(h:opW E f (.makeSlice t l c) w.heap k):Oper.wp P ⟨dst,.makeSlice t l c,type,pos,after,guard⟩ a w (iM ⟨dst,.makeSlice t l c,type,pos,after,guard⟩ a E w k) Q:=by
 simp only[opW] at h;split at h
 .rename_i e aP;split at h
  .rename_i af;simp only[pf] at af;unfold Ms at h;split at h
   .rename_i gi b6 au ay;obtain⟨aW,aa,ad,an,aT⟩:=h;exact sk r (Instr.makeSlice t (ev f l) (ev f c)) rfl (by rw[au,ay];exact awD aP af.1 (lK af.2) aW aa ad aT) (tD _ _) (Fa _) an
   grind
  grind
 grind
def ax0(r:Rel n a f)(t:TypeId)(x:Operand)(br az k9:Option Operand)(h:opW E f (.slice t x br az k9) w.heap k):Oper.wp P ⟨dst,.slice t x br az k9,type,pos,after,guard⟩ a w (iM ⟨dst,.slice t x br az k9,type,pos,after,guard⟩ a E w k) Q:=by
 simp only[opW] at h;split at h
 .rename_i e aP;split at h
  .rename_i SW;obtain⟨v,aD,aq⟩:=gy h;rw[xF,xF,xF] at aD;have b5:(k9.map (ev f)).isSome=ai->(az.map (ev f)).isSome=ai:=by cases k9<;>cases az<;>simp at SW⊢
   exact iz r (Instr.sliceAt t (ev f x) (br.map (ev f)) (az.map (ev f)) (k9.map (ev f))) rfl (agn aP b5 aD w) aq
  grind
 .rename_i aP;split at h
  .obtain⟨v,aD,aq⟩:=gy h;rw[xF,xF] at aD;exact iz r (Instr.sliceAt t (ev f x) (br.map (ev f)) (az.map (ev f)) ab) rfl (ago aP aD w) aq
  grind
 grind
def axL(r:Rel n a f)(s:TypeId)(x:Operand)(i:Nat)(h:opW E f (.fieldAddr s x i) w.heap k):Oper.wp P ⟨dst,.fieldAddr s x i,type,pos,after,guard⟩ a w (iM ⟨dst,.fieldAddr s x i,type,pos,after,guard⟩ a E w k) Q:=by
 simp only[opW] at h;split at h
 .rename_i o t bj;split at h
  .rename_i aV;obtain⟨v,aD,aq⟩:=gy h;exact iz r (Instr.fieldAt s (ev f x) i) rfl (aag bj aV aD w) aq
  grind
 grind
def axK(r:Rel n a f)(s:TypeId)(x:Operand)(i:Nat)(h:opW E f (.field s x i) w.heap k):Oper.wp P ⟨dst,.field s x i,type,pos,after,guard⟩ a w (iM ⟨dst,.field s x i,type,pos,after,guard⟩ a E w k) Q:=by
 simp only[opW] at h;split at h
 .rename_i o t bj;split at h
  .rename_i bE;split at h
   .exact h.elim
   .rename_i m hm;obtain⟨v,aD,aq⟩:=gy h;obtain⟨ez,qn⟩:=tL hm;rw[qn] at aD;exact iz r (Instr.field s (ev f x) i) rfl (L4 bj (bt ⟨bE,ez,qn,aD⟩) w) aq
  .rename_i bE;obtain⟨v,aD,aq⟩:=gy h;exact iz r (Instr.field s (ev f x) i) rfl (L4 bj (bF ⟨bE,aD⟩) w) aq
  grind
 grind
def axN(r:Rel n a f)(t:TypeId)(x i:Operand)(h:opW E f (.indexAddr t x i) w.heap k):Oper.wp P ⟨dst,.indexAddr t x i,type,pos,after,guard⟩ a w (iM ⟨dst,.indexAddr t x i,type,pos,after,guard⟩ a E w k) Q:=by
 simp only[opW] at h;split at h
 .rename_i e aP;obtain⟨v,aD,aq⟩:=gy h;exact iz r (Instr.indexAt t (ev f x) (ev f i)) rfl (adb aP aD w) aq
 .rename_i m e aP;obtain⟨v,aD,aq⟩:=gy h;exact iz r (Instr.indexAt t (ev f x) (ev f i)) rfl (ade aP aD w) aq
 grind
def axM(r:Rel n a f)(t:TypeId)(x i:Operand)(h:opW E f (.index t x i) w.heap k):Oper.wp P ⟨dst,.index t x i,type,pos,after,guard⟩ a w (iM ⟨dst,.index t x i,type,pos,after,guard⟩ a E w k) Q:=by
 simp only[opW] at h;split at h
 .rename_i aP;obtain⟨v,aD,aq⟩:=gy h;exact iz r (Instr.index t (ev f x) (ev f i)) rfl (adq aP aD w) aq
 .rename_i m e aP;split at h
  .rename_i bE aL;obtain⟨v,aD,aq⟩:=gy h;exact iz r (Instr.index t (ev f x) (ev f i)) rfl (adp aP bE aL aD w) aq
  grind
 grind
def axP(r:Rel n a f)(t:TypeId)(m x:Operand)(ok:Bool)(h:opW E f (.lookup t m x ok) w.heap k):Oper.wp P ⟨dst,.lookup t m x ok,type,pos,after,guard⟩ a w (iM ⟨dst,.lookup t m x ok,type,pos,after,guard⟩ a E w k) Q:=by
 simp only[opW] at h;split at h
 .rename_i ek e aP;split at h
  .rename_i aq aV;have ae:∃s,ev f x=fo s:=by
    unfold Ml at h;grind
   obtain⟨s,ae⟩:=ae;have atM:∃v,k v w.heap/\(Instr.lookup t (ev f m) (fo s) av).run P w=.ok v w:=by
    rw[ae] at h;unfold Ml at h;split at h
    .rename_i hm _;exact⟨_,h,Uk aP aq aV (bF ⟨hm,rfl⟩)⟩
    .rename_i gr eU hm aL;cases aL;split at h
     .rename_i es clock aF;split at h
      .rename_i i v bj;exact⟨_,h,Uk aP aq aV (bt ⟨gr,es,clock,hm,aF,bF ⟨_,bj⟩⟩)⟩
      .rename_i bj;exact⟨_,h,Uk aP aq aV (bt ⟨gr,es,clock,hm,aF,bt ⟨bj,rfl⟩⟩)⟩
      grind
     grind
    grind
   obtain⟨v,ey,Nf⟩:=atM;exact iz r (Instr.lookup t (ev f m) (ev f x) av) rfl (ae▸Nf) ey
  grind
 grind
def axU(r:Rel n a f)(t:TypeId)(m x v:Operand)(h:opW E f (.mapUpdate t m x v) w.heap k):Oper.wp P ⟨dst,.mapUpdate t m x v,type,pos,after,guard⟩ a w (iM ⟨dst,.mapUpdate t m x v,type,pos,after,guard⟩ a E w k) Q:=by
 simp only[opW] at h;split at h
 .rename_i ek e aP;split at h
  .rename_i aq;unfold Mu at h;split at h
   .rename_i gr s hm ae;split at h
    .rename_i es clock aF;split at h
     .rename_i i u bj;exact L0 r (Instr.mapUpdate t (ev f m) (ev f x) (ev f v)) rfl (by rw[hm,ae];exact aen aP aq aF bj) (tD _ _) Good.nil h
     .rename_i bj;exact L0 r (Instr.mapUpdate t (ev f m) (ev f x) (ev f v)) rfl (by rw[hm,ae];exact aen aP aq aF bj) (tD _ _) Good.nil h
     grind
    grind
   grind
  grind
 grind
def axZ(r:Rel n a f)(t:TypeId)(x:Operand)(h:opW E f (.range t x) w.heap k):Oper.wp P ⟨dst,.range t x,type,pos,after,guard⟩ a w (iM ⟨dst,.range t x,type,pos,after,guard⟩ a E w k) Q:=by
 simp only[opW] at h;split at h
 .rename_i ek e aP;unfold Rg at h;split at h
  .rename_i ae;exact sk r (Instr.range t (ev f x)) rfl (by rw[ae];exact afy aP _ (bF ⟨rfl,rfl⟩)) (tD _ _) Good.nil h
  .rename_i gr ae;split at h
   .rename_i es clock aF;exact sk r (Instr.range t (ev f x)) rfl (by rw[ae];exact afy aP _ (bt ⟨gr,es,clock,rfl,aF,rfl⟩)) (tD _ _) Good.nil h
   grind
  grind
 grind
def axW(r:Rel n a f)(it:Operand)(b:Bool)(h:opW E f (.next it b) w.heap k):Oper.wp P ⟨dst,.next it b,type,pos,after,guard⟩ a w (iM ⟨dst,.next it b,type,pos,after,guard⟩ a E w k) Q:=by
 cases b with
 |true=>exact h.elim
 |false=>
  simp only[opW] at h;split at h
  .exact h.elim
  .unfold Nx at h;split at h
   .rename_i gr sp ae;split at h
    .rename_i aa;exact iz r (Instr.next (ev f it) av type) rfl (by rw[ae];exact axp aa) h
    .rename_i m since seen last aa;split at h
     .rename_i es clock an;obtain⟨au,aL,af,h⟩:=h;rcases axq (sp:=sp) (ty:=type) aa an au aL af with ⟨he,bh,bN,cB,de⟩|⟨he,e,hm,bh,bN,cB,de⟩
      .rw[aA he] at h;exact sk r (Instr.next (ev f it) av type) rfl (by rw[ae];exact bN) cB Good.nil al
      .rw[ak al] at h;exact sk r (Instr.next (ev f it) av type) rfl (by rw[ae];exact bN) cB Good.nil al
     grind
    grind
   grind
def axI(r:Rel n a f)(it:Operand)(h:opW E f (.entry it) w.heap k):Oper.wp P ⟨dst,.entry it,type,pos,after,guard⟩ a w (iM ⟨dst,.entry it,type,pos,after,guard⟩ a E w k) Q:=by
 simp only[opW] at h;split at h
 .exact h.elim
 .unfold En at h;split at h
  .rename_i gr sp ae;split at h
   .rename_i m since seen OE aa;split at h
    .rename_i JI es clock ad an;obtain⟨aT,h⟩:=h;split at h
     .rename_i e bN;exact iz r (Instr.entry (ev f it)) rfl (by rw[ae];exact apH aa ad an aT bN) h
     grind
    grind
   grind
  grind
def ax2(r:Rel n a f)(x:Operand)(uJ t:TypeId)(ok:Bool)(h:opW E f (.typeAssert x uJ t ok) w.heap k):Oper.wp P ⟨dst,.typeAssert x uJ t ok,type,pos,after,guard⟩ a w (iM ⟨dst,.typeAssert x uJ t ok,type,pos,after,guard⟩ a E w k) Q:=by
 cases ok with
 |false=>exact h.elim
 |true=>
  have bO:nz t=ai/\tg t≠.rN/\tg t≠.bad/\Pu (ta t (pe t) (ev f x)) w.heap k:=by
   simp only[opW] at h;grind
  obtain⟨aV,az,af,aJ⟩:=bO;obtain⟨v,aD,aq⟩:=gy aJ;exact iz r (Instr.typeAssert (ev f x) uJ t ai) rfl (agC aV (UD az) (JM af) aD w) aq
def axJ(r:Rel n a f)(x:Operand)(i:Nat)(h:opW E f (.extract x i) w.heap k):Oper.wp P ⟨dst,.extract x i,type,pos,after,guard⟩ a w (iM ⟨dst,.extract x i,type,pos,after,guard⟩ a E w k) Q:=by
 obtain⟨v,aD,aq⟩:=gy h;exact iz r (Instr.extract (ev f x) i) rfl (Z9 aD w) aq
def aeY(aI:tx)(r:Rel n a f){o:Oper}(h:opW E f o.op w.heap k):o.wp P a w (iM o a E w k) Q:=by
 obtain⟨dst,op,type,pos,after,guard⟩:=o;simp only at h;cases op with
 |move x=>exact axV r x h
 |assign x=>exact axC r x h
 |pick c x y=>exact axY r c x y h
 |alloc t=>exact axB r t h
 |box t x=>exact axE r t x h
 |build t c9=>exact axF r t c9 h
 |buildSlice t m c9=>exact axG r t m c9 h
 |load t p=>exact axO r t p h
 |store t p x=>exact ax1 r t p x h
 |nilCheck x=>exact axX r x h
 |binOp op t x y q=>exact axD r op t x y q h
 |unOp op t x=>exact ax3 r op t x h
 |convert s d x=>exact axH r s d x h
 |makeInterface t x=>exact axR r t x h
 |makeFunc fn x y=>exact axQ r fn x y h
 |makeMap t nK=>exact axS r t nK h
 |makeSlice t l c=>exact axT r t l c h
 |slice t x br az k9=>exact ax0 r t x br az k9 h
 |fieldAddr s x i=>exact axL r s x i h
 |field s x i=>exact axK r s x i h
 |indexAddr t x i=>exact axN r t x i h
 |index t x i=>exact axM r t x i h
 |lookup t m x ok=>exact axP r t m x ok h
 |mapUpdate t m x v=>exact axU r t m x v h
 |range t x=>exact axZ r t x h
 |next it b=>exact axW r it b h
 |entry it=>exact axI r it h
 |typeAssert x uJ t ok=>exact ax2 r x uJ t ok h
 |extract x i=>exact axJ r x i h
 |call c=>exact call_sound aI r rfl h
 |_=>exact h.elim
end
section
def NS(i:Nat):∀l:List Nat,memB i l=ai↔i∈l
 |[]=>by simp[memB]
 |a::l=>by
  simp only[memB,r9];cases h:Nat.beq i a with
  |true=>simp_all
  |false=>
   have:i≠a:=λe=>m8
   simp[this,NS i l]
def ya(i:Nat)(l m:List Nat):memB i (l++m)=(memB i l||memB i m):=by
 induction l with
 |nil=>simp[memB]
 |cons a l bR=>simp only[uM,memB,bR];grind
def eG(S:List Nat)(f bm:Fr):Prop:=∀i,memB i S=av->bm i=f i
def eG.refl(S f):eG S f f:=λ_ _=>rfl
def eG.trans(a:eG S f g)(b:eG S g h):eG S f h:=λi az=>(b i az).trans (a i az)
def eG.mono(a:eG S f g)(h:∀i,memB i S=ai->memB i T=ai):eG T f g:=λi az=>a i (by
 grind)
def eG.put(h:∀i,d=J i->memB i S=ai):eG S f (fputO f d v):=λi az=>by
 cases d with
 |none=>rfl
 |some d=>
  simp only[fputO,Rf];cases af:Nat.beq i d with
  |false=>rfl
  |true=>
   simp_all
def e9.trans(a:e9 w bh)(b:e9 bh qA):e9 w qA:=⟨b.os.trans a.os,b.tape.trans a.tape,b.output.trans a.output⟩
def e9.refl(w:World):e9 w w:=⟨rfl,rfl,rfl⟩
variable[hz]{n:Nat}{a:Act}{f:Fr}{Q:Exit->Act->World->Prop}{E:List (ao×Nat)}{w:World}
omit [hz] in
def yielded_eq(r:Rel n a f)(ops:Array Oper)(g:Nat):yielded ops a.tmps g=match gv (bC ops) f g with| .bool t=>J t|_=>ab:=by
 unfold yielded gv;rw[<-Ku];cases (bC ops)[g]? with
 |none=>simp[undef]
 |some o=>
  simp only[GG];cases o.dst with
  |none=>simp[undef]
  |some d=>
   simp only[GG];have:=r.slot d;rw[<-this];cases h:a.tmps[d]? with
   |none=>simp[h,undef]
   |some v=>simp[h];grind
def ags(aI:tx)(r:Rel n a f)(h:stepW E (bC ops) o k f w.heap):
  (Region.wanted o (yielded ops a.tmps)=ai/\o.wp P a w (λbM bh=>∃v,bM=a.put o.dst v/\e9 w bh/\Good E w bh/\k (fputO f o.dst v) bh.heap) Q)\/
  (Region.wanted o (yielded ops a.tmps)=av/\k (fputO f o.dst undef) w.heap):=by
 unfold stepW at h;unfold Region.wanted;split at h
 .rename_i aX;rw[aX];exact bF ⟨rfl,aeY aI r h⟩
 .rename_i g b aX;rw[aX];simp only[yielded_eq r];unfold a0 at h;split at h
  .rename_i t aD;simp only[aD];cases Nj:(t==b) with
   |true=>
    rw[Nj] at h;have e:t=b:=eq_of_beq Nj;subst e;exact bF ⟨a1,aeY aI r h⟩
   |false=>
    grind
  grind
def Vf(aI:tx):∀(l:List Oper) (a:Act) (w:World) (f:Fr),Rel n a f->lY n (dsts l)=ai->regW (bC ops) l k f w.heap->
  (∀bM bh bm,Rel n bM bm->e9 w bh->eG (dsts l) f bm->k bm bh.heap->Q .normal bM bh)->wpList P ops Q l a w
 |[],a,w,f,r,_,h,aq=>aq a w f r (e9.refl w) (eG.refl _ _) h
 |o::l,a,w,f,r,aG,h,aq=>by
  have vh:∀d,o.dst=J d->d<n:=by
   intro d gI;simp only[dsts,gI,lY,pf] at aG;simp_all
  have h9:lY n (dsts l)=ai:=by
   cases gI:o.dst with
   |none=>simpa only[dsts,gI] using aG
   |some d=>simp only[dsts,gI,lY,pf] at aG;exact aG.2
  have ly:∀i,o.dst=J i->memB i (dsts (o::l))=ai:=λi az=>by rw[NS];simp[dsts,az]
  have tm:∀i,memB i (dsts l)=ai->memB i (dsts (o::l))=ai:=λi az=>by
   rw[NS] at az⊢;cases gI:o.dst with
   |none=>simpa only[dsts,gI] using az
   |some d=>simp only[dsts,gI];grind
  have next:∀bh v,e9 w bh->regW (bC ops) l k (fputO f o.dst v) bh.heap->wpList P ops Q l (a.put o.dst v) bh:=λbh v aL h'=>
   Vf aI l _ bh _ (r.put o.dst vh v) h9 h' λoL qA apW afl yk axr cN=>aq oL qA apW afl (aL.trans yk) ((eG.put ly).trans (axr.mono tm)) cN
  simp only[regW] at h;unfold wpList;rcases ags (Q:=Q) aI r h with ⟨hw,h⟩|⟨hw,h⟩
  .rw[aA hw];refine bF (Oper.wp_mono (λbM bh h'=>?_) h);grind
  .rw[hw];exact next w undef (e9.refl w) h
end
section
variable[hz]{n:Nat}{a:Act}{f:Fr}{Q:Exit->Act->World->Prop}{E:List (ao×Nat)}{k:K}{w:World}{h':H}
def k_(s:Sem ao)(he:execOp (ev f) o=(do pure (.value (<-s))))(aL:∀w,s.run P w=.ok v w)(aq:k v h'):∃v,k v h'/\∀w,(execOp (ev f) o).run P w=.ok (.value v) w:=
 ⟨v,aq,λw=>m8⟩
def ayJ(x:Operand){dst:Option Tmp}{type:TypeId}{pos:String}{guard:Option (Nat×Bool)}(h:opW E f (.move x) h' k):∃v,k v h'/\∀w,(execOp (ev f) ⟨dst,.move x,type,pos,after,guard⟩).run P w=.ok (.value v) w:=by
 exact k_ (pure (ev f x)) rfl (λ_=>rfl) h
def ayw(x:Operand){dst:Option Tmp}{type:TypeId}{pos:String}{guard:Option (Nat×Bool)}(h:opW E f (.assign x) h' k):∃v,k v h'/\∀w,(execOp (ev f) ⟨dst,.assign x,type,pos,after,guard⟩).run P w=.ok (.value v) w:=by
 exact k_ (pure (ev f x)) rfl (λ_=>rfl) h
def ayL(c x y:Operand){dst:Option Tmp}{type:TypeId}{pos:String}{guard:Option (Nat×Bool)}(h:opW E f (.pick c x y) h' k):∃v,k v h'/\∀w,(execOp (ev f) ⟨dst,.pick c x y,type,pos,after,guard⟩).run P w=.ok (.value v) w:=by
 obtain⟨v,aD,aq⟩:=gy h;exact k_ (do pure (if<-asBool (ev f c) then ev f x else ev f y)) (by simp[execOp]) (afd aD) aq
def ayK(x:Operand){dst:Option Tmp}{type:TypeId}{pos:String}{guard:Option (Nat×Bool)}(h:opW E f (.nilCheck x) h' k):∃v,k v h'/\∀w,(execOp (ev f) ⟨dst,.nilCheck x,type,pos,after,guard⟩).run P w=.ok (.value v) w:=by
 obtain⟨v,aD,aq⟩:=gy h;exact k_ (pure v) (aeB aD _ rfl rfl) (λ_=>rfl) aq
def ayx(op:BinOp)(t:TypeId)(x y:Operand)(q:TypeId){dst:Option Tmp}{type:TypeId}{pos:String}{guard:Option (Nat×Bool)}(h:opW E f (.binOp op t x y q) h' k):∃v,k v h'/\∀w,(execOp (ev f) ⟨dst,.binOp op t x y q,type,pos,after,guard⟩).run P w=.ok (.value v) w:=by
 have l':∃v,k v h'/\∀w,(do eqGuard op t x y (ev f x) (ev f y);binOp op t (ev f x) (ev f y):Sem ao).run P w=.ok v w:=by
  have heq:∀ea v,eqW ea t x y (ev f x) (ev f y)=J v->∀w,(do eqGuard (cond ea hF cQ) t x y (ev f x) (ev f y);binOp (cond ea hF cQ) t (ev f x) (ev f y):Sem ao).run P w=.ok v w:=by
   intro ea v aD w;unfold eqW at aD;split at aD
   .exact Ar aD w
   .exact Ar aD w
   .exact Ar aD w
   .rename_i aP;exact YY aP aD w
   .rename_i aP;exact Y0 aP aD w
   .rename_i aP;split at aD
    .rename_i ay;exact YZ aP ay aD w
    .cases aD
   .cases aD
  cases op;case eql=>
   obtain⟨v,aD,aq⟩:=gy h;grind
  case neq=>
   obtain⟨v,aD,aq⟩:=gy h;grind
  all_goals
   obtain⟨v,aD,aq⟩:=gy h;exact⟨v,aq,Ar aD⟩
 obtain⟨v,aq,aF⟩:=l';exact k_ _ rfl aF aq
def ayO(op:UnOp)(t:TypeId)(x:Operand){dst:Option Tmp}{type:TypeId}{pos:String}{guard:Option (Nat×Bool)}(h:opW E f (.unOp op t x) h' k):∃v,k v h'/\∀w,(execOp (ev f) ⟨dst,.unOp op t x,type,pos,after,guard⟩).run P w=.ok (.value v) w:=by
 obtain⟨v,aD,aq⟩:=gy h;exact k_ (Op.unary op (ev f x)) rfl (agY aD) aq
def ayH(fn:Fn)(x y:Array Operand){dst:Option Tmp}{type:TypeId}{pos:String}{guard:Option (Nat×Bool)}(h:opW E f (.makeFunc fn x y) h' k):∃v,k v h'/\∀w,(execOp (ev f) ⟨dst,.makeFunc fn x y,type,pos,after,guard⟩).run P w=.ok (.value v) w:=by
 simp only[opW] at h;rw[AE,AE] at h;exact k_ (Instr.makeFunc fn (x.map (ev f)) (y.map (ev f))) rfl (λ_=>rfl) h
def ayM(t:TypeId)(x:Operand)(br az k9:Option Operand){dst:Option Tmp}{type:TypeId}{pos:String}{guard:Option (Nat×Bool)}(h:opW E f (.slice t x br az k9) h' k):∃v,k v h'/\∀w,(execOp (ev f) ⟨dst,.slice t x br az k9,type,pos,after,guard⟩).run P w=.ok (.value v) w:=by
 simp only[opW] at h;split at h
 .rename_i e aP;split at h
  .rename_i SW;obtain⟨v,aD,aq⟩:=gy h;rw[xF,xF,xF] at aD;have b5:(k9.map (ev f)).isSome=ai->(az.map (ev f)).isSome=ai:=by cases k9<;>cases az<;>simp at SW⊢
   exact k_ (Instr.sliceAt t (ev f x) (br.map (ev f)) (az.map (ev f)) (k9.map (ev f))) rfl (agn aP b5 aD) aq
  grind
 .rename_i aP;split at h
  .obtain⟨v,aD,aq⟩:=gy h;rw[xF,xF] at aD;exact k_ (Instr.sliceAt t (ev f x) (br.map (ev f)) (az.map (ev f)) ab) rfl (ago aP aD) aq
  grind
 grind
def ayD(s:TypeId)(x:Operand)(i:Nat){dst:Option Tmp}{type:TypeId}{pos:String}{guard:Option (Nat×Bool)}(h:opW E f (.fieldAddr s x i) h' k):∃v,k v h'/\∀w,(execOp (ev f) ⟨dst,.fieldAddr s x i,type,pos,after,guard⟩).run P w=.ok (.value v) w:=by
 simp only[opW] at h;split at h
 .rename_i o t bj;split at h
  .rename_i aV;obtain⟨v,aD,aq⟩:=gy h;exact k_ (Instr.fieldAt s (ev f x) i) rfl (aag bj aV aD) aq
  grind
 grind
def ayC(s:TypeId)(x:Operand)(i:Nat){dst:Option Tmp}{type:TypeId}{pos:String}{guard:Option (Nat×Bool)}(h:opW E f (.field s x i) h' k):∃v,k v h'/\∀w,(execOp (ev f) ⟨dst,.field s x i,type,pos,after,guard⟩).run P w=.ok (.value v) w:=by
 simp only[opW] at h;split at h
 .rename_i o t bj;split at h
  .rename_i bE;split at h
   .exact h.elim
   .rename_i m hm;obtain⟨v,aD,aq⟩:=gy h;obtain⟨ez,qn⟩:=tL hm;rw[qn] at aD;exact k_ (Instr.field s (ev f x) i) rfl (L4 bj (bt ⟨bE,ez,qn,aD⟩)) aq
  .rename_i bE;obtain⟨v,aD,aq⟩:=gy h;exact k_ (Instr.field s (ev f x) i) rfl (L4 bj (bF ⟨bE,aD⟩)) aq
  grind
 grind
def ayF(t:TypeId)(x i:Operand){dst:Option Tmp}{type:TypeId}{pos:String}{guard:Option (Nat×Bool)}(h:opW E f (.indexAddr t x i) h' k):∃v,k v h'/\∀w,(execOp (ev f) ⟨dst,.indexAddr t x i,type,pos,after,guard⟩).run P w=.ok (.value v) w:=by
 simp only[opW] at h;split at h
 .rename_i e aP;obtain⟨v,aD,aq⟩:=gy h;exact k_ (Instr.indexAt t (ev f x) (ev f i)) rfl (adb aP aD) aq
 .rename_i m e aP;obtain⟨v,aD,aq⟩:=gy h;exact k_ (Instr.indexAt t (ev f x) (ev f i)) rfl (ade aP aD) aq
 grind
def ayE(t:TypeId)(x i:Operand){dst:Option Tmp}{type:TypeId}{pos:String}{guard:Option (Nat×Bool)}(h:opW E f (.index t x i) h' k):∃v,k v h'/\∀w,(execOp (ev f) ⟨dst,.index t x i,type,pos,after,guard⟩).run P w=.ok (.value v) w:=by
 simp only[opW] at h;split at h
 .rename_i aP;obtain⟨v,aD,aq⟩:=gy h;exact k_ (Instr.index t (ev f x) (ev f i)) rfl (adq aP aD) aq
 .rename_i m e aP;split at h
  .rename_i bE aL;obtain⟨v,aD,aq⟩:=gy h;exact k_ (Instr.index t (ev f x) (ev f i)) rfl (adp aP bE aL aD) aq
  grind
 grind
def ayB(x:Operand)(i:Nat){dst:Option Tmp}{type:TypeId}{pos:String}{guard:Option (Nat×Bool)}(h:opW E f (.extract x i) h' k):∃v,k v h'/\∀w,(execOp (ev f) ⟨dst,.extract x i,type,pos,after,guard⟩).run P w=.ok (.value v) w:=by
 obtain⟨v,aD,aq⟩:=gy h;exact k_ (Instr.extract (ev f x) i) rfl (Z9 aD) aq
def ayy(t:TypeId)(c9:Array (Nat×Operand)){dst:Option Tmp}{type:TypeId}{pos:String}{guard:Option (Nat×Bool)}(h:opW E f (.build t c9) h' k):∃v,k v h'/\∀w,(execOp (ev f) ⟨dst,.build t c9,type,pos,after,guard⟩).run P w=.ok (.value v) w:=by
 simp only[opW] at h;split at h
 .rename_i aV aP;split at h
  .rename_i l bj aJ;unfold Bd at h;split at h
   .rename_i cs ay;exact k_ (Instr.build t (c9.map λ(i,x)=>(i,ev f x))) rfl (Y_ aV aP bj aJ ay) h
   grind
  grind
 .rename_i m e aV aP;unfold Bd at h;split at h
  .rename_i cs ay;exact k_ (Instr.build t (c9.map λ(i,x)=>(i,ev f x))) rfl (Y9 aV aP ay) h
  grind
 grind
def ayI(t:TypeId)(x:Operand){dst:Option Tmp}{type:TypeId}{pos:String}{guard:Option (Nat×Bool)}(h:opW E f (.makeInterface t x) h' k):∃v,k v h'/\∀w,(execOp (ev f) ⟨dst,.makeInterface t x,type,pos,after,guard⟩).run P w=.ok (.value v) w:=by
 have aq:k (cW t (ev f x)) h'/\tg t≠.bad/\tg t≠.rN:=by
  simp only[opW] at h;grind
 exact k_ (Instr.makeInterface t (ev f x)) rfl (aej aq.2.1 aq.2.2) aq.1
def ayN(x:Operand)(uJ t:TypeId)(ok:Bool){dst:Option Tmp}{type:TypeId}{pos:String}{guard:Option (Nat×Bool)}(h:opW E f (.typeAssert x uJ t ok) h' k):∃v,k v h'/\∀w,(execOp (ev f) ⟨dst,.typeAssert x uJ t ok,type,pos,after,guard⟩).run P w=.ok (.value v) w:=by
 cases ok with
 |false=>exact h.elim
 |true=>
  have bO:nz t=ai/\tg t≠.rN/\tg t≠.bad/\Pu (ta t (pe t) (ev f x)) h' k:=by
   simp only[opW] at h;grind
  obtain⟨aV,az,af,aJ⟩:=bO;obtain⟨v,aD,aq⟩:=gy aJ;exact k_ (Instr.typeAssert (ev f x) uJ t ai) rfl (agC aV (UD az) (JM af) aD) aq
def ayA(s d:TypeId)(x:Operand){dst:Option Tmp}{type:TypeId}{pos:String}{guard:Option (Nat×Bool)}(aq:kindOf (.convert s d x)=.pu)(h:opW E f (.convert s d x) h' k):∃v,k v h'/\∀w,(execOp (ev f) ⟨dst,.convert s d x,type,pos,after,guard⟩).run P w=.ok (.value v) w:=by
 simp only[opW] at h;split at h
 .rename_i aL aG;obtain⟨v,aD,aq⟩:=gy h;exact k_ (convert s d (ev f x)) rfl (Zm aL aG aD) aq
 .rename_i aL aG;obtain⟨v,aD,aq⟩:=gy h;exact k_ (convert s d (ev f x)) rfl (Zo aL aG aD) aq
 .rename_i aL aG;obtain⟨v,aD,aq⟩:=gy h;exact k_ (convert s d (ev f x)) rfl (Zp aL aG aD) aq
 .rename_i e aL aG;simp[kindOf,aL,aG] at aq
 .rename_i e aL aG;simp[kindOf,aL,aG] at aq
 grind
def qu_call(c:Call){dst:Option Tmp}{type:TypeId}{pos:String}{guard:Option (Nat×Bool)}(aq:kindOf (.call c)≠.nZ)(h:callW E f c h' k):∃v,k v h'/\∀w,(execOp (ev f) ⟨dst,.call c,type,pos,after,guard⟩).run P w=.ok (.value v) w:=by
 have ae:execOp (ev f) ⟨dst,.call c,type,pos,after,guard⟩=(do let d<-resolve (ev f) c type;invoke d.target d.args):=rfl;unfold callW at h;split at h
 .rename_i b n1;have aF:∀(dP:Builtin),dP=b->execOp (ev f) ⟨dst,.call c,type,pos,after,guard⟩=builtin dP c.argTypes type (c.args.map fun| .const _=>ai|_=>av) (c.args.map (ev f)):=by
   intro dP af;subst af;rw[ae];simp only[resolve,n1];rfl
  have two:∀(l:List Operand),bC c.args=l->c.args=aZ l:=λl h=>by rw[<-h]
  have DQ:∀(l:List TypeId),bC c.argTypes=l->c.argTypes=aZ l:=λl h=>by rw[<-h]
  split at h
  .rename_i x t pC wJ;have e:=aF .len rfl;rw[two _ pC,DQ _ wJ] at e;simp only[BX,kp,ru,builtin] at e;split at h
   .rename_i aP;obtain⟨v,aD,aq⟩:=gy h;exact k_ (Builtin.len_ #[t] type #[ev f x]) e (ad2 aP aD) aq
   .rename_i ar aP;obtain⟨v,aD,aq⟩:=gy h;exact k_ (Builtin.len_ #[t] type #[ev f x]) e (ad1 aP aD) aq
   grind
  .rename_i x t pC wJ;have e:=aF .cap rfl;rw[two _ pC,DQ _ wJ] at e;simp only[BX,kp,ru,builtin] at e;split at h
   .rename_i ar aP;obtain⟨v,aD,aq⟩:=gy h;exact k_ (Builtin.cap_ #[t] type #[ev f x]) e (Zz aP aD) aq
   grind
  .simp[kindOf,n1] at aq
  .simp[kindOf,n1] at aq
  .rename_i x y pC;have e:=aF .min rfl;rw[two _ pC] at e;simp only[BX,kp,ru,builtin] at e;obtain⟨v,aD,aq⟩:=gy h;exact k_ (Builtin.min_ c.argTypes type #[ev f x,ev f y]) e (aeg aD) aq
  .rename_i x y pC;have e:=aF .max rfl;rw[two _ pC] at e;simp only[BX,kp,ru,builtin] at e;obtain⟨v,aD,aq⟩:=gy h;exact k_ (Builtin.max_ c.argTypes type #[ev f x,ev f y]) e (ad7 aD) aq
  grind
 .rename_i g n1;simp[kindOf,n1] at aq
 .rename_i x _ n1;simp[kindOf,n1] at aq
 .rename_i x name n1;simp[kindOf,n1] at aq
def Kept(p:ao)(m:Nat)(w bh:World):Prop:=∀b,p=bU (J b)->∀i,i<m->∀x,w.cell? (b.add i)=J x->bh.cell? (b.add i)=J x
def ad5{a:Addr}{cs:Array ao}:∀(m i:Nat) (acc:Array ao) (w:World),i+m=ag cs->(∀j,j<ag cs->w.cell? (a.add j)=cs[j]?)->(loadCellsFrom a i m acc).run P w=.ok (acc++cs.extract i (ag cs)) w
 |0,i,acc,w,hm,_=>by simp[loadCellsFrom];omega
 |m+1,i,acc,w,hm,ay=>by
  have a':i<ag cs:=I
  have aa:w.cell? (a.add i)=J cs[i]:=al
  simp only[loadCellsFrom,Sem.run_bind,run_load,aa,Result.andThen_ok];rw[ad5 m (i+1) _ w I ay];congr 1
  grind
def azN(t:Nat):0<uD t:=by
 unfold uD;grind
def ayG(t:TypeId)(p:Operand){dst:Option Tmp}{type:TypeId}{pos:String}{guard:Option (Nat×Bool)}(h:opW E f (.load t p) w.heap k):
  ∃v,k v w.heap/\∀bh,Kept (ev f p) (uD t) w bh->(execOp (ev f) ⟨dst,.load t p,type,pos,after,guard⟩).run P bh=.ok (.value v) bh:=by
 have ae:∀v bh,(Instr.loadAt t (ev f p)).run P bh=.ok v bh->(execOp (ev f) ⟨dst,.load t p,type,pos,after,guard⟩).run P bh=.ok (.value v) bh:=by
  intro v bh h;show(do pure (.value (<-Instr.loadAt t (ev f p))):Sem Next).run P bh=_;simp_all
 simp only[opW] at h;split at h
 .rename_i bE;have cr:=MF bE;obtain⟨eE,aJ,⟨aW,h⟩|⟨c,e,b3,af,aa,ad,an⟩⟩:=K4 h
  .exact⟨_,h,λbh _=>ae _ _ (by rw[aJ];exact ad3 bE cr aW)⟩
  .refine⟨_,an,λbh aq=>ae _ _ ?_⟩;rw[aJ];have c0:ag (c.extract eE.off (eE.off+szT t))=szT t:=by simp;omega
   have Sq:∀j,j<ag (c.extract eE.off (eE.off+szT t))->bh.cell? (eE.add j)=(c.extract eE.off (eE.off+szT t))[j]?:=by
    intro j aC;rw[c0] at aC;have aT:w.cell? (eE.add j)=J c[eE.off+j]:=by
     rw[Ln eE j aa,Qr (a:=⟨eE.block,eE.off+j,ab⟩) af rfl];simp
    have a':j<uD t:=by unfold uD;grind
    rw[aq eE aJ j a' _ aT];grind
   have:=ad5 (a:=eE) (cs:=c.extract eE.off (eE.off+szT t)) (szT t) 0 #[] bh I Sq;simp only[Instr.loadAt,Instr.sureAddr,loadVar,xw bE,q9 cr,Sem.run_bind,Sem.run_pure,Result.andThen_ok,ei,loadCells,this];grind
 .rename_i bE;unfold cd at h;split at h
  .rename_i eE aJ;split at h
   .rename_i v aD;refine⟨v,h,λbh aq=>ae _ _ ?_⟩;rw[aJ];have bP:eE.add 0=eE:=by simp[Addr.add]
    have:=aq eE aJ 0 (azN t) v (by rw[bP];rw[<-Vd];exact aD);rw[bP] at this;exact ad4 bE this
   grind
  grind
 grind
def ayz(s d:TypeId)(x:Operand){dst:Option Tmp}{type:TypeId}{pos:String}{guard:Option (Nat×Bool)}(aq:kindOf (.convert s d x)=.gj)(h:opW E f (.convert s d x) w.heap k):
  ∃v,k v w.heap/\∀bh,bh.heap=w.heap->(execOp (ev f) ⟨dst,.convert s d x,type,pos,after,guard⟩).run P bh=.ok (.value v) bh:=by
 have ae:∀v bh,(convert s d (ev f x)).run P bh=.ok v bh->(execOp (ev f) ⟨dst,.convert s d x,type,pos,after,guard⟩).run P bh=.ok (.value v) bh:=by
  intro v bh h;show(do pure (.value (<-convert s d (ev f x))):Sem Next).run P bh=_;simp_all
 simp only[opW] at h;split at h
 .rename_i aL aG;simp[kindOf,aL,aG] at aq
 .rename_i aL aG;simp[kindOf,aL,aG] at aq
 .rename_i aL aG;simp[kindOf,aL,aG] at aq
 .rename_i e aL aG;split at h
  .rename_i he;unfold Cbs at h;split at h
   .rename_i gh;exact⟨_,h,λbh _=>ae _ _ (by rw[gh];exact Zg aL he aG)⟩
   .rename_i eE m c gh;split at h
    .rename_i cs qp;split at h
     .rename_i iO Fh;exact⟨_,h.2,λbh hw=>ae _ _ (by rw[gh];exact Zh aL he aG al Fh)⟩
     grind
    grind
   grind
  grind
 .rename_i e aL aG;simp[kindOf,aL,aG] at aq
 grind
end
section
abbrev Cl:=List (Nat×(World->Prop))
def X2(ms:List Nat)(j:Nat)(ws:Cl)(w bh:World):Prop:=∀x∈ws,LD ms x.1 j=ai->x.2 w->x.2 bh
def zV(P:Program)(ops:Array Oper)(Q:Exit->Act->World->Prop)(ms:List Nat):Nat->Array Bool->Cl->Act->World->Prop
 |0,l,_,a,w=>Region.ready .any ops l=[]/\Q .normal a w
 |n+1,l,ws,a,w=>(Region.ready .any ops l=[]->Q .normal a w)/\
  ∀i∈Region.ready .any ops l,wpOp P ops Q i (λbM bh=>X2 ms i ws w bh/\zV P ops Q ms n (dy l i ai) ws bM bh) a w
section
variable{P:Program}{ops:Array Oper}{Q:Exit->Act->World->Prop}{ms:List Nat}
def ahe:∀(n:Nat) (l:Array Bool) (ws:Cl) (a:Act) (w:World),zV P ops Q ms n l ws a w->wpAny P .any ops Q n l a w
 |0,_,_,_,_,h=>h
 |n+1,_,ws,_,_,h=>⟨h.1,λi az=>wpOp_mono (λbM bh h'=>ahe n _ ws bM bh h'.2) (h.2 i az)⟩
def ahc(aL:∀x,x∈aBj->x∈ws):∀(n:Nat) (l:Array Bool) (a:Act) (w:World),zV P ops Q ms n l ws a w->zV P ops Q ms n l aBj a w
 |0,_,_,_,h=>h
 |n+1,_,_,_,h=>⟨h.1,λi az=>wpOp_mono (λbM bh h'=>⟨λx ae=>h'.1 x (aL x ae),ahc aL n _ bM bh h'.2⟩) (h.2 i az)⟩
def ahd(aY:∀w,S w):∀(n:Nat) (l:Array Bool) (a:Act) (w:World),zV P ops Q ms n l ws a w->zV P ops Q ms n l ((i,S)::ws) a w
 |0,_,_,_,h=>h
 |n+1,_,_,_,h=>⟨h.1,λj aC=>wpOp_mono (λbM bh h'=>⟨λx ae ay aJ=>by
  rcases r9.1 ae with rfl|ae
  .exact aY bh
  .exact h'.1 x ae ay aJ,ahd aY n _ bM bh h'.2⟩) (h.2 j aC)⟩
def Ej(ops:Array Oper)(l:Array Bool):Prop:=∀k o,ops[k]?=J o->l.getD k av=ai->∀e∈o.after,Region.binds .any e=ai->l.getD e.on av=ai
def G2(ops:Array Oper)(ms:List Nat):Prop:=∀j o,ops[j]?=J o->∀b,(ms.getD j 0).testBit b=ai->∃e∈o.after,Region.binds .any e=ai/\(e.on=b\/(e.on<j/\(ms.getD e.on 0).testBit b=ai))
def ad9(hm:G2 ops ms)(ay:Ej ops l):∀(j:Nat) (o:Oper),ops[j]?=J o->(∀e∈o.after,Region.binds .any e=ai->l.getD e.on av=ai)->∀b,(ms.getD j 0).testBit b=ai->l.getD b av=ai:=by
 intro j;induction j using Nat.strongRecOn with
 |_ j bR=>
  intro o aH au b af;obtain⟨e,he,MI,h⟩:=hm j o aH b af;rcases h with rfl|⟨a',h⟩
  .grind
  .have c0:e.on<ag ops:=Nat.lt_trans a' (cm.1 aH).1;have uu:ops[e.on]?=J ops[e.on]:=by simp[c0]
   exact bR e.on a' _ uu (ay e.on _ uu (au e he MI)) b h
def VU{l:Array Bool}(aW:l.getD i ai=av)(aa:l.getD i av=ai):False:=by
 grind
def ao5(hm:G2 ops ms)(ay:Ej ops l)(az:i∈Region.ready .any ops l)(aC:j∈Region.ready .any ops l):LD ms i j=ai:=by
 obtain⟨i0,Bu,at3,ur⟩:=mem_ready.1 az;obtain⟨avQ,yd,sB,n3⟩:=mem_ready.1 aC;unfold LD;simp only[pf,Bool.not_eq_true'];constructor
 .cases h:(ms.getD j 0).testBit i with
  |false=>rfl
  |true=>exact(VU i0 (ad9 hm ay j yd sB n3 i h)).elim
 .cases h:(ms.getD i 0).testBit j with
  |false=>rfl
  |true=>exact(VU avQ (ad9 hm ay i Bu at3 ur j h)).elim
def Hw(ay:Ej ops l)(aC:j∈Region.ready .any ops l):Ej ops (dy l j ai):=by
 obtain⟨_,yd,sB,n3⟩:=mem_ready.1 aC;intro k o aH aq e he af;by_cases Fs:j=k
 .subst Fs;rw[sB] at aH;cases aH;exact getD_set_true (n3 e he af)
 .rw[getD_set_ne av Fs] at aq;exact getD_set_true (ay k o aH aq e he af)
def aBi(hm:G2 ops ms)(az:ops[i]?=J Bu)(Ng:∀(j:Nat) (o:Oper) cs b,ops[j]?=J o->o.op≠.select cs b)
  (eR:∀c a w,Q (.panic c) (a.put Bu.dst v) w->Q (.panic c) a w):
  ∀(fuel:Nat) (l:Array Bool) (ws:Cl) (a:Act) (w:World),Ej ops l->
   (∀j yd,ops[j]?=J yd->j≠i->l.getD j ai=av->(∀e∈yd.after,Region.binds .any e=ai->e.on≠i)->Bu.apart ops yd=ai)->
   i∈Region.ready .any ops l->YieldsIf P ops S Bu v a->S w->
   zV P ops Q ms fuel (dy l i ai) ((i,S)::ws) (a.put Bu.dst v) w->zV P ops Q ms (fuel+1) l ws a w:=by
 intro fuel;induction fuel with
 |zero=>
  intro l ws a w _ _ aF a2 aY H;refine⟨λh=>al,λj aC=>?_⟩;by_cases lz:j=i
  .subst lz;exact a2.wpOp az aY ⟨λ_ _ _ h=>h,H⟩
  .have:=ready_mono aC lz;rw[H.1] at this;cases this
 |succ fuel bR=>
  intro l ws a w eS MU aF a2 aY H;refine⟨λh=>al,λj aC=>?_⟩;by_cases lz:j=i
  .subst lz;exact a2.wpOp az aY ⟨λ_ _ _ h=>h,ahc (λx ae=>xf _ ae) _ _ _ _ H⟩
  .have aa:=H.2 j (ready_mono aC lz);obtain⟨atn,yd,sB,l'⟩:=mem_ready.1 aC;have atZ:∀e∈yd.after,Region.binds .any e=ai->e.on≠i:=λe he af heq=>by
    have aa:=l' e he af;rw[heq] at aa;exact VU (mem_ready.1 aF).1 aa
   have asC:=ao5 hm eS aF aC;have ad:=wpOp_putIf sB (MU j yd sB lz atn atZ) (λcs b=>Ng i Bu cs b az) (λcs b=>Ng j yd cs b sB) eR a2 aa;have asX:∀k ok,ops[k]?=J ok->k≠i->(dy l j ai).getD k ai=av->
     (∀e∈ok.after,Region.binds .any e=ai->e.on≠i)->Bu.apart ops ok=ai:=λk ok aq acf aFb fy=>by
    refine MU k ok aq acf ?_ fy;by_cases Fs:j=k
    .grind
    simp_all
   refine wpOp_mono (λbM bh an=>?_) ad;have gG:S bh:=an.2.1 (i,S) (uO ..) asC aY;refine⟨λx ae=>an.2.1 x (xf _ ae),bR (dy l j ai) ws bM bh (Hw eS aC) asX (ready_mono aF (O9 lz)) an.1 gG ?_⟩;rw[Array.setIfInBounds_comm _ _ lz];exact an.2.2
end
def UZ(ms:List Nat)(b:Nat):∀es:List Edge,(predsOf ms es).testBit b=ai->∃e∈es,Region.binds .any e=ai/\(e.on=b\/(ms.getD e.on 0).testBit b=ai)
 |[],h=>by simp[predsOf] at h
 |e::es,h=>by
  simp only[predsOf] at h;split at h
  .rename_i af;simp only[Nat.testBit_or,Bool.or_eq_true,Nat.testBit_two_pow,r_] at h;rcases h with (h|h)|h
   .grind
   .grind
   .obtain⟨c',he,h'⟩:=UZ ms b es h;grind
  .obtain⟨c',he,h'⟩:=UZ ms b es h;grind
def masks_get:∀(os:List Oper) ms (j:Nat),(masks os ms).getD j 0=if j<U ms then ms.getD j 0 else match os[j-U ms]? with
  |some o=>predsOf (bf j (masks os ms)) (bC o.after)
  |none=>0
 |[],ms,j=>by
  simp only[masks];grind
 |o::os,ms,j=>by
  simp only[masks];rw[masks_get os (ms++[predsOf ms (bC o.after)]) j];simp only[r8,O1];by_cases h:j<U ms
  .rw[aA I,aA h];grind
  .by_cases ad:j=U ms
   .subst ad;rw[aA I,ak h];have FG:∀(os:List Oper) ms,(masks os ms).take (U ms)=ms:=by
     intro os;induction os with
     |nil=>intro ms;simp[masks]
     |cons o os bR=>
      intro ms;simp only[masks];have:=bR (ms++[predsOf ms (bC o.after)]);have an:=mQ (List.take (U ms)) this;grind
    have aT:(masks os (ms++[predsOf ms (bC o.after)])).take (U ms)=ms:=by
     have:=FG os (ms++[predsOf ms (bC o.after)]);have an:=mQ (List.take (U ms)) this;grind
    simp[aT]
   .rw[ak I,ak h];grind
def awF(ops:Array Oper):G2 ops (masks (bC ops) []):=by
 intro j o aH b af;rw[masks_get] at af;simp only[tK,Nat.not_lt_zero,lL,Nat.sub_zero] at af;have aa:(bC ops)[j]?=J o:=al
 rw[aa] at af;simp only at af;obtain⟨e,he,MI,h⟩:=UZ _ b _ af;grind
def K7:vR->Cl->Prop
 |[],[]=>True
 |(i,J (p,m))::r,(j,S)::s=>i=j/\(∃BO,S=Kept p m BO)/\K7 r s
 |(i,ab)::r,(j,_)::s=>i=j/\K7 r s
 |_,_=>False
def Kept.refl(p:ao)(m:Nat)(w:World):Kept p m w w:=λ_ _ _ _ _ h=>h
def Kept.trans(a:Kept p m w bh)(b:Kept p m bh qA):Kept p m w qA:=λq b5 i az x h=>b q b5 i az x (a q b5 i az x h)
def Nw:∀{wl:vR} {ws:Cl} {E:List (ao×Nat)},K7 wl ws->concL ms j wl=J E->∀{w bh:World},Good E w bh->X2 ms j ws w bh
 |[],[],_,_,_,_,_,_=>λ_ h=>by cases h
 |[],_::_,_,h,_,_,_,_=>h.elim
 |(_,ab)::_,[],_,h,_,_,_,_=>h.elim
 |(_,J _)::_,[],_,h,_,_,_,_=>h.elim
 |(i,ab)::r,(ej,S)::s,E,hm,ay,w,bh,aX=>by
  obtain⟨rfl,hm⟩:=hm;simp only[concL] at ay;split at ay
  .cases ay
  .rename_i l au;split at ay
   .cases ay
   .rename_i asx;cases ay;intro x ae ot;rcases r9.1 ae with rfl|ae
    .grind
    .exact Nw hm au aX x ae ot
 |(i,J (p,m))::r,(ej,S)::s,E,hm,ay,w,bh,aX=>by
  obtain⟨rfl,⟨BO,rfl⟩,hm⟩:=hm;simp only[concL] at ay;split at ay
  .cases ay
  .rename_i l au;split at ay
   .simp only[dg] at ay;subst ay;intro x ae ot;rcases r9.1 ae with rfl|ae
    .intro aW;exact Kept.trans aW (λb af i az v aD=>aX (p,m) (uO ..) b af i az v aD)
    .exact Nw hm au (λy a2=>aX y (xf _ a2)) x ae ot
   .rename_i asx;cases ay;intro x ae ot;rcases r9.1 ae with rfl|ae
    .grind
    .exact Nw hm au aX x ae ot
def aax[hz](ops:Array Oper):∀r:List Nat,fstQ ops r=J i->i∈r/\TL ops i≠.nZ
 |[],h=>by cases h
 |j::r,h=>by
  simp only[fstQ] at h;split at h
  .obtain⟨aa,ad⟩:=aax ops r h;grind
  grind
def YN:∀r:List Nat,P5 F r->∀i∈r,F i
 |[],_,i,az=>by cases az
 |[j],h,i,az=>by
  rcases r9.1 az with rfl|az
  .exact h
  .cases az
 |j::k::r,h,i,az=>by
  rcases r9.1 az with rfl|az
  .exact h.1
  .exact YN (k::r) h.2 i az
variable[hz]{n:Nat}{a:Act}{f:Fr}{Q:Exit->Act->World->Prop}{w:World}
def ayP(aq:kindOf o.op≠.nZ)(h:opW [] f o.op w.heap k):
  ∃v S,k v w.heap/\S w/\(∀bh,S bh->(execOp (ev f) o).run P bh=.ok (.value v) bh)/\(kindOf o.op=.pu->∀bh,S bh)/\(∀t p,o.op=.load t p->S=Kept (ev f p) (uD t) w):=by
 obtain⟨dst,op,type,pos,after,guard⟩:=o;have fin:(∃v,k v w.heap/\∀bh,(execOp (ev f) ⟨dst,op,type,pos,after,guard⟩).run P bh=.ok (.value v) bh)->(∀t p,op≠.load t p)->
   ∃v S,k v w.heap/\S w/\(∀bh,S bh->(execOp (ev f) ⟨dst,op,type,pos,after,guard⟩).run P bh=.ok (.value v) bh)/\(kindOf op=.pu->∀bh,S bh)/\(∀t p,op=.load t p->S=Kept (ev f p) (uD t) w):=
  λ⟨v,aa,ad⟩ au=>⟨v,λ_=>True,aa,trivial,λbh _=>ad bh,λ_ _=>trivial,λt p e=>absurd e (au t p)⟩
 simp only at h aq;cases op with
 |move x=>exact fin (ayJ x h) a1
 |assign x=>exact fin (ayw x h) a1
 |pick c x y=>exact fin (ayL c x y h) a1
 |nilCheck x=>exact fin (ayK x h) a1
 |binOp op t x y q=>exact fin (ayx op t x y q h) a1
 |unOp op t x=>exact fin (ayO op t x h) a1
 |makeFunc fn x y=>exact fin (ayH fn x y h) a1
 |slice t x br az k9=>exact fin (ayM t x br az k9 h) a1
 |fieldAddr s x i=>exact fin (ayD s x i h) a1
 |field s x i=>exact fin (ayC s x i h) a1
 |indexAddr t x i=>exact fin (ayF t x i h) a1
 |index t x i=>exact fin (ayE t x i h) a1
 |extract x i=>exact fin (ayB x i h) a1
 |build t c9=>exact fin (ayy t c9 h) a1
 |makeInterface t x=>exact fin (ayI t x h) a1
 |typeAssert x uJ t ok=>exact fin (ayN x uJ t ok h) a1
 |convert s d x=>
  cases ti:kindOf (.convert s d x) with
  |pu=>
   obtain⟨v,aa,ad⟩:=ayA (dst:=dst) (type:=type) (pos:=pos) (after:=after) (guard:=guard) s d x ti h;simp_all
  |gj=>
   obtain⟨v,aa,ad⟩:=ayz (dst:=dst) (type:=type) (pos:=pos) (after:=after) (guard:=guard) s d x ti h;exact⟨v,λbh=>bh.heap=w.heap,aa,rfl,ad,a1,a1⟩
  |nZ=>grind
 |call c=>exact fin (qu_call (E:=[]) c aq h) a1
 |load t p=>
  obtain⟨v,aa,ad⟩:=ayG (dst:=dst) (type:=type) (pos:=pos) (after:=after) (guard:=guard) t p h;refine⟨v,Kept (ev f p) (uD t) w,aa,Kept.refl _ _ _,ad,by simp[kindOf],?_⟩;grind
 |_=>exact absurd rfl aq
def quiet_step(r:Rel n a f)(aq:kindOf o.op≠.nZ)(h:stepW [] (bC ops) o k f w.heap):
  ∃v S,YieldsIf P ops S o v a/\S w/\k (fputO f o.dst v) w.heap/\(kindOf o.op=.pu->∀bh,S bh)/\(∀t p,o.op=.load t p->S=Kept (ev f p) (uD t) w):=by
 have skip:Region.wanted o (yielded ops a.tmps)=av->k (fputO f o.dst undef) w.heap->
   ∃v S,YieldsIf P ops S o v a/\S w/\k (fputO f o.dst v) w.heap/\(kindOf o.op=.pu->∀bh,S bh)/\(∀t p,o.op=.load t p->S=Kept (ev f p) (uD t) w):=by
  intro hw ql;cases kC:o.op with
  |load t p=>exact⟨undef,Kept (ev f p) (uD t) w,bt ⟨hw,rfl⟩,Kept.refl _ _ _,ql,by simp[kindOf],λeO hG e=>by cases e;rfl⟩
  |_=>exact⟨undef,λ_=>True,bt ⟨hw,rfl⟩,trivial,ql,λ_ _=>trivial,a1⟩
 have go:Region.wanted o (yielded ops a.tmps)=ai->opW [] f o.op w.heap (λv h=>k (fputO f o.dst v) h)->
   ∃v S,YieldsIf P ops S o v a/\S w/\k (fputO f o.dst v) w.heap/\(kindOf o.op=.pu->∀bh,S bh)/\(∀t p,o.op=.load t p->S=Kept (ev f p) (uD t) w):=by
  intro hw h;obtain⟨v,S,aa,ad,an,aT,bN⟩:=ayP aq h;exact⟨v,S,bF ⟨hw,λbh aL=>by rw[r.E5];grind⟩,ad,aa,aT,bN⟩
 unfold stepW at h;split at h
 .rename_i aX;exact go (by simp[Region.wanted,aX]) h
 .rename_i g b aX;have aFe:Region.wanted o (yielded ops a.tmps)=((match gv (bC ops) f g with| .bool t=>J t|_=>ab)==J b):=by
   simp only[Region.wanted,aX,yielded_eq r]<;>rfl
  unfold a0 at h;grind
def apm(aI:tx)(hm:G2 ops ms)(Ng:∀(j:Nat) (o:Oper) cs b,ops[j]?=J o->o.op≠.select cs b)(eR:∀c a w,¬Q (.panic c) a w)(aG:lY n (dsts (bC ops))=ai):
  ∀(fuel:Nat) (l:Array Bool) (wl:vR) (ws:Cl) (a:Act) (w:World) (f:Fr),Rel n a f->Ej ops l->K7 wl ws->drawW ops ms fuel l wl k f w.heap->
  (∀bM bh bm,Rel n bM bm->e9 w bh->eG (dsts (bC ops)) f bm->k bm bh.heap->Q .normal bM bh)->zV P ops Q ms fuel l ws a w:=by
 have MP:∀(i:Nat) o,ops[i]?=J o->∀d,o.dst=J d->memB d (dsts (bC ops))=ai/\d<n:=by
  intro i o aH d nA;have C7:o∈bC ops:=al
  generalize bC ops=L at C7 aG;clear aH;induction L with
  |nil=>cases C7
  |cons y L bR=>
   have tm:lY n (dsts L)=ai:=by
    cases a2:y.dst with
    |none=>simpa only[dsts,a2] using aG
    |some d=>simp only[dsts,a2,lY,pf] at aG;exact aG.2
   rcases r9.1 C7 with rfl|C7
   .simp only[dsts,nA,lY,pf] at aG⊢;refine⟨by simp[memB],?_⟩;simp_all
   .obtain⟨aa,ad⟩:=bR C7 tm;refine⟨?_,ad⟩;rw[NS] at aa⊢;cases a2:y.dst with
    |none=>simpa only[dsts,a2] using aa
    |some d=>simp only[dsts,a2];grind
 intro fuel;induction fuel with
 |zero=>
  intro l wl ws a w f r _ _ h aq;simp only[drawW] at h;split at h
  .rename_i aF;exact⟨aF,aq a w f r (e9.refl w) (eG.refl _ _) h⟩
  grind
 |succ fuel bR=>
  intro l wl ws a w f r eS Fz h aq;simp only[drawW] at h;split at h
  .rename_i aF;exact⟨λ_=>aq a w f r (e9.refl w) (eG.refl _ _) h,al⟩
  .rename_i bk;split at h
   .rename_i i b5;obtain⟨zj,xV⟩:=aax ops _ b5;split at h
    .rename_i o MU aH;have att:kindOf o.op≠.nZ:=by simpa only[TL,aH] using xV
     obtain⟨v,S,a2,aY,ti,aul,sv⟩:=quiet_step r att h;have IJ:=r.put o.dst (λd nA=>(MP i o aH d nA).2) v;have M6:eG (dsts (bC ops)) f (fputO f o.dst v):=eG.put λd nA=>(MP i o aH d nA).1;refine aBi hm aH Ng (λc bM bh h'=>absurd h' (eR c _ _)) fuel l ws a w eS (Region.free_spec aH MU) zj a2 aY ?_;have ql:∀bM bh bm,Rel n bM bm->e9 w bh->eG (dsts (bC ops)) (fputO f o.dst v) bm->k bm bh.heap->Q .normal bM bh:=λbM bh bm cC eU fc h'=>aq bM bh bm cC eU (M6.trans fc) h';cases SO:kindOf o.op with
     |nZ=>grind
     |pu=>
      have rF:Lk f i o.op wl=wl:=by unfold Lk;rw[SO]
      rw[rF] at ti;exact ahd (aul SO) _ _ _ _ (bR _ wl ws _ w _ IJ (Hw eS zj) Fz ti ql)
     |gj=>
      refine bR _ _ _ _ w _ IJ (Hw eS zj) ?_ ti ql;unfold Lk;rw[SO];cases kC:o.op with
      |load t p=>exact⟨rfl,⟨w,sv t p kC⟩,Fz⟩
      |_=>exact⟨rfl,Fz⟩
    grind
   .refine⟨λaW=>?_,λi az=>?_⟩
    .grind
    .have aa:=YN _ h i az;split at aa
     .rename_i o E aH jR;have IJ:=λv=>r.put o.dst (λd nA=>(MP i o aH d nA).2) v;have M6:∀v,eG (dsts (bC ops)) f (fputO f o.dst v):=λv=>eG.put λd nA=>(MP i o aH d nA).1;unfold wpOp;simp only[aH];rcases ags (Q:=Q) aI r aa with ⟨hw,ad⟩|⟨hw,ad⟩
      .rw[aA hw];refine bF (Oper.wp_mono (λbM bh h'=>?_) ad);obtain⟨v,rfl,aL,aX,ti⟩:=h';exact⟨Nw Fz jR aX,bR _ wl ws _ bh _ (IJ v) (Hw eS az) Fz ti λbM qA bm cC eU fc h'=>aq bM qA bm cC (aL.trans eU) ((M6 v).trans fc) h'⟩
      .rw[hw];exact⟨λ_ _ _ h=>h,bR _ wl ws _ w _ (IJ undef) (Hw eS az) Fz ad λbM qA bm cC eU fc h'=>aq bM qA bm cC eU ((M6 undef).trans fc) h'⟩
     grind
def LK(aI:tx)(sx:P.follows .mixedOrders=ai){ops:Array Oper}(eR:∀c a w,¬Q (.panic c) a w)(aG:lY n (dsts (bC ops))=ai)(r:Rel n a f)(h:EV ops k f w.heap)
  (aq:∀bM bh bm,Rel n bM bm->e9 w bh->eG (dsts (bC ops)) f bm->k bm bh.heap->Q .normal bM bh) {id:Nat}:(Code.region id ops ai).wp P Q a w:=by
 unfold EV at h;split at h
 .rename_i aL;refine wp_region_any sx (ahe _ _ [] _ _ (apm aI (awF ops) (Region.noSelect_spec aL) eR aG _ _ [] [] a _ f r ?_ trivial h ?_))
  .intro k o _ au;simp[Array.getElem?_replicate] at au;grind
  .intro bM bh bm cC eU fc h';exact aq bM bh bm cC ⟨eU.os,eU.tape,eU.output⟩ fc h'
 grind
end
section
def PH:∀(n:Nat) {b7 fD:se n},GY n b7 fD->∀vs h,ap n b7 vs h->ap n fD vs h
 |0,_,_,az,_,h,bE=>az h bE
 |n+1,_,_,az,v::vs,h,bE=>PH n (az v) vs h bE
 |n+1,_,_,az,[],h,bE=>PH n (az undef) [] h bE
def Lp:∀(n:Nat) {F:List ao->H->Prop} (vs:List ao) (h:H),U vs=n->ap n (lam n F) vs h=F vs h
 |0,F,[],h,_=>rfl
 |n+1,F,v::vs,h,au=>by
  have:=Lp n (F:=λvs=>F (v::vs)) vs h al;exact this
 |0,_,_::_,_,au=>by simp at au
 |_+1,_,[],_,au=>by simp at au
def Ox(f:Fr):∀L:List Nat,U (kh f L)=U L
 |[]=>rfl
 |_::L=>by simp[kh,Ox f L]
def ad0(f:Fr)(i:Nat):∀L:List Nat,lk i L (kh f L) (f i)=f i
 |[]=>rfl
 |a::L=>by
  simp only[kh,lk];cases h:Nat.beq i a with
  |true=>simp_all
  |false=>exact ad0 f i L
def awH(L:List Nat)(h:eG S f bm):mix S f bm L (kh bm L)=bm:=by
 funext i
 simp only[mix];cases hm:memB i S with
 |true=>exact ad0 bm i L
 |false=>exact(h i hm).symm
def x8{f bm:Fr}{F:Fr->H->Prop}{b7:se (U L)}(cr:∀d,GY (U L) b7 (lam (U L) λvs h'=>F (mix S f d L vs) h'))(aH:eG S f bm){h:H}(aJ:ap (U L) b7 (kh bm L) h):F bm h:=by
 have:=PH _ (cr bm) _ _ aJ;rw[Lp _ _ _ (Ox bm L),awH L aH] at this;exact this
def F5(n:Nat):∀a b:List Nat,lY n (a++b)=(lY n a&&lY n b)
 |[],b=>by simp[lY]
 |d::a,b=>by simp[lY,F5 n a b,Wj]
noncomputable def least(p:Nat->Prop):Nat:=by
 classical exact if h:∃m,p m/\∀ez,ez<m->¬p ez then Classical.choose h else 0
def awl{p:Nat->Prop}(h:∃m,p m):∃m,p m/\∀ez,ez<m->¬p ez:=by
 obtain⟨m,hm⟩:=h;induction m using Nat.strongRecOn with
 |_ m bR=>
  grind
def T2(h:∃m,p m):p (least p)/\∀ez,ez<least p->¬p ez:=by
 have h':=awl h;unfold least;rw[gw h'];grind
def least_le(h:p m):least p<=m:=by
 have:=(T2 ⟨m,h⟩).2;grind
def Rel.cf(r:Rel n a f)(cC:Rel di a bm):f=bm:=funext λi=>(r.slot i).symm.trans (cC.slot i)
variable[hz]{n:Nat}
def QK(n:Nat)(S:List Nat)(f:Fr)(w:World)(k:Cb):Exit->Act->World->Prop:=λe bM bh=>e9 w bh/\∃bm,Rel n bM bm/\eG S f bm/\match e with
 | .normal=>k.n bm bh.heap
 | .exit id=>k.x id bm bh.heap
 | .ret=>k.r bm bh.heap
 |_=>False
omit [hz] in
def QK.mono(h:QK n S f w k e bM bh)(aL:e9 BO w)(aH:eG T f0 f)(e_:∀i,memB i S=ai->memB i T=ai)
  (aa:∀bm h,eG T f0 bm->k.n bm h->k'.n bm h) (ad:∀id bm h,eG T f0 bm->k.x id bm h->k'.x id bm h) (an:∀bm h,eG T f0 bm->k.r bm h->k'.r bm h):QK n T f0 BO k' e bM bh:=by
 obtain⟨s,bm,r,o,h⟩:=h;have fc:eG T f0 bm:=aH.trans (o.mono e_);refine⟨aL.trans s,bm,r,fc,?_⟩;grind
omit [hz] in
def QK.Je(c:List PanicEntry)(bM:Act)(bh:World):¬QK n S f w k (.panic c) bM bh:=λ⟨_,_,_,_,h⟩=>h
def aov(aI:tx)(sx:P.follows .mixedOrders=ai):∀(c:Code) (A:List (Option (List Nat))) (k:Cb) (f:Fr) (a:Act) (w:World),Rel n a f->lY n (writes c)=ai->awp c A k f w.heap->c.wp P (QK n (writes c) f w k) a w:=by
 intro c;induction c with
 |skip=>intro A k f a w r _ h;exact wp_skip ⟨e9.refl w,f,r,eG.refl _ _,h⟩
 |exit id=>intro A k f a w r _ h;exact wp_exit ⟨e9.refl w,f,r,eG.refl _ _,h⟩
 |ret=>intro A k f a w r _ h;exact wp_ret ⟨e9.refl w,f,r,eG.refl _ _,h⟩
 |region id ops draw=>
  intro A k f a w r aG h;cases draw with
  |false=>
   exact wp_region_list (Vf aI (bC ops) a w f r aG h λbM bh bm cC eU fc h'=>⟨eU,bm,cC,fc,h'⟩)
  |true=>
   simp only[awp] at h;split at h
   .rename_i L fO;obtain⟨b7,cr,fP⟩:=h;exact LK aI sx (λc a w=>QK.Je c a w) aG r fP λbM bh bm cC eU fc h'=>⟨eU,bm,cC,fc,x8 cr fc h'⟩
   .exact LK aI sx (λc a w=>QK.Je c a w) aG r h λbM bh bm cC eU fc h'=>⟨eU,bm,cC,fc,h'⟩
 |seq x y Dj Bf=>
  intro A k f a w r aG h;simp only[writes,F5,pf] at aG;have qu:∀i,memB i (writes x)=ai->memB i (writes (.seq x y))=ai:=λi az=>by simp only[writes,ya,az,Wk]
  have yn:∀i,memB i (writes y)=ai->memB i (writes (.seq x y))=ai:=λi az=>by simp only[writes,ya,az,OW]
  have key:∀(i' iJ:List (Option (List Nat))) (k6:Fr->H->Prop),awp x i' ⟨k6,k.x,k.r⟩ f w.heap->(∀bm h',eG (writes x) f bm->k6 bm h'->awp y iJ k bm h')->(Code.seq x y).wp P (QK n (writes (.seq x y)) f w k) a w:=by
   intro i' iJ k6 ae a2;apply wp_seq;refine wp_mono (Dj i' _ f a w r aG.1 ae) λe bM bh b5=>?_;cases e with
   |normal=>
    obtain⟨s,bm,cC,o,bO⟩:=b5;exact wp_mono (Bf iJ k bm bM bh cC aG.2 (a2 bm _ o bO)) λe oL qA tk=>tk.mono s (o.mono qu) yn (λ_ _ _ h=>h) (λ_ _ _ _ h=>h) (λ_ _ _ h=>h)
   |exit id=>exact b5.mono (k':=k) (e9.refl w) (eG.refl _ _) qu (e:=.exit id) (k:=⟨λ_ _=>False,k.x,k.r⟩) (λ_ _ _ h=>h.elim) (λ_ _ _ _ h=>h) (λ_ _ _ h=>h)
   |ret=>exact b5.mono (k':=k) (e9.refl w) (eG.refl _ _) qu (e:=.ret) (k:=⟨λ_ _=>False,k.x,k.r⟩) (λ_ _ _ h=>h.elim) (λ_ _ _ _ h=>h) (λ_ _ _ h=>h)
   |goto l=>exact b5.2.choose_spec.2.2.elim
   |panic mo=>exact b5.2.choose_spec.2.2.elim
   |outgrown=>exact b5.2.choose_spec.2.2.elim
  simp only[awp] at h;split at h
  .rename_i L fO;obtain⟨b7,cr,fP⟩:=h;exact key _ _ _ fP λbm h' o bO=>x8 cr o bO
  .exact key _ _ _ h λbm h' _ bO=>bO
 |cond c x y Dj Bf=>
  intro A k f a w r aG h;simp only[writes,F5,pf] at aG;have qu:∀i,memB i (writes x)=ai->memB i (writes (.cond c x y))=ai:=λi az=>by simp only[writes,ya,az,Wk]
  have yn:∀i,memB i (writes y)=ai->memB i (writes (.cond c x y))=ai:=λi az=>by simp only[writes,ya,az,OW]
  simp only[awp] at h;unfold b1 at h;split at h
  .rename_i t aP;have ay:a.eval c=aQ t:=(r.ev c).trans aP;exact wp_cond_split ay (λe=>wp_mono (Dj A k f a w r aG.1 (h.1 e)) λe bM bh b5=>b5.mono (e9.refl w) (eG.refl _ _) qu (λ_ _ _ h=>h) (λ_ _ _ _ h=>h) (λ_ _ _ h=>h))
    (λe=>wp_mono (Bf _ k f a w r aG.2 (h.2 e)) λe bM bh b5=>b5.mono (e9.refl w) (eG.refl _ _) yn (λ_ _ _ h=>h) (λ_ _ _ _ h=>h) (λ_ _ _ h=>h))
  grind
 |block id x bR=>
  intro A k f a w r aG h;have key:∀(i':List (Option (List Nat))) (k6:Fr->H->Prop),awp x i' ⟨k6,λj bm h'=>cond (Nat.beq j id) (k6 bm h') (k.x j bm h'),k.r⟩ f w.heap->(∀bm h',eG (writes x) f bm->k6 bm h'->k.n bm h')->(Code.block id x).wp P (QK n (writes (.block id x)) f w k) a w:=by
   intro i' k6 ae aq;apply wp_block;refine wp_mono (bR i' _ f a w r aG ae) λe bM bh b5=>?_;obtain⟨s,bm,cC,o,bO⟩:=b5;cases e with
   |normal=>exact⟨s,bm,cC,o,aq _ _ o bO⟩
   |exit j=>
    simp only[Exit.inBlock];simp only at bO;split
    .rename_i e;subst e;rw[Nat.beq_refl] at bO;exact⟨s,bm,cC,o,aq _ _ o bO⟩
    .rename_i e;have:Nat.beq j id=av:=by
      cases af:Nat.beq j id with
      |false=>rfl
      |true=>simp_all
     rw[this] at bO;exact⟨s,bm,cC,o,bO⟩
   |ret=>exact⟨s,bm,cC,o,bO⟩
   |goto l=>grind
   |panic mo=>grind
   |outgrown=>grind
  simp only[awp] at h;split at h
  .rename_i L fO;obtain⟨b7,cr,fP⟩:=h;exact key _ _ fP λbm h' o bO=>x8 cr o bO
  grind
 |loop x bR=>
  intro A k f a w r aG h;simp only[awp] at h;split at h
  .rename_i L fO;obtain⟨b7,⟨uA,aW⟩,cr⟩:=h;let pm:Act->World->Nat->Prop:=λbM bh m=>∃bm,Rel n bM bm/\ap (U L) (b7 m) (kh bm L) bh.heap
   refine wp_loop (λbM bh=>e9 w bh/\∃bm,Rel n bM bm/\eG (writes x) f bm/\∃m,ap (U L) (b7 m) (kh bm L) bh.heap) (λbM bh=>least (pm bM bh)) ⟨e9.refl w,f,r,eG.refl _ _,uA,aW⟩ ?_;rintro bM bh ⟨s,bm,cC,o,m,hm⟩;obtain⟨f2,cK,ad⟩:=(T2 (p:=pm bM bh) ⟨m,bm,cC,hm⟩).1;have ar:=cK.cf cC;subst ar;generalize aX:least (pm bM bh)=dK at ad;have af:awp x (na A) ⟨λbm cN=>ap (U L) (ex (U L) b7 dK) (kh bm L) cN,k.x,k.r⟩ f2 bh.heap:=
    x8 (F:=λbm h'=>awp x (na A) ⟨λbm cN=>ap (U L) (ex (U L) b7 dK) (kh bm L) cN,k.x,k.r⟩ bm h') (cr dK) o ad
   refine wp_mono (bR _ _ f2 bM bh cC aG af) λe oL qA b5=>?_;obtain⟨eU,f3,df,o4,bO⟩:=b5;have fc:=o.trans o4;have yk:=s.trans eU;cases e with
   |normal=>
    simp only[ex] at bO;rw[Lp _ _ _ (Ox f3 L)] at bO;obtain⟨ez,a',qn⟩:=bO;refine⟨⟨yk,f3,df,fc,ez,qn⟩,?_⟩;exact nT (least_le (p:=pm oL qA) ⟨f3,df,qn⟩) (aX▸a')
   |exit j=>exact⟨yk,f3,df,fc,bO⟩
   |ret=>exact⟨yk,f3,df,fc,bO⟩
   |goto l=>grind
   |panic mo=>grind
   |outgrown=>grind
  grind
 |_=>intro A k f a w r _ h;exact h.elim
def awu(bE:aggT t=J ai)(h:cO (szT t) (bU (J a)) w.heap k):∃v,(loadVar t a).run P w=.ok v w/\k v w.heap:=by
 have cr:=MF bE;obtain⟨eE,aJ,⟨aW,h⟩|⟨c,e,b3,af,aa,ad,an⟩⟩:=K4 h
 .cases aJ;exact⟨_,by simp[loadVar,xw bE,q9 cr,loadCells,loadCellsFrom,aW],h⟩
 .cases aJ;exact⟨_,by simp[loadVar,xw bE,q9 cr,T' af aa ad],an⟩
def resF(tmps:Array ao):ResultVar->Sem ao
 | .tmp t=>pure (tmps.getD t undef)
 | .cell a t=>do loadVar t (<-asAddr (tmps.getD a undef))
omit [hz] in
def ay4(fn:Func)(tmps:Array ao):results fn tmps=(do let vs<-fn.results.mapM (resF tmps);pure (if h:ag vs=1 then vs[0] else bA vs)):=rfl
def Vg:∀(rs:List ResultVar) (tmps:Array ao) (f:Fr) (w:World) (k:List ao->Prop),(∀i,tmps.getD i undef=f i)->resW rs f w.heap k->
  ∃vs,(rs.mapM (resF tmps)).run P w=.ok vs w/\k vs
 |[],_,_,_,_,_,h=>⟨[],a1,h⟩
 | .tmp t::rs,tmps,f,w,k,bj,h=>by
  obtain⟨vs,aa,ad⟩:=Vg rs tmps f w _ bj h;refine⟨f t::vs,?_,ad⟩;have aW:(resF tmps (.tmp t)).run P w=.ok (f t) w:=by rw[<-bj t];rfl
  simp_all
 | .cell eE t::rs,tmps,f,w,k,bj,h=>by
  have l':∃a v,f eE=bU (J a)/\(loadVar t a).run P w=.ok v w/\resW rs f w.heap λvs=>k (v::vs):=by
   simp only[resW] at h;split at h
   .rename_i bE;obtain⟨a,aJ,_⟩:=K4 h;rw[aJ] at h;obtain⟨v,aa,ad⟩:=awu bE h;grind
   .rename_i bE;unfold cd at h;split at h
    .rename_i a aJ;split at h
     .rename_i v aD;exact⟨a,v,aJ,by simp[loadVar,xw bE,<-Vd,aD],h⟩
     grind
    grind
   grind
  obtain⟨a,v,aJ,aa,ad⟩:=l';obtain⟨vs,an,aT⟩:=Vg rs tmps f w _ bj ad;refine⟨v::vs,?_,aT⟩;have aW:(resF tmps (.cell eE t)).run P w=.ok v w:=by
   simp only[resF,bj eE,aJ,asAddr,Sem.run_bind,Sem.run_pure,Result.andThen_ok,aa]
  simp_all
def Oj(bj:∀i,tmps.getD i undef=f i)(h:retW (bC fn.results) R f w.heap):∃v,(results fn tmps).run P w=.ok v w/\R v w.heap:=by
 obtain⟨vs,aa,ad⟩:=Vg _ tmps f w _ bj h;have an:(results fn tmps).run P w=.ok (if h:ag (aZ vs)=1 then (aZ vs)[0] else bA (aZ vs)) w:=by
  rw[ay4,Array.mapM_eq_mapM_toList,map_eq_pure_bind];simp only[Sem.run_bind,aa,Result.andThen_ok,Sem.run_pure]
 refine⟨_,an,?_⟩;split at ad
 .grind
 .rename_i bk;have:ag (aZ vs)≠1:=by
   intro e;obtain⟨v,aD⟩:=List.length_eq_one_iff.1 (by omega:U vs=1);grind
  grind
omit [hz] in
def P':∀(args:List ao) (m i:Nat),((args++List.replicate m undef)[i]?).getD undef=argF args i
 |[],m,i=>by
  simp only[sS,argF,List.getElem?_replicate];grind
 |v::l,m,0=>rfl
 |v::l,m,i+1=>by
  simp only[uM,uN,argF];exact P' l m i
def aj3(aI:tx)(sx:P.follows .mixedOrders=ai)(A:List (Option (List Nat)))(bj:P.funcs[k]?=J fn)(af:fn.body=J c)
  (aG:lY fn.ntmps (writes c)=ai) (bE:Nat.ble (U args) fn.ntmps=ai) (w:Rc fn c A args h R):bo k args h R:=by
 intro wd bO;subst bO;have hle:=lK bE;refine calls_of_wp bj af (wp_mono (aov (n:=fn.ntmps) aI sx c A _ (argF args) _ wd ⟨?_,rfl,?_⟩ aG w) ?_)
 .simp;omega
 .intro i;rw[<-P' args (fn.ntmps-U args) i];simp[<-Ku]
 .intro e bM bh b5;obtain⟨s,bm,r,o,bO⟩:=b5;cases e with
  |normal=>
   obtain⟨v,aa,ad⟩:=Oj r.slot bO;exact⟨r.defers,v,aa,⟨v,rfl,ad⟩,s⟩
  |ret=>
   obtain⟨v,aa,ad⟩:=Oj r.slot bO;exact⟨r.defers,v,aa,⟨v,rfl,ad⟩,s⟩
  |exit j=>grind
  |goto l=>grind
  |panic mo=>grind
  |outgrown=>grind
end
noncomputable instance aGO:hz:=⟨Tryz.prog⟩
def EJ(fn:Func):Code:=match fn.body with|some c=>c|none=>.skip
def nmOk:List Func->Bool
 |[]=>ai
 |f::l=>(match decEq f.name "runtime.NumGoroutine" with| .isTrue _=>av| .isFalse _=>ai)&&nmOk l
def aeL:∀l:List Func,nmOk l=ai->∀(g:Nat) (fn:Func),l[g]?=J fn->fn.name≠ "runtime.NumGoroutine"
 |[],_,g,fn,h=>by simp at h
 |f::l,au,g,fn,h=>by
  simp only[nmOk,pf] at au;cases g with
  |zero=>
   simp only[rq,dg] at h;subst h;cases aG:decEq f.name "runtime.NumGoroutine" with
   |isTrue h=>simp_all
   |isFalse h=>exact h
  |succ g=>exact aeL l au.2 g fn al
def aw7:nmOk (bC Tryz.prog.funcs)=ai:=b4
def Uu:tx:=λg fn h=>aeL _ aw7 g fn (by rw[Ku];exact h)
def aei:P.follows .mixedOrders=ai:=b4
def aj5(A:List (Option (List Nat)))(bj:P.funcs[k]?=J fn)(af:fn.body.isSome=ai)
  (aI:lY fn.ntmps (writes (EJ fn))=ai) (bE:Nat.ble (U args) fn.ntmps=ai) (e:W=Rc fn (EJ fn) A args h R) (w:W):bo k args h R:=by
 cases kB:fn.body with
 |none=>grind
 |some c=>
  have AR:EJ fn=c:=by simp[EJ,kB]
  rw[AR] at aI e;exact aj3 Uu aei A bj kB aI bE (e▸w)
noncomputable section
structure PQ(Q:Type) where
 s:(H->K->Prop)->H->(ao->H->Q)->Q
 c:ao->Q->Q->Q
 j:(n:Nat)->(xr Q n->Q)->(Fr->xr Q n)->Q
 l:(n:Nat)->List ao->H->(xr Q n->Fr->xr Q n)->Q
 a:Q->Q->Q
 t:Q
 f:Q
def Yz:PQ Prop:=⟨λc=>c,b1,fD,iL,And,True,False⟩
def X'(v:ao):H->K->Prop:=λh k=>k v h
def anC(v:ao):X' v=λh k=>k v h:=rfl
def X4{v:ao}:ao:=v
def Gf(l:List ao):Array ao:=l.toArray
@[reducible] def et(f:Fr):Operand->ao
 | .tmp t=>f t
 | .const v=>@X4 v
 | .global g=>.pointer (J ⟨g,0,ab⟩)
 | .func k=>.func (.func k) (Gf []) (Gf [])
@[reducible] def HB(f:Fr):Option Operand->Option ao
 |some x=>J (et f x)
 |none=>ab
@[reducible] def xE(f:Fr):List Operand->List ao
 |[]=>[]
 |x::l=>et f x::xE f l
@[reducible] def F1{α:Type}:List α->Nat->Option α
 |[],_=>ab
 |a::l,i=>match i with
  |0=>J a
  |n+1=>F1 l n
@[reducible] def awm{α:Type}:List α->Nat
 |[]=>0
 |_::l=>(awm l).succ
@[reducible] def Dp(i:Nat):List Nat->Bool
 |[]=>av
 |a::l=>match Nat.beq i a with
  |true=>ai
  |false=>Dp i l
def aqa(t:Nat):List (Nat×Nat):=match P.underlying t with
 |J (.struct mU)=>mU.toList.map λf=>(f.offset,f.type)
 |_=>[]
def agE(n a:Nat):List (Nat×Nat×Ez×List (Nat×Nat)):=match n with
 |0=>[]
 |n+1=>(szT a,lr a,tg a,aqa a)::agE n (a+1)
def agF(n a:Nat):List (List (Nat×Nat×Ez×List (Nat×Nat))):=match n with
 |0=>[]
 |n+1=>agE 17 a::agF n (a+17)
@[reducible] def aw5{α:Type}(a:α){b:α}(_:a=b:=by conv=>{lhs;reduce}):α:=b
@[reducible] def az9:List (List (Nat×Nat×Ez×List (Nat×Nat))):=aw5 (agF 17 0)
@[reducible] def OM(t:Nat):Option (Nat×Nat×Ez×List (Nat×Nat)):=match F1 az9 (Nat.div t 17) with
 |some l=>F1 l (Nat.mod t 17)
 |none=>ab
@[reducible] def rX(t:Nat):Nat:=match OM t with|some i=>i.1|none=>0
@[reducible] def Za(t:Nat):Nat:=match OM t with|some i=>i.2.1|none=>0
@[reducible] def rZ(t:Nat):Ez:=match OM t with|some i=>i.2.2.1|none=>.bad
@[reducible] def P4(t:Nat):Bool:=match rZ t with| .arr _ _| .DL=>ai|_=>av
@[reducible] def Q_(t i:Nat):Nat×Nat:=match OM t with
 |some x=>match F1 x.2.2.2 i with|some y=>y|none=>(0,0)
 |none=>(0,0)
@[reducible] def ae7(s:Nat)(f:Fr):List (Nat×Operand)->List (Nat×Nat×ao)
 |[]=>[]
 |(i,x)::r=>match Q_ s i with
  |(o,t)=>(o,rX t,et f x)::ae7 s f r
@[reducible] def US(sz:Nat)(f:Fr):List (Nat×Operand)->List (Nat×Nat×ao)
 |[]=>[]
 |(i,x)::r=>(i*sz,sz,et f x)::US sz f r
@[reducible] def L1(f:Fr)(o:Option Nat)(v:ao):Fr:=match o with
 |some d=>λi=>match Nat.beq i d with
  |true=>v
  |false=>f i
 |none=>f
@[reducible] def adZ(i:Nat):List Nat->List ao->ao->ao
 |[],_,d=>d
 |a::l,vs,d=>match vs with
  |[]=>d
  |v::vs=>match Nat.beq i a with
   |true=>v
   |false=>adZ i l vs d
@[reducible] def NU(f d:Fr)(L:List Nat)(vs:List ao):Fr:=λi=>match Dp i L with
 |true=>adZ i L vs (d i)
 |false=>f i
@[reducible] def Cq{Q:Type}:(n:Nat)->xr Q n->List ao->H->Q
 |0,b7,_=>b7
 |n+1,b7,l=>match l with
  |v::vs=>Cq n (b7 v) vs
  |[]=>Cq n (b7 undef) []
@[reducible] def I6{Q:Type}:(n:Nat)->(List ao->H->Q)->xr Q n
 |0,F=>F []
 |n+1,F=>λv=>I6 n λvs=>F (v::vs)
@[reducible] def DH(f:Fr):List Nat->List ao
 |[]=>[]
 |d::l=>f d::DH f l
@[reducible] def ag5(f:Fr):Op->Option ao
 | .move x| .assign x=>J (et f x)
 | .makeInterface t x=>J (.iface t (et f x))
 | .makeFunc fn a b=>J (.func fn (Gf (xE f a.toList)) (Gf (xE f b.toList)))
 |_=>ab
@[reducible] def aaB(ops:List Oper)(f:Fr)(g:Nat):ao:=match F1 ops g with
 |some o=>match o.dst with
  |some d=>f d
  |none=>undef
 |none=>undef
@[reducible] def Y7(e:Edge):Bool:=match e.ground with
 | .textOnly _=>av
 | .gcOnly _=>av
 |_=>ai
@[reducible] def adF:Op->PJ
 | .move _| .assign _| .pick .. | .nilCheck _| .binOp .. | .unOp .. | .makeFunc .. | .slice .. | .fieldAddr .. | .field .. | .indexAddr .. | .index .. | .extract .. | .build .. | .makeInterface .. | .typeAssert .. =>.pu
 | .convert s d _=>match rZ s,rZ d with
  | .hR _,.str=>.gj
  | .int _,_=>.pu
  |_,_=>.nZ
 | .load .. =>.gj
 | .call c=>match c.callee with
  | .builtin b=>match b with
   | .len| .cap| .min| .max=>.pu
   |_=>.nZ
  |_=>.nZ
 |_=>.nZ
@[reducible] def N1(d:List Nat):List Edge->Bool
 |[]=>ai
 |e::r=>match Y7 e with
  |true=>match Dp e.on d with
   |true=>N1 d r
   |false=>av
  |false=>N1 d r
@[reducible] def TG:Nat->List Oper->List (Nat×Oper)
 |_,[]=>[]
 |i,o::r=>(i,o)::TG i.succ r
@[reducible] def L3(d:List Nat):List (Nat×Oper)->Option (Nat×Oper)
 |[]=>ab
 |x::r=>match adF x.2.op with
  | .nZ=>L3 d r
  |_=>match Dp x.1 d with
   |true=>L3 d r
   |false=>match N1 d x.2.after.toList with
    |true=>J x
    |false=>L3 d r
@[reducible] def Of(d:List Nat):List (Nat×Oper)->List (Nat×Oper)
 |[]=>[]
 |x::r=>match Dp x.1 d with
  |true=>Of d r
  |false=>match N1 d x.2.after.toList with
   |true=>x::Of d r
   |false=>Of d r
@[reducible] def aoq{α:Type}:List α->List α->List α
 |[],m=>m
 |a::l,m=>a::aoq l m
@[reducible] def Lo(F:Nat->Bool)(j:Nat):List Edge->Bool
 |[]=>av
 |e::r=>match Y7 e with
  |true=>match Nat.beq e.on j with
   |true=>ai
   |false=>match Nat.ble j e.on with
    |true=>match F e.on with
     |true=>ai
     |false=>Lo F j r
    |false=>Lo F j r
  |false=>Lo F j r
@[reducible] def Vb(ops:List Oper):Nat->Nat->Nat->Bool
 |0,_,_=>av
 |n+1,i,j=>match F1 ops i with
  |some o=>Lo (λi=>Vb ops n i j) j o.after.toList
  |none=>av
@[reducible] def Qw(ops:List Oper)(j:Nat):vR->List (ao×Nat)
 |[]=>[]
 |(i,x)::r=>match Vb ops 99 i j,Vb ops 99 j i,x with
  |av,av,J e=>e::Qw ops j r
  |_,_,_=>Qw ops j r
@[reducible] def azO(t:Nat):Nat:=match rX t with|0=>1|n+1=>n.succ
@[reducible] def YJ(f:Fr)(i:Nat)(o:Op)(wl:vR):vR:=match o with
 | .load t p=>(i,J (et f p,azO t))::wl
 |_=>wl
@[reducible] def aoU(E:List (ao×Nat))(f:Fr)(c:Callee)(A:List Operand)(T:List Nat):H->K->Prop:=match c with
 | .builtin b=>match b,A,T with
  | .len,x::_,t::_=>match rZ t with
   | .str=>Pu (q3 (et f x))
   |_=>Pu (fb (et f x))
  | .cap,x::_,_=>Pu (oM (et f x))
  | .append,[s,x],t::_=>match rZ t with
   | .hR e=>match E with
    |[]=>Ap e (rX e) (Za e) (Z e) (et f s) (et f x)
    |_::_=>yB e (rX e) (Za e) (Z e) (et f s) (et f x) E
   |_=>uQ
  | .copy,[d,s],t::_=>match rZ t with
   | .hR e=>vK (rX e) (et f d) (et f s)
   |_=>uQ
  | .min,[x,y],_=>Pu (q4 ai (et f x) (et f y))
  | .max,[x,y],_=>Pu (q4 av (et f x) (et f y))
  |_,_,_=>uQ
 | .value x=>match x with
  | .func g=>match Dp g [57,124,162] with
   |true=>z6 g (xE f A)
   |false=>match E with
    |[]=>bD g (xE f A)
    |_::_=>match Nat.beq g 29 with
     |true=>GS g (xE f A) E
     |false=>vJ g (xE f A)
  |x=>Cv (et f x) (xE f A)
 | .invoke x name=>match E with
  |[]=>Ci (et f x) name (xE f A)
  |_::_=>GR (et f x) name (xE f A)
@[reducible] def Z6(ea:Bool)(t:Nat)(u v:ao):Option ao:=match rZ t with
 | .Hp=>beB ea u v
 | .ptr=>beP ea u v
 | .rN=>beI ea u v
 |_=>match ea with
  |true=>bn .neq u v
  |false=>bn .eql u v
@[reducible] def aeZ(E:List (ao×Nat))(f:Fr)(o:Op):H->K->Prop:=match o with
 | .pick c a b=>Pu (pk (et f c) (et f a) (et f b))
 | .alloc t=>oG t (Z t)
 | .box t x=>lh t (et f x)
 | .build t c9=>match rZ t with
  | .DL=>Bd (Z t) (ae7 t f c9.toList)
  | .arr _ e=>Bd (Z t) (US (rX e) f c9.toList)
  |_=>uQ
 | .buildSlice t n c9=>match rZ t with
  | .hR e=>ew e n (Z e) (US (rX e) f c9.toList)
  |_=>uQ
 | .load t p=>match P4 t with
  |true=>cO (rX t) (et f p)
  |false=>cd (et f p)
 | .store t p v=>match E with
  |[]=>bZ (rX t) (et f p) (et f v)
  |_::_=>PV (rX t) (et f p) (et f v) E
 | .nilCheck x=>Pu (nc (et f x))
 | .binOp op t x y _=>match op with
  | .eql=>Pu (Z6 av t (et f x) (et f y))
  | .neq=>Pu (Z6 ai t (et f x) (et f y))
  |op=>Pu (bn op (et f x) (et f y))
 | .unOp op _ x=>Pu (un op (et f x))
 | .convert s d x=>match rZ s,rZ d with
  | .int _,.int j=>Pu (ci j (et f x))
  | .int _,.sm j=>Pu (yT j (et f x))
  | .int _,.str=>Pu (Au (et f x))
  | .hR _,.str=>Cbs (et f x)
  | .str,.hR e=>KU e (et f x)
  |_,_=>uQ
 | .makeMap _ r=>match r with
  |none=>G3
  |some x=>K6 (et f x)
 | .makeSlice t l c=>match rZ t with
  | .hR e=>Ms e (rX e) (Z e) (et f l) (et f c)
  |_=>uQ
 | .slice t x br az k9=>match rZ t with
  | .hR e=>Pu (sl (rX e) (et f x) (HB f br) (HB f az) (HB f k9))
  |_=>Pu (sls (et f x) (HB f br) (HB f az))
 | .fieldAddr s x i=>match Q_ s i with
  |(o,_)=>Pu (fd o (et f x))
 | .field s x i=>match Q_ s i with
  |(o,t)=>match P4 t with
   |true=>Pu (fv o (rX t) (et f x))
   |false=>Pu (fv o 0 (et f x))
 | .indexAddr t x i=>match rZ t with
  | .hR e=>Pu (ia (rX e) (et f x) (et f i))
  | .arr n e=>Pu (iar n (rX e) (et f x) (et f i))
  |_=>uQ
 | .index t x i=>match rZ t with
  | .str=>Pu (ixs (et f x) (et f i))
  | .arr n _=>Pu (ixa n (et f x) (et f i))
  |_=>uQ
 | .lookup t m x _=>match rZ t with
  | .map _ e=>Ml (pe e) (et f m) (et f x)
  |_=>uQ
 | .mapUpdate _ m x v=>Mu (et f m) (et f x) (et f v)
 | .range _ x=>Rg (et f x)
 | .next it _=>Nx (et f it)
 | .entry it=>En (et f it)
 | .typeAssert x _ t _=>Pu (ta t (pe t) (et f x))
 | .extract x i=>Pu (exv i (et f x))
 | .call c=>aoU E f c.callee c.args.toList c.argTypes.toList
 |_=>uQ
variable{Q:Type}(X:PQ Q)
@[reducible] def Ot(E:List (ao×Nat))(ops:List Oper)(o:Oper)(k:Fr->H->Q)(f:Fr)(h:H):Q:=
 match o.guard with
 |none=>match ag5 f o.op with
  |some v=>k (L1 f o.dst v) h
  |none=>X.s (aeZ E f o.op) h λv h=>k (L1 f o.dst v) h
 |J (g,b)=>match ag5 f o.op with
  |some v=>X.s (a0 (aaB ops f g) b (X' v)) h λv h=>k (L1 f o.dst v) h
  |none=>X.s (a0 (aaB ops f g) b (aeZ E f o.op)) h λv h=>k (L1 f o.dst v) h
@[reducible] def afq(ops:List Oper):List Oper->(Fr->H->Q)->Fr->H->Q
 |[],k,f,h=>k f h
 |o::r,k,f,h=>Ot X [] ops o (afq ops r k) f h
@[reducible] def YH(F:Nat×Oper->Q):List (Nat×Oper)->Q
 |[]=>X.t
 |i::r=>match r with
  |[]=>F i
  |_::_=>X.a (F i) (YH F r)
@[reducible] def ES(ops:List Oper):Nat->List (Nat×Oper)->List Nat->vR->(Fr->H->Q)->Fr->H->Q
 |0,_,_,_,k,f,h=>k f h
 |n+1,l,d,wl,k,f,h=>match l with
  |[]=>k f h
  |x::r=>match Dp x.1 d with
   |true=>ES ops n r d wl k f h
   |false=>match adF x.2.op with
    | .nZ=>match L3 d r with
     |some y=>Ot X [] ops y.2 (ES ops n l (y.1::d) (YJ f y.1 y.2.op wl) k) f h
     |none=>YH X (λy=>Ot X (Qw ops y.1 wl) ops y.2 (ES ops n l (y.1::d) wl k) f h) (Of d l)
    |_=>Ot X [] ops x.2 (ES ops n r (x.1::d) (YJ f x.1 x.2.op wl) k) f h
structure ann(Q:Type) where
 n:Fr->H->Q
 x:Nat->Fr->H->Q
 r:Fr->H->Q
abbrev yA:=List (Nat×Nat×List Nat)
@[reducible] def MO:yA->Option (Nat×List Nat)
 |(n,x)::_=>match n with
  |0=>J x
  |_+1=>ab
 |[]=>ab
@[reducible] def yp:yA->yA
 |(n,L)::r=>match n with
  |0=>r
  |m+1=>(m,L)::r
 |[]=>[]
@[reducible] def BD:Code->yA->yA
 | .region _ _ d,A=>match d with
  |true=>yp A
  |false=>A
 | .seq a b,A=>BD b (BD a (yp A))
 | .cond _ a b,A=>BD b (BD a A)
 | .block _ c,A| .loop c,A=>BD c (yp A)
 |_,A=>A
@[reducible] def YL:List ao->Fr
 |[],_=>undef
 |v::l,i=>match i with
  |0=>v
  |n+1=>YL l n
@[reducible] def xA:Code->yA->ann Q->Fr->H->Q
 | .skip,_,k,f,h=>k.n f h
 | .region _ ops d,A,k,f,h=>match d with
  |false=>afq X ops.toList ops.toList k.n f h
  |true=>match MO A with
   |J (m,L)=>X.j m (λb7=>ES X ops.toList 999 (TG 0 ops.toList) [] [] (λbm h'=>Cq m b7 (DH bm L) h') f h)
    (λd=>I6 m λvs h'=>k.n (NU f d L vs) h')
   |none=>ES X ops.toList 999 (TG 0 ops.toList) [] [] k.n f h
 | .seq a b,A,k,f,h=>match MO A with
  |J (m,L)=>X.j m (λb7=>xA a (yp A) ⟨λbm h'=>Cq m b7 (DH bm L) h',k.x,k.r⟩ f h)
   (λd=>I6 m λvs h'=>xA b (BD a (yp A)) k (NU f d L vs) h')
  |none=>xA a (yp A) ⟨λbm h'=>xA b (BD a (yp A)) k bm h',k.x,k.r⟩ f h
 | .cond c a b,A,k,f,h=>X.c (et f c) (xA a A k f h) (xA b (BD a A) k f h)
 | .block id c,A,k,f,h=>match MO A with
  |J (m,L)=>X.j m (λb7=>xA c (yp A) ⟨λbm h'=>Cq m b7 (DH bm L) h',λj bm h'=>match Nat.beq j id with|true=>Cq m b7 (DH bm L) h'|false=>k.x j bm h',k.r⟩ f h)
   (λd=>I6 m λvs h'=>k.n (NU f d L vs) h')
  |none=>xA c (yp A) ⟨k.n,λj bm h'=>match Nat.beq j id with|true=>k.n bm h'|false=>k.x j bm h',k.r⟩ f h
 | .loop c,A,k,f,h=>match MO A with
  |J (m,L)=>X.l m (DH f L) h λb7 d=>I6 m λvs h'=>xA c (yp A) ⟨λbm cN=>Cq m b7 (DH bm L) cN,k.x,k.r⟩ (NU f d L vs) h'
  |none=>X.f
 | .exit id,_,k,f,h=>k.x id f h
 | .ret,_,k,f,h=>k.r f h
 |_,_,_,_,_=>X.f
@[reducible] def Oi:List ResultVar->Fr->H->(List ao->Q)->Q
 |[],_,_,k=>k []
 | .tmp t::rs,f,h,k=>Oi rs f h λvs=>k (f t::vs)
 | .cell a t::rs,f,h,k=>match P4 t with
  |true=>X.s (cO (rX t) (f a)) h λv _=>Oi rs f h λvs=>k (v::vs)
  |false=>X.s (cd (f a)) h λv _=>Oi rs f h λvs=>k (v::vs)
@[reducible] def afx(rs:List ResultVar)(R:ao->H->Q)(f:Fr)(h:H):Q:=
 Oi X rs f h λvs=>match vs with
  |[v]=>R v h
  |vs=>R (.tuple (Gf vs)) h
@[reducible] def apZ(rs:List ResultVar)(c:Code)(A:yA)(args:List ao)(h:H)(R:ao->H->Q):Q:=
 xA X c A ⟨afx X rs R,λ_ _ _=>X.f,afx X rs R⟩ (YL args) h
@[reducible] def aoI:Option Code->Code
 |some c=>c
 |none=>.skip
def ahf:yA->List (Option (List Nat))
 |[]=>[]
 |(n,_,L)::r=>List.replicate n ab++J L::ahf r
def bT(k:Nat)(l:List ao)(h:H)(R:K){fn:Func}(bj:P.funcs[k]?=J fn)(A:yA){W:Prop}(w:W){g:Func}(_:fn=g:=by conv=>{lhs;whnf}){V:(Q:Type)->PQ Q->(ao->H->Q)->Q}(_:(λQ X R=>apZ X g.results.toList (aoI g.body) A l h R)=V:=by with_reducible (conv=>{lhs;reduce}))(_:V Prop Yz R=W:=by dsimp only[Yz,anC,X4,Gf,Nat.reduceMul,List.append])(e:W=Rc fn (EJ fn) (ahf A) l h R:=by (kernel_rfl))(af:fn.body.isSome=ai:=by (kernel_rfl))(aI:lY fn.ntmps (writes (EJ fn))=ai:=by (kernel_rfl))(bE:Nat.ble l.length fn.ntmps=ai:=by (kernel_rfl)):bo k l h R:=aj5 _ bj af aI bE e w
abbrev al1{a h R}w:=bT 3 [a] h R Tryz.func3 [] w
abbrev amc{a h R}w:=bT 4 [a] h R Tryz.func4 [] w
abbrev XR{h R}w:=bT 5 [] h R Tryz.func5 [] w
abbrev sb{a h R}w:=bT 6 [a] h R Tryz.func6 [(10,0,[]),(1,1,[6]),(4,1,[6]),(2,1,[30])] w
abbrev amF{a h R}w:=bT 7 [a] h R Tryz.func7 [(4,0,[])] w
abbrev amQ{a b h R}w:=bT 8 [a,b] h R Tryz.func8 [(7,1,[54]),(11,1,[72])] w
abbrev amZ{a h R}w:=bT 9 [a] h R Tryz.func9 [(2,1,[3]),(3,1,[21])] w
abbrev akd{a h R}w:=bT 10 [a] h R Tryz.func10 [(3,1,[0]),(7,1,[0]),(6,1,[0])] w
abbrev ako{a b h R}w:=bT 11 [a,b] h R Tryz.func11 [] w
abbrev akx{a h R}w:=bT 12 [a] h R Tryz.func12 [] w
abbrev akH{a h R}w:=bT 13 [a] h R Tryz.func13 [(1,0,[])] w
abbrev akR{a b h R}w:=bT 14 [a,b] h R Tryz.func14 [] w
abbrev ak2{a h R}w:=bT 15 [a] h R Tryz.func15 [] w
abbrev ald{a b h R}w:=bT 16 [a,b] h R Tryz.func16 [(3,0,[]),(3,0,[]),(5,0,[]),(9,1,[9])] w
abbrev aln{a b h R}w:=bT 17 [a,b] h R Tryz.func17 [(14,2,[1,40])] w
abbrev XN{a h R}w:=bT 18 [a] h R Tryz.func18 [(3,0,[])] w
abbrev alE{a h R}w:=bT 19 [a] h R Tryz.func19 [(10,1,[28]),(11,1,[47]),(8,1,[9])] w
abbrev alN{a h R}w:=bT 20 [a] h R Tryz.func20 [] w
abbrev alS{a b h R}w:=bT 21 [a,b] h R Tryz.func21 [(0,0,[])] w
abbrev alU{a h R}w:=bT 22 [a] h R Tryz.func22 [] w
abbrev KY{a h R}w:=bT 23 [a] h R Tryz.func23 [(49,1,[220]),(13,1,[239]),(14,2,[21,22])] w
abbrev alW{a h R}w:=bT 24 [a] h R Tryz.func24 [] w
abbrev alX{a h R}w:=bT 25 [a] h R Tryz.func25 [(4,1,[3])] w
abbrev alY{a b c h R}w:=bT 26 [a,b,c] h R Tryz.func26 [(4,2,[1,12]),(6,1,[9])] w
abbrev alZ{a b h R}w:=bT 27 [a,b] h R Tryz.func27 [(4,1,[12])] w
abbrev al0{a b c h R}w:=bT 28 [a,b,c] h R Tryz.func28 [] w
abbrev PB{a h R}w:=bT 29 [a] h R Tryz.func29 [(4,1,[10]),(13,0,[]),(12,1,[5]),(4,0,[])] w
abbrev al2{a b h R}w:=bT 30 [a,b] h R Tryz.func30 [] w
abbrev al3{a h R}w:=bT 31 [a] h R Tryz.func31 [] w
abbrev al4{a b c h R}w:=bT 32 [a,b,c] h R Tryz.func32 [(3,1,[2])] w
abbrev al5{a b c h R}w:=bT 33 [a,b,c] h R Tryz.func33 [] w
abbrev al6{a h R}w:=bT 34 [a] h R Tryz.func34 [] w
abbrev al7{a h R}w:=bT 35 [a] h R Tryz.func35 [] w
abbrev al8{a b c h R}w:=bT 36 [a,b,c] h R Tryz.func36 [] w
abbrev al9{a b c d h R}w:=bT 37 [a,b,c,d] h R Tryz.func37 [(8,1,[10])] w
abbrev ama{a h R}w:=bT 38 [a] h R Tryz.func38 [(2,2,[0,3])] w
abbrev amb{a b h R}w:=bT 39 [a,b] h R Tryz.func39 [(5,1,[12]),(7,0,[]),(2,1,[8])] w
abbrev amd{a h R}w:=bT 40 [a] h R Tryz.func40 [(11,0,[])] w
abbrev ame{a b h R}w:=bT 41 [a,b] h R Tryz.func41 [(6,1,[5]),(2,1,[5]),(7,1,[7])] w
abbrev amf{a h R}w:=bT 42 [a] h R Tryz.func42 [(5,1,[3])] w
abbrev amg{a h R}w:=bT 43 [a] h R Tryz.func43 [(5,1,[3])] w
abbrev amh{a h R}w:=bT 44 [a] h R Tryz.func44 [(5,0,[])] w
abbrev ami{a h R}w:=bT 45 [a] h R Tryz.func45 [(11,0,[])] w
abbrev amj{a h R}w:=bT 46 [a] h R Tryz.func46 [] w
abbrev amk{a h R}w:=bT 47 [a] h R Tryz.func47 [] w
abbrev aml{a h R}w:=bT 48 [a] h R Tryz.func48 [] w
abbrev amm{a h R}w:=bT 49 [a] h R Tryz.func49 [] w
abbrev amn{a h R}w:=bT 50 [a] h R Tryz.func50 [(3,1,[0])] w
abbrev amo{a b c h R}w:=bT 51 [a,b,c] h R Tryz.func51 [] w
abbrev amp{a h R}w:=bT 52 [a] h R Tryz.func52 [] w
abbrev amq{a h R}w:=bT 53 [a] h R Tryz.func53 [(4,0,[])] w
abbrev amr{a b c d h R}w:=bT 54 [a,b,c,d] h R Tryz.func54 [(3,1,[11]),(8,1,[1])] w
abbrev ams{a b c h R}w:=bT 55 [a,b,c] h R Tryz.func55 [] w
abbrev amt{a b c h R}w:=bT 56 [a,b,c] h R Tryz.func56 [(6,0,[])] w
abbrev amu{a b h R}w:=bT 58 [a,b] h R Tryz.func58 [(5,2,[0,6])] w
abbrev amv{a h R}w:=bT 59 [a] h R Tryz.func59 [(8,0,[])] w
abbrev amw{a h R}w:=bT 60 [a] h R Tryz.func60 [(20,1,[30]),(2,1,[4])] w
abbrev amx{a h R}w:=bT 61 [a] h R Tryz.func61 [] w
abbrev XS{a h R}w:=bT 62 [a] h R Tryz.func62 [(1,0,[])] w
abbrev amy{a h R}w:=bT 63 [a] h R Tryz.func63 [] w
abbrev amz{a h R}w:=bT 64 [a] h R Tryz.func64 [(5,2,[3,7])] w
abbrev amA{a h R}w:=bT 65 [a] h R Tryz.func65 [(16,2,[6,7])] w
abbrev amB{a h R}w:=bT 66 [a] h R Tryz.func66 [(4,1,[20]),(22,1,[15])] w
abbrev amC{a h R}w:=bT 67 [a] h R Tryz.func67 [(20,2,[13,15]),(6,1,[15]),(13,1,[13]),(5,2,[13,15]),(15,2,[26,181])] w
abbrev amD{a h R}w:=bT 68 [a] h R Tryz.func68 [(4,1,[5]),(3,1,[5]),(1,1,[5])] w
abbrev amE{a b c h R}w:=bT 69 [a,b,c] h R Tryz.func69 [] w
abbrev amG{a h R}w:=bT 70 [a] h R Tryz.func70 [] w
abbrev amH{a b h R}w:=bT 71 [a,b] h R Tryz.func71 [] w
abbrev amI{a b h R}w:=bT 72 [a,b] h R Tryz.func72 [(5,4,[4,5,6,7]),(24,1,[76])] w
abbrev amJ{a b c d h R}w:=bT 73 [a,b,c,d] h R Tryz.func73 [(5,1,[17])] w
abbrev amK{a b c d h R}w:=bT 74 [a,b,c,d] h R Tryz.func74 [(6,3,[9,10,11]),(6,1,[12])] w
abbrev amL{a b h R}w:=bT 75 [a,b] h R Tryz.func75 [(5,4,[4,5,6,7]),(33,1,[91])] w
abbrev amM{a b c h R}w:=bT 76 [a,b,c] h R Tryz.func76 [(5,2,[7,13])] w
abbrev amN{a b h R}w:=bT 77 [a,b] h R Tryz.func77 [] w
abbrev amO{a b h R}w:=bT 78 [a,b] h R Tryz.func78 [(5,4,[4,5,6,7])] w
abbrev amP{a b c h R}w:=bT 79 [a,b,c] h R Tryz.func79 [] w
abbrev amR{a b h R}w:=bT 80 [a,b] h R Tryz.func80 [(18,1,[10]),(8,1,[12]),(16,1,[17]),(7,0,[])] w
abbrev amS{a b c d h R}w:=bT 81 [a,b,c,d] h R Tryz.func81 [(3,2,[1,8])] w
abbrev amT{a b h R}w:=bT 82 [a,b] h R Tryz.func82 [] w
abbrev XT{a b c h R}w:=bT 83 [a,b,c] h R Tryz.func83 [] w
abbrev amU{a b h R}w:=bT 84 [a,b] h R Tryz.func84 [(5,3,[4,6,7])] w
abbrev amV{a b h R}w:=bT 85 [a,b] h R Tryz.func85 [(5,2,[5,8])] w
abbrev amW{a h R}w:=bT 86 [a] h R Tryz.func86 [] w
abbrev amX{a h R}w:=bT 87 [a] h R Tryz.func87 [(13,1,[7]),(7,1,[8]),(11,1,[7])] w
abbrev amY{a b h R}w:=bT 88 [a,b] h R Tryz.func88 [(5,2,[6,11])] w
abbrev XU{a b c h R}w:=bT 89 [a,b,c] h R Tryz.func89 [(5,2,[8,13])] w
abbrev am0{a h R}w:=bT 90 [a] h R Tryz.func90 [] w
abbrev am1{a b h R}w:=bT 91 [a,b] h R Tryz.func91 [] w
abbrev am2{a b h R}w:=bT 92 [a,b] h R Tryz.func92 [] w
abbrev XV{a h R}w:=bT 93 [a] h R Tryz.func93 [] w
abbrev am3{a b h R}w:=bT 94 [a,b] h R Tryz.func94 [(4,1,[11]),(7,1,[16])] w
abbrev am4{a b h R}w:=bT 95 [a,b] h R Tryz.func95 [] w
abbrev am5{a b h R}w:=bT 96 [a,b] h R Tryz.func96 [] w
abbrev am6{a b h R}w:=bT 97 [a,b] h R Tryz.func97 [] w
abbrev am7{a b h R}w:=bT 98 [a,b] h R Tryz.func98 [(3,1,[1])] w
abbrev am8{a b c h R}w:=bT 99 [a,b,c] h R Tryz.func99 [(4,2,[1,6])] w
abbrev ake{a b c h R}w:=bT 100 [a,b,c] h R Tryz.func100 [(4,1,[7])] w
abbrev akf{a b c d e h R}w:=bT 101 [a,b,c,d,e] h R Tryz.func101 [] w
abbrev akg{a h R}w:=bT 102 [a] h R Tryz.func102 [] w
abbrev akh{a b h R}w:=bT 103 [a,b] h R Tryz.func103 [(0,0,[]),(10,1,[62]),(9,2,[7,8])] w
abbrev aki{a b h R}w:=bT 104 [a,b] h R Tryz.func104 [] w
abbrev akj{a b h R}w:=bT 105 [a,b] h R Tryz.func105 [] w
abbrev akk{a b c h R}w:=bT 106 [a,b,c] h R Tryz.func106 [(1,0,[])] w
abbrev akl{a b h R}w:=bT 107 [a,b] h R Tryz.func107 [] w
abbrev akm{a b c h R}w:=bT 108 [a,b,c] h R Tryz.func108 [(7,0,[]),(9,0,[])] w
abbrev akn{a h R}w:=bT 109 [a] h R Tryz.func109 [] w
abbrev XI{a h R}w:=bT 110 [a] h R Tryz.func110 [(2,1,[4]),(1,0,[]),(15,1,[7]),(4,2,[7,63])] w
abbrev akp{a h R}w:=bT 111 [a] h R Tryz.func111 [] w
abbrev XJ{a h R}w:=bT 112 [a] h R Tryz.func112 [(1,0,[])] w
abbrev akq{a h R}w:=bT 113 [a] h R Tryz.func113 [] w
abbrev akr{a b c d h R}w:=bT 114 [a,b,c,d] h R Tryz.func114 [(4,1,[9])] w
abbrev aks{a h R}w:=bT 115 [a] h R Tryz.func115 [(8,1,[20])] w
abbrev akt{a h R}w:=bT 116 [a] h R Tryz.func116 [] w
abbrev aku{a h R}w:=bT 117 [a] h R Tryz.func117 [(9,2,[0,6]),(6,1,[7])] w
abbrev akv{a h R}w:=bT 118 [a] h R Tryz.func118 [] w
abbrev akw{a h R}w:=bT 119 [a] h R Tryz.func119 [] w
abbrev aky{a h R}w:=bT 120 [a] h R Tryz.func120 [(30,2,[0,8]),(19,3,[9,10,11]),(2,4,[9,10,11,117])] w
abbrev akz{a b h R}w:=bT 121 [a,b] h R Tryz.func121 [] w
abbrev akA{a h R}w:=bT 122 [a] h R Tryz.func122 [] w
abbrev akB{a h R}w:=bT 123 [a] h R Tryz.func123 [] w
abbrev akC{a b h R}w:=bT 125 [a,b] h R Tryz.func125 [(13,1,[8])] w
abbrev akD{a h R}w:=bT 126 [a] h R Tryz.func126 [(3,1,[0])] w
abbrev akE{a b h R}w:=bT 127 [a,b] h R Tryz.func127 [(9,4,[8,9,10,11]),(9,4,[13,14,15,16]),(22,3,[18,19,20])] w
abbrev akF{a b c h R}w:=bT 128 [a,b,c] h R Tryz.func128 [(4,2,[1,6])] w
abbrev akG{a h R}w:=bT 129 [a] h R Tryz.func129 [(5,2,[4,11]),(8,1,[7])] w
abbrev akI{a h R}w:=bT 130 [a] h R Tryz.func130 [(5,2,[4,10])] w
abbrev akJ{a h R}w:=bT 131 [a] h R Tryz.func131 [(5,2,[4,10])] w
abbrev akK{a h R}w:=bT 132 [a] h R Tryz.func132 [(3,2,[4,5]),(6,1,[6]),(4,2,[4,7])] w
abbrev akL{h R}w:=bT 133 [] h R Tryz.func133 [] w
abbrev akN{a b h R}w:=bT 135 [a,b] h R Tryz.func135 [(4,1,[9])] w
abbrev akO{a b h R}w:=bT 136 [a,b] h R Tryz.func136 [(8,2,[6,7]),(4,1,[9])] w
abbrev akP{a h R}w:=bT 137 [a] h R Tryz.func137 [] w
abbrev XK{a h R}w:=bT 138 [a] h R Tryz.func138 [] w
abbrev akQ{a h R}w:=bT 139 [a] h R Tryz.func139 [] w
abbrev akS{a h R}w:=bT 140 [a] h R Tryz.func140 [] w
abbrev akT{a h R}w:=bT 141 [a] h R Tryz.func141 [(5,2,[4,9])] w
abbrev akU{a b h R}w:=bT 142 [a,b] h R Tryz.func142 [] w
abbrev akV{a h R}w:=bT 143 [a] h R Tryz.func143 [] w
abbrev akW{a b h R}w:=bT 144 [a,b] h R Tryz.func144 [(2,1,[8]),(5,1,[8]),(9,1,[11])] w
abbrev akX{a b h R}w:=bT 145 [a,b] h R Tryz.func145 [(3,1,[8]),(1,1,[8]),(1,1,[8])] w
abbrev akY{a b h R}w:=bT 146 [a,b] h R Tryz.func146 [(2,1,[8]),(5,1,[8]),(9,1,[11])] w
abbrev akZ{a b h R}w:=bT 147 [a,b] h R Tryz.func147 [(3,1,[8]),(1,1,[8]),(1,1,[8])] w
abbrev ak0{a b c h R}w:=bT 148 [a,b,c] h R Tryz.func148 [(4,1,[11])] w
abbrev ak1{a h R}w:=bT 149 [a] h R Tryz.func149 [(2,1,[7]),(7,1,[8]),(17,1,[9]),(29,2,[7,14]),(10,2,[7,14]),(2,1,[7]),(9,0,[])] w
abbrev ak3{a h R}w:=bT 150 [a] h R Tryz.func150 [] w
abbrev ak4{a h R}w:=bT 151 [a] h R Tryz.func151 [(3,2,[7,8]),(1,2,[7,8]),(14,1,[11])] w
abbrev ak5{a h R}w:=bT 152 [a] h R Tryz.func152 [] w
abbrev ak6{a b h R}w:=bT 153 [a,b] h R Tryz.func153 [(1,0,[]),(3,1,[5])] w
abbrev ak7{a b h R}w:=bT 154 [a,b] h R Tryz.func154 [(2,0,[])] w
abbrev ak8{a b c d h R}w:=bT 155 [a,b,c,d] h R Tryz.func155 [] w
abbrev ak9{a b h R}w:=bT 156 [a,b] h R Tryz.func156 [(8,4,[1,10,11,12])] w
abbrev ala{a b h R}w:=bT 157 [a,b] h R Tryz.func157 [(2,1,[7]),(6,4,[1,10,11,12])] w
abbrev alb{a b h R}w:=bT 158 [a,b] h R Tryz.func158 [] w
abbrev alc{a b h R}w:=bT 159 [a,b] h R Tryz.func159 [] w
abbrev ale{h R}w:=bT 160 [] h R Tryz.func160 [] w
abbrev alf{a b h R}w:=bT 161 [a,b] h R Tryz.func161 [(7,1,[5])] w
abbrev alg{a h R}w:=bT 163 [a] h R Tryz.func163 [] w
abbrev alh{a b h R}w:=bT 164 [a,b] h R Tryz.func164 [] w
abbrev ali{a h R}w:=bT 165 [a] h R Tryz.func165 [(4,2,[0,6]),(3,4,[7,8,10,11]),(1,5,[7,8,9,10,11]),(2,4,[7,8,9,10]),(0,4,[7,8,9,10]),(1,2,[9,13]),(9,2,[7,10]),(14,2,[10,11]),(3,1,[11]),(7,2,[11,15])] w
abbrev alj{a h R}w:=bT 166 [a] h R Tryz.func166 [(4,1,[3])] w
abbrev alk{a b c h R}w:=bT 167 [a,b,c] h R Tryz.func167 [] w
abbrev XL{a b h R}w:=bT 168 [a,b] h R Tryz.func168 [(12,1,[7]),(7,1,[7]),(8,1,[7]),(9,2,[7,11]),(6,1,[7])] w
abbrev alm{a h R}w:=bT 169 [a] h R Tryz.func169 [] w
abbrev alo{a b c d h R}w:=bT 170 [a,b,c,d] h R Tryz.func170 [(2,1,[12]),(6,2,[3,14]),(2,2,[3,14]),(6,1,[16]),(23,1,[18]),(3,1,[18]),(6,1,[18]),(1,1,[18])] w
abbrev alp{a b c h R}w:=bT 171 [a,b,c] h R Tryz.func171 [(2,1,[10]),(6,2,[2,12])] w
abbrev alq{a h R}w:=bT 172 [a] h R Tryz.func172 [] w
abbrev alr{a h R}w:=bT 173 [a] h R Tryz.func173 [] w
abbrev als{a h R}w:=bT 174 [a] h R Tryz.func174 [] w
abbrev alu{a h R}w:=bT 175 [a] h R Tryz.func175 [] w
abbrev alv{a b c h R}w:=bT 176 [a,b,c] h R Tryz.func176 [(3,1,[1])] w
abbrev alw{a h R}w:=bT 177 [a] h R Tryz.func177 [] w
abbrev alx{a b h R}w:=bT 178 [a,b] h R Tryz.func178 [(4,1,[10]),(7,1,[7])] w
abbrev XM{a b c d h R}w:=bT 179 [a,b,c,d] h R Tryz.func179 [] w
abbrev aly{a b h R}w:=bT 180 [a,b] h R Tryz.func180 [] w
abbrev XO{a b c d h R}w:=bT 181 [a,b,c,d] h R Tryz.func181 [] w
abbrev alz{a b h R}w:=bT 182 [a,b] h R Tryz.func182 [] w
abbrev alA{a h R}w:=bT 183 [a] h R Tryz.func183 [] w
abbrev alB{a h R}w:=bT 184 [a] h R Tryz.func184 [(3,0,[])] w
abbrev XP{a b h R}w:=bT 186 [a,b] h R Tryz.func186 [(2,1,[1]),(6,1,[1])] w
abbrev alC{a b h R}w:=bT 188 [a,b] h R Tryz.func188 [(4,2,[4,5]),(13,3,[4,5,6])] w
abbrev alD{a b h R}w:=bT 189 [a,b] h R Tryz.func189 [(5,3,[4,5,6]),(4,1,[4]),(7,2,[7,8])] w
abbrev alF{a h R}w:=bT 190 [a] h R Tryz.func190 [(5,2,[3,4])] w
abbrev alG{a b h R}w:=bT 191 [a,b] h R Tryz.func191 [(2,1,[1]),(15,1,[5])] w
abbrev alH{a b c h R}w:=bT 192 [a,b,c] h R Tryz.func192 [] w
abbrev alI{a b h R}w:=bT 193 [a,b] h R Tryz.func193 [(3,1,[1])] w
abbrev alJ{a b h R}w:=bT 194 [a,b] h R Tryz.func194 [(3,3,[1,7,8]),(5,1,[7])] w
abbrev alK{a b c h R}w:=bT 195 [a,b,c] h R Tryz.func195 [] w
abbrev alL{a b h R}w:=bT 197 [a,b] h R Tryz.func197 [] w
abbrev XQ{a b h R}w:=bT 198 [a,b] h R Tryz.func198 [] w
abbrev alM{a b c d h R}w:=bT 199 [a,b,c,d] h R Tryz.func199 [(8,2,[11,12]),(6,1,[14])] w
abbrev alO{a b h R}w:=bT 200 [a,b] h R Tryz.func200 [] w
abbrev alP{a b h R}w:=bT 201 [a,b] h R Tryz.func201 [] w
abbrev alQ{a b h R}w:=bT 202 [a,b] h R Tryz.func202 [] w
abbrev alR{a b h R}w:=bT 203 [a,b] h R Tryz.func203 [(5,1,[25])] w
abbrev alT{a h R}w:=bT 219 [a] h R Tryz.func219 [] w
abbrev alV{a h R}w:=bT 227 [a] h R Tryz.func227 [] w
end
