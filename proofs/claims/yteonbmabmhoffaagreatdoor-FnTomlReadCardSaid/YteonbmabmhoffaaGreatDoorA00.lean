/- A part of the proof of FnTomlReadCardSaid: for every string the law FnTomlRead returns true. Conditions: those of the given row and card, no others. -/
import Derived.Orders
import Derived.Attr
import Derived.Laws.Entries
import Derived.KernelRfl
import Derived.Laws.Tables
import Derived.Laws.BytesString
open Option renaming some->J,none->ab
open Bool renaming true->ai,false->av
open Go renaming Value->ao
open Go.Obj renaming cells->aO
open Go.Value renaming bool->aQ,slice->a5,int->ba,tuple->bA,pointer->bU,agg->cA,float->cU,nilIface->cR,iface->cW,string->fo
open Or renaming inr->bt
open Go.BinOp renaming eql->cQ,neq->hF
open List renaming length->U,toArray->aZ
open Array renaming size->ag,toList->bC,push->a6,setIfInBounds->dy
namespace Go.Proofs.YteonbmabmhoffaaGreatDoor.F
set_option linter.all false
set_option autoImplicit true
set_option relaxedAutoImplicit true
set_option maxRecDepth 100000
set_option maxHeartbeats 4000000
abbrev aBD:=@Array.ext_getElem?
abbrev Wi:=@Array.extract_size
abbrev aG7:=@Array.getElem?_eq_getElem
abbrev ahp:=@Array.getElem?_eq_none
abbrev cm:=@Array.getElem?_eq_some_iff
abbrev aBE:=@Array.getElem?_push
abbrev D3:=@Array.getElem?_setIfInBounds
abbrev Ku:=@Array.getElem?_toList
abbrev Kv:=@Array.length_toList
abbrev ahq:=@Array.mem_toList_iff
abbrev OV:=@Array.toArray_toList
abbrev aBF:=@Array.toList_extract
abbrev BT:=@Array.toList_setIfInBounds
abbrev Wj:=@Bool.and_assoc
abbrev pf:=@Bool.and_eq_true
abbrev uL:=@Bool.false_eq_true
abbrev aBG:=@Bool.not_false
abbrev OW:=@Bool.or_true
abbrev Wk:=@Bool.true_or
abbrev Kw:=@Classical.byContradiction
abbrev OX:=@Classical.not_not
abbrev aG8:=@Decidable.byContradiction
abbrev OY:=@Decidable.not_not
abbrev BU:=@Decidable.of_not_not
abbrev aBI:=@Int.natAbs_natCast
abbrev Wl:=@Int.one_mul
abbrev pU:=@Int.toNat_natCast
abbrev OZ:=@Int.zero_add
abbrev ahs:=@List.all_cons
abbrev Wm:=@List.append_assoc
abbrev aht:=@List.append_nil
abbrev Wn:=@List.cons.injEq
abbrev uM:=@List.cons_append
abbrev aBK:=@List.dropLast_concat_getLast
abbrev Kx:=@List.drop_append
abbrev aBL:=@List.drop_append_of_le_length
abbrev tI:=@List.drop_drop
abbrev tJ:=@List.drop_eq_getElem_cons
abbrev iu:=@List.drop_eq_nil_of_le
abbrev ahu:=@List.drop_left
abbrev Wo:=@List.drop_length
abbrev BV:=@List.drop_of_length_le
abbrev BW:=@List.drop_take
abbrev Ky:=@List.drop_zero
abbrev vF:=@List.eq_nil_of_length_eq_zero
abbrev Kz:=@List.ext_getElem?
abbrev yu:=@List.flatMap_cons
abbrev ahv:=@List.foldl_append
abbrev aBM:=@List.foldl_cons
abbrev iw:=@List.getD_eq_getElem?_getD
abbrev pV:=@List.getElem?_append_left
abbrev pg:=@List.getElem?_append_right
abbrev uN:=@List.getElem?_cons_succ
abbrev rq:=@List.getElem?_cons_zero
abbrev KA:=@List.getElem?_drop
abbrev h5:=@List.getElem?_eq_getElem
abbrev Wp:=@List.getElem?_eq_none
abbrev fk:=@List.getElem?_eq_some_iff
abbrev D4:=@List.getElem?_map
abbrev KB:=@List.getElem?_set
abbrev Wq:=@List.getElem?_set_ne
abbrev D5:=@List.getElem?_set_self
abbrev D6:=@List.getElem?_take
abbrev O0:=@List.getElem?_toArray
abbrev zW:=@List.getElem_mem
abbrev aBN:=@List.getElem_of_mem
abbrev aBO:=@List.getElem_take
abbrev r8:=@List.length_append
abbrev nS:=@List.length_cons
abbrev ix:=@List.length_drop
abbrev ahw:=@List.length_dropLast
abbrev oE:=@List.length_map
abbrev tK:=@List.length_nil
abbrev lJ:=@List.length_pos_iff
abbrev Gz:=@List.length_set
abbrev O1:=@List.length_singleton
abbrev yv:=@List.length_take
abbrev rr:=@List.map_append
abbrev yw:=@List.map_congr_left
abbrev kp:=@List.map_cons
abbrev ahx:=@List.map_drop
abbrev ru:=@List.map_nil
abbrev Wr:=@List.map_take
abbrev BX:=@List.map_toArray
abbrev zX:=@List.mem_append
abbrev r9:=@List.mem_cons
abbrev xf:=@List.mem_cons_of_mem
abbrev uO:=@List.mem_cons_self
abbrev KC:=@List.mem_iff_getElem
abbrev qD:=@List.mem_of_getElem?
abbrev aBP:=@List.mem_of_mem_drop
abbrev ahy:=@List.mem_of_mem_take
abbrev ahz:=@List.mem_or_eq_of_mem_set
abbrev aBQ:=@List.mem_range
abbrev O2:=@List.mem_singleton
abbrev sS:=@List.nil_append
abbrev aBR:=@List.nodup_range
abbrev ahA:=@List.pairwise_append
abbrev O3:=@List.pairwise_cons
abbrev aBS:=@List.pairwise_iff_getElem
abbrev aBT:=@List.pairwise_map
abbrev ahB:=@List.replicate_succ
abbrev aBU:=@List.set_append_right
abbrev ahC:=@List.set_cons_succ
abbrev aBV:=@List.set_cons_zero
abbrev D7:=@List.size_toArray
abbrev Ws:=@List.take_add_one
abbrev aBW:=@List.take_append
abbrev O4:=@List.take_append_drop
abbrev ahD:=@List.take_append_of_le_length
abbrev GA:=@List.take_drop
abbrev O5:=@List.take_length
abbrev xg:=@List.take_of_length_le
abbrev BY:=@List.take_set
abbrev ahE:=@List.take_succ_cons
abbrev Wt:=@List.take_succ_eq_append_getElem
abbrev Wu:=@List.take_take
abbrev Wv:=@List.take_zero
abbrev gL:=@Nat.add_assoc
abbrev zY:=@Nat.add_mul
abbrev aBX:=@Nat.add_mul_div_left
abbrev aG9:=@Nat.add_mul_mod_self_left
abbrev KD:=@Nat.add_sub_cancel
abbrev nm:=@Nat.add_zero
abbrev aHa:=@Nat.and_two_pow_sub_one_eq_mod
abbrev O6:=@Nat.div_add_mod
abbrev O7:=@Nat.div_eq_of_lt
abbrev D8:=@Nat.div_eq_of_lt_le
abbrev ahF:=@Nat.div_le_self
abbrev kR:=@Nat.div_one
abbrev Ww:=@Nat.eq_of_beq_eq_true
abbrev GB:=@Nat.eq_of_mul_eq_mul_right
abbrev zZ:=@Nat.eq_zero_or_pos
abbrev tL:=@Nat.exists_eq_succ_of_ne_zero
abbrev Wx:=@Nat.le_mul_of_pos_left
abbrev vG:=@Nat.le_mul_of_pos_right
abbrev lK:=@Nat.le_of_ble_eq_true
abbrev KE:=@Nat.le_of_lt
abbrev Wy:=@Nat.le_of_mul_le_mul_right
abbrev z0:=@Nat.le_of_not_lt
abbrev bQ:=@Nat.le_refl
abbrev dH:=@Nat.le_trans
abbrev KF:=@Nat.log2_self_le
abbrev KG:=@Nat.lt_log2_self
abbrev nT:=@Nat.lt_of_le_of_lt
abbrev cP:=@Nat.lt_of_lt_of_le
abbrev O8:=@Nat.lt_of_mul_lt_mul_left
abbrev yx:=@Nat.lt_of_mul_lt_mul_right
abbrev jw:=@Nat.lt_or_ge
abbrev yy:=@Nat.min_eq_left
abbrev aBY:=@Nat.min_le_right
abbrev GC:=@Nat.mod_eq_of_lt
abbrev z1:=@Nat.mod_lt
abbrev GD:=@Nat.mod_mod_of_dvd
abbrev GF:=@Nat.mod_mul_right_div_self
abbrev qE:=@Nat.mul_assoc
abbrev xh:=@Nat.mul_comm
abbrev aBZ:=@Nat.mul_eq_zero
abbrev aB0:=@Nat.mul_le_mul
abbrev nU:=@Nat.mul_le_mul_left
abbrev jx:=@Nat.mul_le_mul_right
abbrev aB1:=@Nat.mul_left_comm
abbrev ahG:=@Nat.mul_lt_mul_of_pos_left
abbrev vH:=@Nat.mul_lt_mul_of_pos_right
abbrev nn:=@Nat.mul_one
abbrev iI:=@Nat.mul_pos
abbrev xi:=@Nat.pos_of_ne_zero
abbrev fw:=@Nat.pow_add
abbrev aHb:=@Nat.pow_le_pow_iff_right
abbrev l4:=@Nat.pow_le_pow_right
abbrev aB2:=@Nat.pow_lt_pow_iff_right
abbrev ahH:=@Nat.pow_lt_pow_right
abbrev ob:=@Nat.pow_pos
abbrev ph:=@Nat.pow_succ
abbrev h6:=@Nat.pow_zero
abbrev pW:=@Nat.sub_self
abbrev aB3:=@Nat.two_pow_add_eq_or_of_lt
abbrev pX:=@Nat.two_pow_pos
abbrev aB4:=@Nat.xor_lt_two_pow
abbrev tM:=@Nat.zero_add
abbrev ed:=@Nat.zero_le
abbrev pY:=@Nat.zero_mul
abbrev O9:=@Ne.symm
abbrev GG:=@Option.bind_some
abbrev aB5:=@Option.getD_some
abbrev D9:=@Option.isSome_iff_exists
abbrev yz:=@Option.map_eq_some_iff
abbrev jl:=@Option.map_some
abbrev en:=@Option.some.inj
abbrev dg:=@Option.some.injEq
abbrev hI:=@Prod.mk.injEq
abbrev ahJ:=@UInt8.ofNat_toNat
abbrev oF:=@UInt8.toNat_inj
abbrev mQ:=@congrArg
abbrev ig:=@decide_eq_false
abbrev j7:=@decide_eq_true
abbrev r_:=@decide_eq_true_eq
abbrev ahK:=@decide_true
abbrev e8:=@dif_neg
abbrev gw:=@dif_pos
abbrev lL:=@if_false
abbrev ak:=@if_neg
abbrev aA:=@if_pos
abbrev ei:=@if_true
abbrev KH:=@of_decide_eq_true
abbrev GH:=@true_and
noncomputable section
def I{p:Prop}(h:p:=by (omega)):p:=h
def aE{p:Prop}(h:p:=by (decide)):p:=h
def a1{p:Prop}(h:p:=by (simp)):p:=h
def al{p:Prop}(h:p:=by (grind)):p:=h
def m8{p:Prop}(h:p:=by (simp_all)):p:=h
def b8{p:Prop}(h:p:=by (assumption)):p:=h
def iN{p:Prop}(h:p:=by (ac_rfl)):p:=h
def b4{p:Prop}(h:p:=by (kernel_rfl)):p:=h
noncomputable section
class hz where
 prog:Program
variable[hz]
@[reducible] def P:Program:=hz.prog
abbrev H:=Array Obj
abbrev Fr:=Nat->ao
abbrev K:=ao->H->Prop
def Rf(f:Fr)(d:Nat)(v:ao):Fr:=λi=>cond (Nat.beq i d) v (f i)
def fputO(f:Fr):Option Nat->ao->Fr
 |J d,v=>Rf f d v
 |ab,_=>f
def ev(f:Fr):Operand->ao
 | .tmp t=>f t
 | .const v=>v
 | .global g=>bU (J ⟨g,0,ab⟩)
 | .func k=>.func (.func k) #[] #[]
def E4(f:Fr):Option Operand->Option ao
 |some x=>J (ev f x)
 |none=>ab
def memB(i:Nat):List Nat->Bool
 |[]=>av
 |a::l=>cond (Nat.beq i a) ai (memB i l)
def lk(i:Nat):List Nat->List ao->ao->ao
 |a::l,v::vs,d=>cond (Nat.beq i a) v (lk i l vs d)
 |_,_,d=>d
def mix(S:List Nat)(f d:Fr)(L:List Nat)(vs:List ao):Fr:=λi=>cond (memB i S) (lk i L vs (d i)) (f i)
@[reducible] def xr(Q:Type):Nat->Type
 |0=>H->Q
 |n+1=>ao->xr Q n
abbrev se:=xr Prop
def ap{Q:Type}:(n:Nat)->xr Q n->List ao->H->Q
 |0,b7,_=>b7
 |n+1,b7,v::vs=>ap n (b7 v) vs
 |n+1,b7,[]=>ap n (b7 undef) []
def lam{Q:Type}:(n:Nat)->(List ao->H->Q)->xr Q n
 |0,F=>F []
 |n+1,F=>λv=>lam n λvs=>F (v::vs)
def GY:(n:Nat)->se n->se n->Prop
 |0,b7,fD=>∀h,b7 h->fD h
 |n+1,b7,fD=>∀v,GY n (b7 v) (fD v)
def fD(n:Nat)(X:se n->Prop)(k:Fr->se n):Prop:=∃b7,(∀d,GY n b7 (k d))/\X b7
def ex(n:Nat)(b7:Nat->se n)(m:Nat):se n:=lam n λvs h=>∃ez,ez<m/\ap n (b7 ez) vs h
def iL(n:Nat)(vs:List ao)(h:H)(b:se n->Fr->se n):Prop:=
 ∃b7:Nat->se n,(∃m,ap n (b7 m) vs h)/\∀m d,GY n (b7 m) (b (ex n b7 m) d)
def cellsL:ao->List ao
 | .agg cs=>bC cs
 |v=>[v]
def one:ao->Bool
 | cA _| .tuple _=>av
 |_=>ai
def ones:List ao->Bool
 |[]=>ai
 |v::l=>one v&&ones l
def putL:List ao->Nat->List ao->List ao
 |l,0,[]=>l
 |_::l,0,v::vs=>v::putL l 0 vs
 |[],_,_=>[]
 |a::l,n+1,vs=>a::putL l n vs
def fillL:List ao->List (Nat×Nat×ao)->Option (List ao)
 |z,[]=>J z
 |z,(o,s,v)::r=>match Nat.beq (U (cellsL v)) s&&Nat.ble (o+s) (U z) with
  |true=>fillL (putL z o (cellsL v)) r
  |false=>ab
def repL:Nat->List ao->List ao
 |0,_=>[]
 |n+1,l=>l++repL n l
def nr(op:BinOp)(k:IntKind)(a b:Int):Int:=bits op k a b
def eqV:ao->ao->Option Bool
 | .int j a,.int k b=>if j=k then J (a==b) else ab
 | .string a,.string b=>J (a.toList==b.toList)
 | .float j a,.float k b=>if j=k then J (j.format.order a b==J .eq) else ab
 |_,_=>ab
def beB(ea:Bool):ao->ao->Option ao
 | aQ a,aQ b=>J (aQ (cond ea (!(a==b)) (a==b)))
 |_,_=>ab
def beI(ea:Bool):ao->ao->Option ao
 | cR,cR=>J (aQ (!ea))
 | cR,cW _ _=>J (aQ ea)
 | cW _ _,cR=>J (aQ ea)
 |_,_=>ab
def beP(ea:Bool):ao->ao->Option ao
 | bU ab,bU ab=>J (aQ (!ea))
 | bU ab,bU (J _)=>J (aQ ea)
 | bU (J _),bU ab=>J (aQ ea)
 |_,_=>ab
def bn(op:BinOp)(x y:ao):Option ao:=
 match op with
 | .eql=>(eqV x y).map λb=>.bool b
 | .neq=>(eqV x y).map λb=>.bool !b
 | .add=>match x,y with
  | .int k a,.int k' b=>if k=k' then J (.int k (k.wrap (a+b))) else ab
  | .string a,.string b=>if a.size+b.size<=1099511627776 then J (.string (a++b)) else ab
  | .float k a,.float k' b=>if k=k' then(k.format.add a b).map λr=>.float k r else ab
  |_,_=>ab
 | .sub=>match x,y with
  | .int k a,.int k' b=>if k=k' then J (.int k (k.wrap (a-b))) else ab
  | .float k a,.float k' b=>if k=k' then(k.format.sub a b).map λr=>.float k r else ab
  |_,_=>ab
 | .mul=>match x,y with
  | .int k a,.int k' b=>if k=k' then J (.int k (k.wrap (a*b))) else ab
  | .float k a,.float k' b=>if k=k' then(k.format.mul a b).map λr=>.float k r else ab
  |_,_=>ab
 | .quo=>match x,y with
  | .int k a,.int k' b=>if k=k' then(if b=0 then ab else J (.int k (k.wrap (a.tdiv b)))) else ab
  | .float k a,.float k' b=>if k=k' then(k.format.div a b).map λr=>.float k r else ab
  |_,_=>ab
 | .rem=>match x,y with
  | .int k a,.int k' b=>if k=k' then(if b=0 then ab else J (.int k (a.tmod b))) else ab
  |_,_=>ab
 | .and=>match x,y with
  | .int k a,.int k' b=>if k=k' then J (.int k (nr .and k a b)) else ab
  |_,_=>ab
 | .or=>match x,y with
  | .int k a,.int k' b=>if k=k' then J (.int k (nr .or k a b)) else ab
  |_,_=>ab
 | .xor=>match x,y with
  | .int k a,.int k' b=>if k=k' then J (.int k (nr .xor k a b)) else ab
  |_,_=>ab
 | .andNot=>match x,y with
  | .int k a,.int k' b=>if k=k' then J (.int k (nr .andNot k a b)) else ab
  |_,_=>ab
 | .shl=>match x,y with
  | .int k a,.int _ b=>if b<0 then ab else J (.int k (k.wrap (a*2^(min b.toNat k.bits))))
  |_,_=>ab
 | .shr=>match x,y with
  | .int k a,.int _ b=>if b<0 then ab else J (.int k (a.fdiv (2^(min b.toNat k.bits))))
  |_,_=>ab
 | .lss=>match x,y with
  | .int k a,.int k' b=>if k=k' then J (.bool (a<b)) else ab
  | .string a,.string b=>J (.bool (Op.bytesLess a.toList b.toList))
  | .float k a,.float k' b=>if k=k' then J (.bool (k.format.order a b==J .lt)) else ab
  |_,_=>ab
 | .leq=>match x,y with
  | .int k a,.int k' b=>if k=k' then J (.bool (a<=b)) else ab
  |_,_=>ab
 | .gtr=>match x,y with
  | .int k a,.int k' b=>if k=k' then J (.bool (a>b)) else ab
  | .string a,.string b=>J (.bool !(Op.bytesLess a.toList b.toList||a.toList==b.toList))
  | .float k a,.float k' b=>if k=k' then J (.bool (k.format.order a b==J .gt)) else ab
  |_,_=>ab
 | .geq=>match x,y with
  | .int k a,.int k' b=>if k=k' then J (.bool (a≥b)) else ab
  |_,_=>ab
def un(op:UnOp)(x:ao):Option ao:=
 match op,x with
 | .not,aQ b=>J (aQ !b)
 | .neg,ba k n=>J (ba k (k.wrap (0-n)))
 | .xor,ba k n=>J (ba k (nr .xor k (if k.signed then-1 else k.max) n))
 | .neg,cU k b=>J (cU k (Op.negFloat k b))
 |_,_=>ab
def pk(c a b:ao):Option ao:=
 match c with
 | .bool t=>J (cond t a b)
 |_=>ab
def nc:ao->Option ao
 | bU (J a)=>J (bU (J a))
 | .func (.func k) a b=>J (.func (.func k) a b)
 | .iface t v=>J (cW t v)
 |_=>ab
def fd(off:Nat):ao->Option ao
 | bU (J a)=>J (bU (J (a.add off)))
 |_=>ab
def fv(off s:Nat):ao->Option ao
 | .agg cs=>match s with
  |0=>cs[off]?
  |s=>J (cA (cs.extract off (off+s)))
 |_=>ab
def ia(sz:Nat):ao->ao->Option ao
 | a5 (J a) len _,ba _ i=>if 0<=i/\i<len then J (bU (J (a.add (i.toNat*sz)))) else ab
 |_,_=>ab
def iar(n sz:Nat):ao->ao->Option ao
 | bU (J a),ba _ i=>if 0<=i/\i<n then J (bU (J (a.add (i.toNat*sz)))) else ab
 |_,_=>ab
def ixs:ao->ao->Option ao
 | fo s,ba _ i=>match(if 0<=i then s[i.toNat]? else ab) with
  |some b=>J (ba .u8 b.toNat)
  |none=>ab
 |_,_=>ab
def ixa(n:Nat):ao->ao->Option ao
 | cA cs,ba _ i=>if 0<=i/\i<n then cs[i.toNat]? else ab
 |_,_=>ab
def ub(y:Nat):Option ao->Nat->Option Nat
 |J (ba _ i),_=>if 0<=i/\i<=y then J i.toNat else ab
 |J _,_=>ab
 |ab,d=>J d
def sl(sz:Nat)(x:ao)(br az k9:Option ao):Option ao:=
 match x with
 | .slice a len cap=>match ub cap k9 cap with
  |some m=>match ub m az len with
   |some u=>match ub u br 0 with
    |some l=>J (a5 (if m=l then a else a.map (·.add (l*sz))) (u-l) (m-l))
    |none=>ab
   |none=>ab
  |none=>ab
 |_=>ab
def sls(x:ao)(br az:Option ao):Option ao:=
 match x with
 | .string s=>match ub s.size az s.size with
  |some u=>match ub u br 0 with
   |some l=>J (.string (s.extract l u))
   |none=>ab
  |none=>ab
 |_=>ab
def q3:ao->Option ao
 | .string s=>J (.int .i64 s.size)
 |_=>ab
def fb:ao->Option ao
 | .slice _ n _=>J (ba .i64 n)
 |_=>ab
def oM:ao->Option ao
 | .slice _ _ c=>J (ba .i64 c)
 |_=>ab
def exv(i:Nat):ao->Option ao
 | .tuple vs=>vs[i]?
 |_=>ab
def ci(k:IntKind):ao->Option ao
 | .int _ n=>J (ba k (k.wrap n))
 |_=>ab
def yT(k:FloatKind):ao->Option ao
 | .int _ n=>J (cU k (k.nearest n))
 |_=>ab
def Au:ao->Option ao
 | .int _ n=>J (fo (Utf8.encode n))
 |_=>ab
def ta(t:Nat)(z:ao):ao->Option ao
 | .iface u v=>J (cond (Nat.beq u t) (bA #[v,aQ ai]) (bA #[z,aQ av]))
 | .nilIface=>J (bA #[z,aQ av])
 |_=>ab
def q4(avJ:Bool):ao->ao->Option ao
 | ba k a,ba _ b=>J (ba k (if avJ then(if b<a then b else a) else(if b>a then b else a)))
 |_,_=>ab
def Pu(o:Option ao)(h:H)(k:K):Prop:=
 match o with
 |some v=>k v h
 |none=>False
def rd(h:H)(a:Addr):Option ao:=
 match h[a.block]? with
 |J (aO c _ _)=>if a.spot.isSome then ab else c[a.off]?
 |_=>ab
def cd(p:ao)(h:H)(k:K):Prop:=
 match p with
 | bU (J a)=>match rd h a with
  |some v=>k v h
  |none=>False
 |_=>False
def cO(n:Nat)(p:ao)(h:H)(k:K):Prop:=
 match p with
 | bU (J a)=>match n with
  |0=>k (cA #[]) h
  |n=>match h[a.block]? with
   |J (aO c _ _)=>a.spot=ab/\a.off+n<=ag c/\k (cA (c.extract a.off (a.off+n))) h
   |_=>False
 |_=>False
def ht(c:Array ao)(o:Nat):List ao->Array ao
 |[]=>c
 |v::vs=>ht (dy c o v) (o+1) vs
def bZ(sz:Nat)(p v:ao)(h:H)(k:K):Prop:=
 match p with
 | bU (J a)=>match h[a.block]? with
  |J (aO c t b3)=>U (cellsL v)=sz/\ones (cellsL v)=ai/\a.spot=ab/\a.off+sz<=ag c/\(a.off+sz<=b3.1\/b3.2<=a.off)/\
   k undef (dy h a.block (aO (ht c a.off (cellsL v)) t b3))
  |_=>False
 |_=>False
def oG(t:Nat)(z:List ao)(h:H)(k:K):Prop:=k (bU (J ⟨ag h,0,ab⟩)) (a6 h (aO (aZ z) t))
def lh(t:Nat)(v:ao)(h:H)(k:K):Prop:=k (bU (J ⟨ag h,0,ab⟩)) (a6 h (aO (aZ (cellsL v)) t))
def Bd(z:List ao)(c9:List (Nat×Nat×ao))(h:H)(k:K):Prop:=
 match fillL z c9 with
 |some cs=>k (cA (aZ cs)) h
 |none=>False
def ew(t n:Nat)(z:List ao)(c9:List (Nat×Nat×ao))(h:H)(k:K):Prop:=
 match fillL (repL n z) c9 with
 |some cs=>k (a5 (J ⟨ag h,0,ab⟩) n n) (a6 h (aO (aZ cs) t))
 |none=>False
def Ms(t sz:Nat)(z:List ao)(l c:ao)(h:H)(k:K):Prop:=
 match l,c with
 | ba .i64 l,ba .i64 c=>0<=l/\l<=c/\c<=1099511627776/\k (a5 (J ⟨ag h,0,ab⟩) l.toNat c.toNat) (a6 h (aO (aZ (repL c.toNat z)) t))/\U z=sz
 |_,_=>False
def G3(h:H)(k:K):Prop:=k (.map (J (ag h))) (a6 h (.map #[] 0))
def K6(r:ao)(h:H)(k:K):Prop:=
 match r with
 | .int _ _=>G3 h k
 |_=>False
def shown(h:H)(sz n:Nat):ao->Option (Array ao)
 | a5 (J a) _ _=>match h[a.block]? with
  |J (aO c _ _)=>if a.spot=ab/\a.off+n*sz<=ag c then J (c.extract a.off (a.off+n*sz)) else ab
  |_=>ab
 | .slice ab _ _=>J #[]
 | .string s=>J ((s.extract 0 n).data.map λb=>ba .u8 b.toNat)
 |_=>ab
def lenV:ao->Option Nat
 | .slice _ n _=>J n
 | .string s=>J s.size
 |_=>ab
def Ap(t sz by_:Nat)(z:List ao)(s x:ao)(h:H)(k:K):Prop:=
 match s,lenV x with
 | a5 base len cap,J n=>match shown h sz n x with
  |some new=>ones (bC new)=ai/\ag new=n*sz/\
   if len+n<=cap then
    match base with
    |some a=>match n with
     |0=>k s h
     |_=>match h[a.block]? with
      |J (aO c e b3)=>a.spot=ab/\a.off+(len+n)*sz<=ag c/\(a.off+(len+n)*sz<=b3.1\/b3.2<=a.off+len*sz)/\
       k (a5 (J a) (len+n) cap) (dy h a.block (aO (ht c (a.off+len*sz) (bC new)) e b3))
      |_=>False
    |none=>k (a5 ab (len+n) cap) h
   else match shown h sz len s with
    |some old=>ag old=len*sz/\(len+n)*by_<=1099511627776/\
     ∀c:Nat,len+n<=c->c<9223372036854775808->k (a5 (J ⟨ag h,0,ab⟩) (len+n) c) (a6 h (aO (old++new++aZ (repL (c-(len+n)) z)) t))
    |none=>False
  |none=>False
 |_,_=>False
def vK(sz:Nat)(d s:ao)(h:H)(k:K):Prop:=
 match d,lenV s with
 | a5 base dl _,J sl=>match shown h sz (min sl dl) s with
  |some new=>ones (bC new)=ai/\ag new=min sl dl*sz/\
   match base with
   |some a=>match min sl dl with
    |0=>k (ba .i64 0) h
    |n=>match h[a.block]? with
     |J (aO c e b3)=>a.spot=ab/\a.off+n*sz<=ag c/\(a.off+n*sz<=b3.1\/b3.2<=a.off)/\
      k (ba .i64 n) (dy h a.block (aO (ht c a.off (bC new)) e b3))
     |_=>False
   |none=>k (ba .i64 (min sl dl:Nat)) h
  |none=>False
 |_,_=>False
def bytesOf:List ao->Option (List UInt8)
 |[]=>J []
 | ba .u8 n::l=>(bytesOf l).map (UInt8.ofNat n.toNat::·)
 |_::_=>ab
def Cbs(x:ao)(h:H)(k:K):Prop:=
 match x with
 | .slice ab _ _=>k (fo .empty) h
 | a5 (J a) n c=>match shown h 1 n (a5 (J a) n c) with
  |some cs=>match bytesOf (bC cs) with
   |some iO=>ag cs=n/\k (fo ⟨aZ iO⟩) h
   |none=>False
  |none=>False
 |_=>False
def KU(t:Nat)(x:ao)(h:H)(k:K):Prop:=
 match x with
 | .string s=>s.size<=1099511627776/\∀c:Nat,s.size<=c->c<9223372036854775808->
  k (.slice (J ⟨h.size,0,ab⟩) s.size c) (h.push (.cells ((s.data.map λb=>Value.int .u8 b.toNat)++Array.replicate (c-s.size) (.int .u8 0)) t (c,c+1)))
 |_=>False
def mfind(key:ByteArray):List MapEntry->Nat->Option (Option (Nat×ao))
 |[],_=>J ab
 |e::es,i=>match e.key with
  | .string s=>if key==s then J (J (i,e.val)) else mfind key es (i+1)
  |_=>ab
def Ml(z:ao)(m key:ao)(h:H)(k:K):Prop:=
 match m,key with
 | .map ab,fo _=>k z h
 | .map (J r),fo s=>match h[r]? with
  |J (.map es _)=>match mfind s (bC es) 0 with
   |J (J (_,v))=>k v h
   |some ab=>k z h
   |none=>False
  |_=>False
 |_,_=>False
def Mu(m key v:ao)(h:H)(k:K):Prop:=
 match m,key with
 | .map (J r),fo s=>match h[r]? with
  |J (.map es clock)=>match mfind s (bC es) 0 with
   |J (J (i,_))=>k undef (dy h r (.map (es.modify i λe=>{e with key:=fo s,val:=v}) clock))
   |some ab=>k undef (dy h r (.map (a6 es {key:=fo s,val:=v,born:=clock}) (clock+1)))
   |none=>False
  |_=>False
 |_,_=>False
def Rg(m:ao)(h:H)(k:K):Prop:=
 match m with
 | .map ab=>k (bU (J ⟨ag h,0,ab⟩)) (a6 h (.mapIter ab 0 #[] 0))
 | .map (J r)=>match h[r]? with
  |J (.map _ clock)=>k (bU (J ⟨ag h,0,ab⟩)) (a6 h (.mapIter (J r) clock #[] clock))
  |_=>False
 |_=>False
def Nx(it:ao)(h:H)(k:K):Prop:=
 match it with
 | bU (J ⟨r,0,_⟩)=>match h[r]? with
  |J (.mapIter ab _ _ _)=>k (bA #[aQ av]) h
  |J (.mapIter (J m) since seen last)=>match h[m]? with
   |J (.map es clock)=>clock=last/\since=clock/\(∀e,e∈es->e.born<clock)/\
    if(es.filter λe=>!seen.contains e.born).isEmpty then k (bA #[aQ av]) h
    else∀e,e∈es.filter (λe=>!seen.contains e.born)->k (bA #[aQ ai,e.key,e.val]) (dy h r (.mapIter (J m) since (a6 seen e.born) clock))
   |_=>False
  |_=>False
 |_=>False
def En(it:ao)(h:H)(k:K):Prop:=
 match it with
 | bU (J ⟨r,0,_⟩)=>match h[r]? with
  |J (.mapIter (J m) _ seen OE)=>match seen.back?,h[m]? with
   |J JI,J (.map es clock)=>clock=OE/\match es.find? (·.born==JI) with
    |some e=>k (bA #[e.key,e.val]) h
    |none=>False
   |_,_=>False
  |_=>False
 |_=>False
structure e9(w bh:World):Prop where
 os:bh.os=w.os
 tape:bh.tape=w.tape
 output:bh.output=w.output
def bo(g:Nat)(args:List ao)(h:H)(R:K):Prop:=
 ∀w,w.heap=h->Calls P g (aZ args) w λe bh=>(∃v,e=.returned v/\R v bh.heap)/\e9 w bh
def aB(h h':H):Prop:=ag h<=ag h'/\∀b,b<ag h->h'[b]?=h[b]?
def bD(g:Nat)(args:List ao)(h:H)(k:K):Prop:=bo g args h k
def vJ(g:Nat)(args:List ao)(h:H)(k:K):Prop:=bo g args h λv h'=>aB h h'/\k v h'
def apartP(p:ao)(sz:Nat)(q:ao×Nat):Prop:=
 match p,q.1 with
 | bU (J a),bU (J b)=>a.block≠b.block\/a.off+sz<=b.off\/b.off+q.2<=a.off
 |_,_=>False
def apartL(p:ao)(sz:Nat):List (ao×Nat)->Prop
 |[]=>True
 |q::r=>apartP p sz q/\apartL p sz r
def wN:List (ao×Nat)->H->H->Prop
 |[],_,_=>True
 |(p,m)::r,h,h'=>(match p with
  | bU (J b)=>∀i,i<m->∀v,rd h (b.add i)=J v->rd h' (b.add i)=J v
  |_=>True)/\wN r h h'
def yB(t sz by_:Nat)(z:List ao)(s x:ao)(E:List (ao×Nat))(h:H)(k:K):Prop:=Ap t sz by_ z s x h λv h'=>wN E h h'/\k v h'
def GS(g:Nat)(args:List ao)(E:List (ao×Nat))(h:H)(k:K):Prop:=bo g args h λv h'=>wN E h h'/\k v h'
def PV(sz:Nat)(p v:ao)(ha:List (ao×Nat))(h:H)(k:K):Prop:=apartL p sz ha/\bZ sz p v h k
def uQ(_:H)(_:K):Prop:=False
def Cv(fn:ao)(args:List ao)(h:H)(k:K):Prop:=
 match fn with
 | .func (.func g) first captured=>((P.funcs[g]?).bind (·.body)).isSome=ai/\bo g (bC first++args++bC captured) h k
 |_=>False
def Ci(recv:ao)(name:String)(args:List ao)(h:H)(k:K):Prop:=
 match recv with
 | .iface t v=>∃g r,(∀w,(method (ag P.types+Made.depth) t v name).run P w=.ok (g,r) w)/\((P.funcs[g]?).bind (·.body)).isSome=ai/\bo g (r::args) h k
 |_=>False
def GR(recv:ao)(name:String)(args:List ao)(h:H)(k:K):Prop:=Ci recv name args h λv h'=>aB h h'/\k v h'
def z6(g:Nat)(args:List ao)(h:H)(k:K):Prop:=
 ∃fn v,P.funcs[g]?=J fn/\fn.body=ab/\(∀w,(callFunc g (aZ args)).run P w=.ok (.value v) w)/\k v h
def a0(c:ao)(b:Bool)(X:H->K->Prop)(h:H)(k:K):Prop:=
 match c with
 | .bool t=>cond (t==b) (X h k) (k undef h)
 |_=>k undef h
def b1(c:ao)(X Y:Prop):Prop:=
 match c with
 | .bool t=>(t=ai->X)/\(t=av->Y)
 |_=>False
end
noncomputable section
variable[hz]
def szT(t:Nat):Nat:=match P.info? t with|some i=>i.size|none=>0
def lr(t:Nat):Nat:=match P.info? t with|some i=>i.bytes|none=>0
def pe(t:Nat):ao:=match P.info? t with|some i=>(match i.zero with|some v=>v|none=>undef)|none=>undef
def Z(t:Nat):List ao:=cellsL (pe t)
def nz(t:Nat):Bool:=match P.info? t with|some i=>i.zero.isSome|none=>av
def oS(t:Nat):Bool:=(P.info? t).isSome
inductive Ez|int(k:IntKind)|sm(k:FloatKind)|str|Hp|rN|ptr|hR(e:Nat)|arr(n e:Nat)|map(k e:Nat)|DL|UQ|bad
def tg(t:Nat):Ez:=match P.underlying t with
 |J (.int k)=>.int k
 |J (.float k)=>.sm k
 |J .string=>.str
 |J .bool=>.Hp
 |J (.interface _)=>.rN
 |J (.pointer _)=>.ptr
 |J (.slice e)=>match oS e with|true=>.hR e|false=>.bad
 |J (.array n e)=>match oS e with|true=>.arr n e|false=>.bad
 |J (.map k e)=>match oS e with|true=>.map k e|false=>.bad
 |J (.struct _)=>.DL
 |some _=>.UQ
 |none=>.bad
def aggT(t:Nat):Option Bool:=match tg t with| .arr _ _| .DL=>J ai| .bad=>ab|_=>J av
def fldT(s i:Nat):Option (Nat×Nat):=match P.underlying s with
 |J (.struct mU)=>match mU[i]? with|some f=>(match oS f.type with|true=>J (f.offset,f.type)|false=>ab)|none=>ab
 |_=>ab
def bodyB(g:Nat):Bool:=match P.funcs[g]? with|some fn=>fn.body.isSome|none=>av
def isC:Operand->Bool| .const _=>ai|_=>av
def eqW(ea:Bool)(t:Nat)(x y:Operand)(u v:ao):Option ao:=match tg t with
 | .int _| .sm _| .str=>bn (cond ea .neq .eql) u v
 | .Hp=>beB ea u v
 | .ptr=>beP ea u v
 | .rN=>match isC x||isC y with
  |true=>beI ea u v
  |false=>ab
 |_=>ab
def allI:List Field->Bool
 |[]=>ai
 |f::r=>oS f.type&&allI r
def Q'(t:Nat):Bool:=match P.underlying t with|J (.struct mU)=>allI (bC mU)|_=>av
def parts(s:Nat)(f:Fr):List (Nat×Operand)->Option (List (Nat×Nat×ao))
 |[]=>J []
 |(i,x)::r=>match fldT s i with
  |J (o,t)=>match parts s f r with
   |some l=>J ((o,szT t,ev f x)::l)
   |none=>ab
  |none=>ab
def yf(sz:Nat)(f:Fr):List (Nat×Operand)->List (Nat×Nat×ao)
 |[]=>[]
 |(i,x)::r=>(i*sz,sz,ev f x)::yf sz f r
def evs(f:Fr):List Operand->List ao
 |[]=>[]
 |x::l=>ev f x::evs f l
def callW(E:List (ao×Nat))(f:Fr)(c:Call)(h:H)(k:K):Prop:=
 match c.callee with
 | .builtin b=>match b,bC c.args,bC c.argTypes with
  | .len,[x],[t]=>match tg t with
   | .str=>Pu (q3 (ev f x)) h k
   | .hR _=>Pu (fb (ev f x)) h k
   |_=>False
  | .cap,[x],[t]=>match tg t with
   | .hR _=>Pu (oM (ev f x)) h k
   |_=>False
  | .append,[s,x],[t,u]=>match tg t with
   | .hR e=>match nz e&&Nat.ble 1 (lr e)&&Nat.ble (lr e) 200&&Nat.beq (U (Z e)) (szT e) with
    |true=>match tg u with
     | .hR _| .str=>match E with
      |[]=>Ap e (szT e) (lr e) (Z e) (ev f s) (ev f x) h k
      |E=>yB e (szT e) (lr e) (Z e) (ev f s) (ev f x) E h k
     |_=>False
    |false=>False
   |_=>False
  | .copy,[d,s],[t,u]=>match E,tg t with
   |[],.hR e=>match tg u with
    | .hR _| .str=>vK (szT e) (ev f d) (ev f s) h k
    |_=>False
   |_,_=>False
  | .min,[x,y],_=>Pu (q4 ai (ev f x) (ev f y)) h k
  | .max,[x,y],_=>Pu (q4 av (ev f x) (ev f y)) h k
  |_,_,_=>False
 | .value (.func g)=>match bodyB g with
  |true=>match E with
   |[]=>bD g (evs f (bC c.args)) h k
   |E=>match Nat.beq g 29 with
    |true=>GS g (evs f (bC c.args)) E h k
    |false=>vJ g (evs f (bC c.args)) h k
  |false=>z6 g (evs f (bC c.args)) h k
 | .value x=>match E with
  |_::_=>False
  |[]=>Cv (ev f x) (evs f (bC c.args)) h k
 | .invoke x name=>match E with
  |[]=>Ci (ev f x) name (evs f (bC c.args)) h k
  |_=>GR (ev f x) name (evs f (bC c.args)) h k
def opW(E:List (ao×Nat))(f:Fr)(o:Op)(h:H)(k:K):Prop:=
 match o with
 | .move x=>k (ev f x) h
 | .assign x=>k (ev f x) h
 | .pick c a b=>Pu (pk (ev f c) (ev f a) (ev f b)) h k
 | .alloc t=>match nz t with
  |true=>oG t (Z t) h k
  |false=>False
 | .box t x=>lh t (ev f x) h k
 | .build t c9=>match nz t,tg t with
  |ai,.DL=>match Q' t,parts t f (bC c9) with
   |ai,J l=>Bd (Z t) l h k
   |_,_=>False
  |ai,.arr _ e=>Bd (Z t) (yf (szT e) f (bC c9)) h k
  |_,_=>False
 | .buildSlice t n c9=>match tg t with
  | .hR e=>match nz e&&Nat.ble (n*szT e) 10000&&Nat.beq (U (Z e)) (szT e) with
   |true=>ew e n (Z e) (yf (szT e) f (bC c9)) h k
   |false=>False
  |_=>False
 | .load t p=>match aggT t with
  |some ai=>cO (szT t) (ev f p) h k
  |some av=>cd (ev f p) h k
  |none=>False
 | .store t p v=>match oS t,E with
  |ai,[]=>bZ (szT t) (ev f p) (ev f v) h k
  |ai,E=>PV (szT t) (ev f p) (ev f v) E h k
  |av,_=>False
 | .nilCheck x=>Pu (nc (ev f x)) h k
 | .binOp op t x y _=>match op with
  | .eql=>Pu (eqW av t x y (ev f x) (ev f y)) h k
  | .neq=>Pu (eqW ai t x y (ev f x) (ev f y)) h k
  |op=>Pu (bn op (ev f x) (ev f y)) h k
 | .unOp op _ x=>Pu (un op (ev f x)) h k
 | .convert s d x=>match tg s,tg d with
  | .int _,.int j=>Pu (ci j (ev f x)) h k
  | .int _,.sm j=>Pu (yT j (ev f x)) h k
  | .int _,.str=>Pu (Au (ev f x)) h k
  | .hR e,.str=>match tg e with
   | .int .u8=>Cbs (ev f x) h k
   |_=>False
  | .str,.hR e=>match tg e with
   | .int .u8=>KU e (ev f x) h k
   |_=>False
  |_,_=>False
 | .makeInterface t x=>match tg t with
  | .rN| .UQ| .bad=>False
  |_=>k (.iface t (ev f x)) h
 | .makeFunc fn a b=>k (.func fn (aZ (evs f (bC a))) (aZ (evs f (bC b)))) h
 | .makeMap t r=>match tg t,r with
  | .map _ _,ab=>G3 h k
  | .map _ _,J x=>K6 (ev f x) h k
  |_,_=>False
 | .makeSlice t l c=>match tg t with
  | .hR e=>match nz e&&Nat.ble (lr e) 200 with
   |true=>Ms e (szT e) (Z e) (ev f l) (ev f c) h k
   |false=>False
  |_=>False
 | .slice t x br az k9=>match tg t with
  | .hR e=>match k9.isNone||az.isSome with
   |true=>Pu (sl (szT e) (ev f x) (E4 f br) (E4 f az) (E4 f k9)) h k
   |false=>False
  | .str=>match k9 with
   |none=>Pu (sls (ev f x) (E4 f br) (E4 f az)) h k
   |some _=>False
  |_=>False
 | .fieldAddr s x i=>match fldT s i with
  |J (o,t)=>match Nat.ble 1 (szT t) with
   |true=>Pu (fd o (ev f x)) h k
   |false=>False
  |none=>False
 | .field s x i=>match fldT s i with
  |J (o,t)=>match aggT t with
   |some ai=>match szT t with
    |0=>False
    |n=>Pu (fv o n (ev f x)) h k
   |some av=>Pu (fv o 0 (ev f x)) h k
   |none=>False
  |none=>False
 | .indexAddr t x i=>match tg t with
  | .hR e=>Pu (ia (szT e) (ev f x) (ev f i)) h k
  | .arr n e=>Pu (iar n (szT e) (ev f x) (ev f i)) h k
  |_=>False
 | .index t x i=>match tg t with
  | .str=>Pu (ixs (ev f x) (ev f i)) h k
  | .arr n e=>match aggT e,szT e with
   |J av,1=>Pu (ixa n (ev f x) (ev f i)) h k
   |_,_=>False
  |_=>False
 | .lookup t m x ok=>match E,tg t,ok with
  |[],.map ek e,av=>match tg ek,nz e with
   | .str,ai=>Ml (pe e) (ev f m) (ev f x) h k
   |_,_=>False
  |_,_,_=>False
 | .mapUpdate t m x v=>match E,tg t with
  |[],.map ek _=>match tg ek with
   | .str=>Mu (ev f m) (ev f x) (ev f v) h k
   |_=>False
  |_,_=>False
 | .range t x=>match E,tg t with
  |[],.map _ _=>Rg (ev f x) h k
  |_,_=>False
 | .next it av=>match E with
  |_::_=>False
  |[]=>Nx (ev f it) h k
 | .entry it=>match E with
  |_::_=>False
  |[]=>En (ev f it) h k
 | .panic _=>uQ h k
 | .typeAssert x _ t ai=>match nz t,tg t with
  |ai,.rN=>False
  |ai,.UQ=>False
  |ai,.bad=>False
  |ai,_=>Pu (ta t (pe t) (ev f x)) h k
  |av,_=>False
 | .extract x i=>Pu (exv i (ev f x)) h k
 | .call c=>callW E f c h k
 |_=>False
def gv(ops:List Oper)(f:Fr)(g:Nat):ao:=
 match ops[g]? with
 |some o=>match o.dst with
  |some d=>f d
  |none=>undef
 |none=>undef
def stepW(E:List (ao×Nat))(ops:List Oper)(o:Oper)(k:Fr->H->Prop)(f:Fr)(h:H):Prop:=
 match o.guard with
 |none=>opW E f o.op h (λv h=>k (fputO f o.dst v) h)
 |J (g,b)=>a0 (gv ops f g) b (opW E f o.op) h (λv h=>k (fputO f o.dst v) h)
def regW(ops:List Oper):List Oper->(Fr->H->Prop)->Fr->H->Prop
 |[],k,f,h=>k f h
 |o::r,k,f,h=>stepW [] ops o (regW ops r k) f h
inductive PJ|pu|gj|nZ
def kindOf:Op->PJ
 | .move _| .assign _| .pick .. | .nilCheck _| .binOp .. | .unOp .. | .makeFunc .. | .slice .. | .fieldAddr .. | .field .. | .indexAddr .. | .index .. | .extract .. | .build .. =>.pu
 | .convert s d _=>match tg s,tg d with
  | .int _,.int _| .int _,.sm _| .int _,.str=>.pu
  | .hR _,.str=>.gj
  |_,_=>.nZ
 | .makeInterface .. | .typeAssert .. =>.pu
 | .load .. =>.gj
 | .call c=>match c.callee with
  | .builtin .len| .builtin .cap| .builtin .min| .builtin .max=>.pu
  |_=>.nZ
 |_=>.nZ
def TL(ops:Array Oper)(i:Nat):PJ:=match ops[i]? with|some o=>kindOf o.op|none=>.nZ
def predsOf(ms:List Nat):List Edge->Nat
 |[]=>0
 |e::r=>match Region.binds .any e with
  |true=>(2^e.on|||ms.getD e.on 0)|||predsOf ms r
  |false=>predsOf ms r
def masks:List Oper->List Nat->List Nat
 |[],ms=>ms
 |o::r,ms=>masks r (ms++[predsOf ms (bC o.after)])
def LD(ms:List Nat)(i j:Nat):Bool:=!(ms.getD j 0).testBit i&&!(ms.getD i 0).testBit j
abbrev vR:=List (Nat×Option (ao×Nat))
def uD(t:Nat):Nat:=match szT t with|0=>1|n=>n
def Lk(f:Fr)(i:Nat)(o:Op)(wl:vR):vR:=match kindOf o with
 | .gj=>match o with
  | .load t p=>(i,J (ev f p,uD t))::wl
  |_=>(i,ab)::wl
 |_=>wl
def concL(ms:List Nat)(j:Nat):vR->Option (List (ao×Nat))
 |[]=>J []
 |(i,x)::r=>match concL ms j r with
  |none=>ab
  |some l=>match LD ms i j with
   |true=>match x with
    |some e=>J (e::l)
    |none=>ab
   |false=>J l
def fstQ(ops:Array Oper):List Nat->Option Nat
 |[]=>ab
 |i::r=>match TL ops i with
  | .nZ=>fstQ ops r
  |_=>J i
def P5(F:Nat->Prop):List Nat->Prop
 |[]=>True
 |[i]=>F i
 |i::r=>F i/\P5 F r
def drawW(ops:Array Oper)(ms:List Nat):Nat->Array Bool->vR->(Fr->H->Prop)->Fr->H->Prop
 |0,l,_,k,f,h=>match Region.ready .any ops l with
  |[]=>k f h
  |_=>False
 |n+1,l,wl,k,f,h=>match Region.ready .any ops l with
  |[]=>k f h
  |r=>match fstQ ops r with
   |some i=>match Region.free .any ops l i,ops[i]? with
    |ai,J o=>stepW [] (bC ops) o (drawW ops ms n (dy l i ai) (Lk f i o.op wl) k) f h
    |_,_=>False
   |none=>P5 (λi=>match ops[i]?,concL ms i wl with
    |J o,J E=>stepW E (bC ops) o (drawW ops ms n (dy l i ai) wl k) f h
    |_,_=>False) r
def EV(ops:Array Oper)(k:Fr->H->Prop)(f:Fr)(h:H):Prop:=
 match Region.noSelect ops with
 |true=>drawW ops (masks (bC ops) []) (ag ops) (Array.replicate (ag ops) av) [] k f h
 |false=>False
structure Cb where
 n:Fr->H->Prop
 x:Nat->Fr->H->Prop
 r:Fr->H->Prop
def dsts:List Oper->List Nat
 |[]=>[]
 |o::r=>match o.dst with
  |some d=>d::dsts r
  |none=>dsts r
def writes:Code->List Nat
 | .region _ ops _=>dsts (bC ops)
 | .seq a b=>writes a++writes b
 | .cond _ a b=>writes a++writes b
 | .block _ c| .loop c=>writes c
 |_=>[]
def lS:Code->Nat
 | .region _ _ ai=>1
 | .seq a b=>lS a+lS b+1
 | .cond _ a b=>lS a+lS b
 | .block _ c| .loop c=>lS c+1
 |_=>0
def kh(f:Fr):List Nat->List ao
 |[]=>[]
 |d::l=>f d::kh f l
def aG:List (Option (List Nat))->Option (List Nat)
 |a::_=>a
 |[]=>ab
def na:List (Option (List Nat))->List (Option (List Nat))
 |_::l=>l
 |[]=>[]
def CG:Nat->List (Option (List Nat))->List (Option (List Nat))
 |0,l=>l
 |n+1,_::l=>CG n l
 |_+1,[]=>[]
def awp:Code->List (Option (List Nat))->Cb->Fr->H->Prop
 | .skip,_,k,f,h=>k.n f h
 | .region _ ops av,_,k,f,h=>regW (bC ops) (bC ops) k.n f h
 | .region _ ops ai,A,k,f,h=>match aG A with
  |some L=>fD (U L) (λb7=>EV ops (λbm h'=>ap (U L) b7 (kh bm L) h') f h)
   (λd=>lam (U L) λvs h'=>k.n (mix (dsts (bC ops)) f d L vs) h')
  |none=>EV ops k.n f h
 | .seq a b,A,k,f,h=>match aG A with
  |some L=>fD (U L) (λb7=>awp a (na A) ⟨λbm h'=>ap (U L) b7 (kh bm L) h',k.x,k.r⟩ f h)
   (λd=>lam (U L) λvs h'=>awp b (CG (lS a) (na A)) k (mix (writes a) f d L vs) h')
  |none=>awp a (na A) ⟨λbm h'=>awp b (CG (lS a) (na A)) k bm h',k.x,k.r⟩ f h
 | .cond c a b,A,k,f,h=>b1 (ev f c) (awp a A k f h) (awp b (CG (lS a) A) k f h)
 | .block id c,A,k,f,h=>match aG A with
  |some L=>fD (U L) (λb7=>awp c (na A) ⟨λbm h'=>ap (U L) b7 (kh bm L) h',λj bm h'=>cond (Nat.beq j id) (ap (U L) b7 (kh bm L) h') (k.x j bm h'),k.r⟩ f h)
   (λd=>lam (U L) λvs h'=>k.n (mix (writes c) f d L vs) h')
  |none=>awp c (na A) ⟨k.n,λj bm h'=>cond (Nat.beq j id) (k.n bm h') (k.x j bm h'),k.r⟩ f h
 | .loop c,A,k,f,h=>match aG A with
  |some L=>iL (U L) (kh f L) h λb7 d=>lam (U L) λvs h'=>awp c (na A) ⟨λbm cN=>ap (U L) b7 (kh bm L) cN,k.x,k.r⟩ (mix (writes c) f d L vs) h'
  |none=>False
 | .exit id,_,k,f,h=>k.x id f h
 | .ret,_,k,f,h=>k.r f h
 |_,_,_,_,_=>False
def resW:List ResultVar->Fr->H->(List ao->Prop)->Prop
 |[],_,_,k=>k []
 | .tmp t::rs,f,h,k=>resW rs f h λvs=>k (f t::vs)
 | .cell a t::rs,f,h,k=>match aggT t with
  |some ai=>cO (szT t) (f a) h λv _=>resW rs f h λvs=>k (v::vs)
  |some av=>cd (f a) h λv _=>resW rs f h λvs=>k (v::vs)
  |none=>False
def retW(rs:List ResultVar)(R:K)(f:Fr)(h:H):Prop:=
 resW rs f h λvs=>match vs with
  |[v]=>R v h
  |vs=>R (bA (aZ vs)) h
def argF:List ao->Nat->ao
 |[],_=>undef
 |v::l,i=>match i with
  |0=>v
  |n+1=>argF l n
def lY(n:Nat):List Nat->Bool
 |[]=>ai
 |d::l=>Nat.blt d n&&lY n l
def Rc(fn:Func)(c:Code)(A:List (Option (List Nat)))(args:List ao)(h:H)(R:K):Prop:=
 awp c A ⟨retW (bC fn.results) R,λ_ _ _=>False,retW (bC fn.results) R⟩ (argF args) h
end
section
variable[hz]
def an0(s:Sem ao)(v:ao):Prop:=∀w,s.run P w=.ok v w
def gk(h:P.underlying t=J d)(w:World):(underlying t).run P w=.ok d w:=run_underlying h w
def DO(h:tg t=.int k):P.underlying t=J (.int k):=by unfold tg at h;grind
def az2(h:tg t=.sm k):P.underlying t=J (.float k):=by unfold tg at h;grind
def w3(h:tg t=.str):P.underlying t=J .string:=by unfold tg at h;grind
def az1(h:tg t=.Hp):P.underlying t=J .bool:=by unfold tg at h;grind
def az3(h:tg t=.rN):∃ms,P.underlying t=J (.interface ms):=by unfold tg at h;grind
def az4(h:tg t=.ptr):∃e,P.underlying t=J (.pointer e):=by unfold tg at h;grind
def agI(h:tg t=.DL):∃mU,P.underlying t=J (.struct mU):=by unfold tg at h;grind
def tF(h:tg t=.hR e):P.underlying t=J (.slice e)/\oS e=ai:=by unfold tg at h;grind
def OH(h:tg t=.arr n e):P.underlying t=J (.array n e)/\oS e=ai:=by unfold tg at h;grind
def OI(h:tg t=.map k e):P.underlying t=J (.map k e)/\oS e=ai:=by unfold tg at h;grind
def JM(h:tg t≠.bad):∃d,P.underlying t=J d:=by
 unfold tg at h;grind
def q9(h:oS t=ai)(w:World):(sizeOf t).run P w=.ok (szT t) w:=by
 unfold oS at h;unfold szT;cases az:P.info? t with
 |none=>grind
 |some i=>simp[sizeOf,typeInfo,az]
def avC(h:P.underlying t=J d):oS t=ai:=by
 unfold oS;cases az:P.info? t with
 |none=>simp[Program.underlying,az] at h
 |some i=>rfl
def xw(h:aggT t=J b)(w:World):(isAgg t).run P w=.ok b w:=by
 unfold aggT at h;cases b with
 |true=>
  split at h<;>simp at h
  .rename_i n e aP;simp[isAgg,gk (OH aP).1]
  .rename_i aP;obtain⟨mU,hu⟩:=agI aP;simp[isAgg,gk hu]
 |false=>
  have af:tg t≠.bad:=al
  obtain⟨d,aG⟩:=JM af;have:(∀mU,d≠.struct mU)/\(∀n e,d≠.array n e):=by
   constructor
   .rintro mU rfl;simp[tg,aG] at h
   .rintro n e rfl;simp only[tg,aG] at h;grind
  simp only[isAgg,Sem.run_bind,gk aG,Result.andThen_ok];simp_all
def MF(h:aggT t=J b):oS t=ai:=by
 have af:tg t≠.bad:=by intro af;simp[aggT,af] at h
 obtain⟨d,aG⟩:=JM af;exact avC aG
def afd(h:pk c a b=J v):an0 (do pure (if<-asBool c then a else b)) v:=by
 intro w;cases c<;>simp[pk] at h;rename_i t;subst h;cases t<;>simp[asBool]
section
variable{t:Nat}{x y:ao}{b:Bool}(w:World)
def aoG(aG:binOp cQ t x y=(do pure (aQ (<-Op.equal t x y))))(h:∀d,(Op.equalIn (d+1) t x y).run P w=.ok b w):
  (binOp cQ t x y).run P w=.ok (aQ b) w:=by
 rw[aG];have h':(Op.equal t x y).run P w=.ok b w:=h 9999;simp_all
def aoH(aG:binOp hF t x y=(do pure (aQ (!(<-Op.equal t x y)))))(h:∀d,(Op.equalIn (d+1) t x y).run P w=.ok b w):
  (binOp hF t x y).run P w=.ok (aQ !b) w:=by
 rw[aG];have h':(Op.equal t x y).run P w=.ok b w:=h 9999;simp_all
end
def CK(ea:Bool)(w:World)(aX:∀op,(eqGuard op t X Y x y).run P w=.ok () w)
  (he:binOp cQ t x y=(do pure (aQ (<-Op.equal t x y)))) (aI:binOp hF t x y=(do pure (aQ (!(<-Op.equal t x y)))))
  (h:∀d,(Op.equalIn (d+1) t x y).run P w=.ok b w):
  (do eqGuard (cond ea hF cQ) t X Y x y;binOp (cond ea hF cQ) t x y:Sem ao).run P w=.ok (aQ (cond ea (!b) b)) w:=by
 cases ea
 .simp only[Sem.run_bind,aX,Result.andThen_ok,cond_false,aoG w he h]
 .simp only[Sem.run_bind,aX,Result.andThen_ok,cond_true,aoH w aI h]
def ard(w:World):(eqGuard op t X Y (aQ b) y).run P w=.ok () w:=by cases op<;>rfl
def RL(w:World):(eqGuard op t X Y (bU b) y).run P w=.ok () w:=by cases op<;>rfl
def are(w:World):(eqGuard op t X Y (cW u v) y).run P w=.ok () w:=by cases op<;>rfl
def arh(w:World):(eqGuard op t X Y cR (cW u v)).run P w=.ok () w:=by cases op<;>rfl
def arf(h:(isC X||isC Y)=ai)(w:World):(eqGuard op t X Y cR cR).run P w=.ok () w:=by
 cases X<;>cases Y<;>first|(cases op<;>rfl)|(simp[isC] at h)
def YY(aP:tg t=.Hp)(h:beB ea x y=J v)(w:World):
  (do eqGuard (cond ea .neq .eql) t X Y x y;binOp (cond ea .neq .eql) t x y:Sem ao).run P w=.ok v w:=by
 cases x<;>cases y<;>simp only[beB,reduceCtorEq,dg] at h;subst h;refine CK ea w (λ_=>ard w) rfl rfl λd=>?_;simp only[Op.equalIn,Sem.run_bind,gk (az1 aP),Result.andThen_ok,Sem.run_pure]
def YZ(aP:tg t=.rN)(ay:(isC X||isC Y)=ai)(h:beI ea x y=J v)(w:World):
  (do eqGuard (cond ea hF cQ) t X Y x y;binOp (cond ea hF cQ) t x y:Sem ao).run P w=.ok v w:=by
 obtain⟨ms,hu⟩:=az3 aP;cases x<;>cases y<;>simp only[beI,reduceCtorEq,dg] at h<;>subst h
 .rw[(al:ea=cond ea (!av) av)];rw[(al:(cond (cond ea (!av) av) BinOp.neq BinOp.eql)=cond ea hF cQ)];refine CK ea w (λ_=>are w) rfl rfl λd=>?_;simp only[Op.equalIn,Sem.run_bind,gk hu,Result.andThen_ok,Sem.run_pure]
 .rw[(al:ea=cond ea (!av) av)];rw[(al:(cond (cond ea (!av) av) BinOp.neq BinOp.eql)=cond ea hF cQ)];refine CK ea w (λ_=>arh w) rfl rfl λd=>?_;simp only[Op.equalIn,Sem.run_bind,gk hu,Result.andThen_ok,Sem.run_pure]
 .rw[(al:(!ea)=cond ea (!ai) ai)];refine CK ea w (λ_=>arf ay w) rfl rfl λd=>?_;simp only[Op.equalIn,Sem.run_bind,gk hu,Result.andThen_ok,Sem.run_pure]
def Y0(aP:tg t=.ptr)(h:beP ea x y=J v)(w:World):
  (do eqGuard (cond ea .neq .eql) t X Y x y;binOp (cond ea .neq .eql) t x y:Sem ao).run P w=.ok v w:=by
 obtain⟨e,hu⟩:=az4 aP;unfold beP at h;split at h<;>simp only[reduceCtorEq,dg] at h<;>subst h
 .rw[(al:(!ea)=cond ea (!ai) ai)];refine CK ea w (λ_=>RL w) rfl rfl λd=>?_;simp only[Op.equalIn,Sem.run_bind,gk hu,Result.andThen_ok,Sem.run_pure,Option.isNone_none]
 .rw[(al:ea=cond ea (!av) av)];rw[(al:(cond (cond ea (!av) av) BinOp.neq BinOp.eql)=cond ea .neq .eql)];refine CK ea w (λ_=>RL w) rfl rfl λd=>?_;simp only[Op.equalIn,Sem.run_bind,gk hu,Result.andThen_ok,Sem.run_pure,Option.isNone_some]
 .rw[(al:ea=cond ea (!av) av)];rw[(al:(cond (cond ea (!av) av) BinOp.neq BinOp.eql)=cond ea .neq .eql)];refine CK ea w (λ_=>RL w) rfl rfl λd=>?_;simp only[Op.equalIn,Sem.run_bind,gk hu,Result.andThen_ok,Sem.run_pure]
def Ar(h:bn op x y=J v)(w:World):(do eqGuard op t X Y x y;binOp op t x y:Sem ao).run P w=.ok v w:=by
 have aX:(eqGuard op t X Y x y).run P w=.ok () w:=by
  cases op<;>first|rfl|skip
  all_goals
   cases x<;>first|(simp only[eqGuard_at_int,eqGuard_at_string,eqGuard_at_float,Sem.run_pure];done)|(simp[bn,eqV] at h)
 simp only[Sem.run_bind,aX,Result.andThen_ok];cases op<;>simp only[bn] at h;case eql=>
  obtain⟨b,af,rfl⟩:=yz.1 h;unfold eqV at af;split at af
  .split at af<;>simp at af;subst af;rename_i e;subst e;simp[binOp,Op.intCmp]
  .simp at af;subst af;simp[binOp,Op.stringOp]
  .split at af<;>simp at af;subst af;rename_i e;subst e;simp[binOp,Op.floatCmp]
  .cases af
 case neq=>
  obtain⟨b,af,rfl⟩:=yz.1 h;unfold eqV at af;split at af
  .split at af<;>simp at af;subst af;rename_i e;subst e;simp[binOp,Op.intCmp,bne]
  .simp at af;subst af;simp[binOp,Op.stringOp]
  .split at af<;>simp at af;subst af;rename_i e;subst e;simp[binOp,Op.floatCmp,bne]
  .cases af
 all_goals
  cases x<;>cases y<;>simp only[reduceCtorEq] at h;all_goals first
   |(
    split at h
    .rename_i e;subst e;first
      |(simp only[dg] at h;subst h;simp[binOp,Op.intArith,Op.intCmp,Op.floatCmp];done)
      |(simp only[dg] at h;subst h;simp only[binOp_and,binOp_or,binOp_xor,binOp_andNot,intBits_and,intBits_or,intBits_xor,intBits_andNot,Sem.run_pure];rfl)
      |(
       split at h
       .cases h
       .simp only[dg] at h;subst h;simp[binOp,Op.intDiv, *];done)
      |(obtain⟨r,aF,rfl⟩:=yz.1 h;simp[binOp,Op.floatArith,aF];done)
    .cases h)
   |(simp only[dg] at h;subst h;simp[binOp,Op.stringOp];done)
   |(
    split at h
    .cases h
    .simp only[dg] at h;subst h;simp[binOp,Op.shift, *];done)
   |(
    split at h
    .rename_i e;simp only[dg] at h;subst h;simp only[binOp,Op.stringOp,IntKind.max_i64];rw[ak I];rfl
    .cases h)
end
section
variable[hz]
def agY(h:un op x=J v)(w:World):(Op.unary op x).run P w=.ok v w:=by
 unfold un at h;split at h<;>simp only[dg,reduceCtorEq] at h<;>subst h
 .rfl
 .rfl
 .rfl
 .rfl
def aag(bj:fldT s i=J (o,t))(aV:Nat.ble 1 (szT t)=ai)(h:fd o x=J v)(w:World):(Instr.fieldAt s x i).run P w=.ok v w:=by
 unfold fldT at bj;split at bj
 .rename_i mU hu;split at bj
  .rename_i aam xS;split at bj
   .rename_i cr;simp only[dg,hI] at bj;obtain⟨rfl,rfl⟩:=bj;unfold fd at h;split at h
    .rename_i a;simp only[dg] at h;subst h;have bk:szT aam.type≠0:=by have:=lK aV;omega
     simp[Instr.fieldAt,gk hu,xS,Instr.sureAddr,fieldPlace,q9 cr,bk]
    .cases h
   .cases bj
  .cases bj
 .cases bj
def ayc(bE:aggT t=J av)(h:cs[off]?=J v)(w:World):(part t cs off).run P w=.ok v w:=by
 simp[part,xw bE,h]
def L4(bj:fldT s i=J (o,t))(h:(aggT t=J av/\fv o 0 x=J v)\/(aggT t=J ai/\∃n,szT t=n+1/\fv o (n+1) x=J v))(w:World):(Instr.field s x i).run P w=.ok v w:=by
 unfold fldT at bj;split at bj
 .rename_i mU hu;split at bj
  .rename_i aam xS;split at bj
   .rename_i cr;simp only[dg,hI] at bj;obtain⟨rfl,rfl⟩:=bj;rcases h with ⟨bE,h⟩|⟨bE,n,aI,h⟩
    .cases x<;>simp only[fv,reduceCtorEq] at h;simp[Instr.field,gk hu,xS,asAgg,part,xw bE,h]
    .cases x<;>simp only[fv,reduceCtorEq,dg] at h;subst h;simp[Instr.field,gk hu,xS,asAgg,part,xw bE,q9 cr,aI]
   .cases bj
  .cases bj
 .cases bj
def adb(aP:tg t=.hR e)(h:ia (szT e) x i=J v)(w:World):(Instr.indexAt t x i).run P w=.ok v w:=by
 obtain⟨hu,cr⟩:=tF aP;unfold ia at h;split at h
 .split at h
  .rename_i a len cap k i af;simp only[dg] at h;subst h;simp[Instr.indexAt,gk hu,asIntOf,af,q9 cr]
  .cases h
 .cases h
def ade(aP:tg t=.arr n e)(h:iar n (szT e) x i=J v)(w:World):(Instr.indexAt t x i).run P w=.ok v w:=by
 obtain⟨hu,cr⟩:=OH aP;unfold iar at h;split at h
 .split at h
  .rename_i a k i af;simp only[dg] at h;subst h;simp[Instr.indexAt,gk hu,asIntOf,af,q9 cr,Instr.sureAddr]
  .cases h
 .cases h
def adq(aP:tg t=.str)(h:ixs x i=J v)(w:World):(Instr.index t x i).run P w=.ok v w:=by
 have hu:=w3 aP;unfold ixs at h;split at h
 .split at h
  .rename_i s k i b af;simp only[dg] at h;subst h;simp only[Instr.index,Sem.run_bind,gk hu,Result.andThen_ok,asIntOf,Sem.run_pure,af]
  .cases h
 .cases h
def adp(aP:tg t=.arr n e)(bE:aggT e=J av)(aL:szT e=1)(h:ixa n x i=J v)(w:World):(Instr.index t x i).run P w=.ok v w:=by
 obtain⟨hu,cr⟩:=OH aP;unfold ixa at h;split at h
 .split at h
  .rename_i cs k i af;simp only[Instr.index,Sem.run_bind,gk hu,Result.andThen_ok,asIntOf,Sem.run_pure,aA af,q9 cr,aL,nn];exact ayc bE h w
  .cases h
 .cases h
omit [hz] in
def BK(h:ub y ab d=J l):l=d:=by simpa[ub] using h.symm
def zQ(h:ub y (J v) d=J l)(w:World):(Instr.sliceBound v y c).run P w=.ok l w:=by
 cases v<;>simp only[ub,reduceCtorEq] at h;split at h
 .rename_i af;simp only[dg] at h;subst h;simp[Instr.sliceBound,asIntOf,af]
 .cases h
def agn(aP:tg t=.hR e)(hm:k9.isSome=ai->az.isSome=ai)(h:sl (szT e) x br az k9=J v)(w:World):(Instr.sliceAt t x br az k9).run P w=.ok v w:=by
 obtain⟨hu,cr⟩:=tF aP;unfold sl at h;split at h
 .rename_i a len cap;split at h
  .rename_i m qn;split at h
   .rename_i u x6;split at h
    .rename_i l hr;simp only[dg] at h;subst h;have af:(Instr.sliceBounds ai len cap br az k9).run P w=.ok (l,u,m) w:=by
      cases k9 with
      |none=>
       have aw:=BK qn;subst aw;cases az with
       |none=>
        have ar:=BK x6;subst ar;cases br with
        |none=>have aS:=BK hr;subst aS;simp[Instr.sliceBounds]
        |some l3=>have aS:=λw=>zQ (c:=.sliceB) hr w;simp[Instr.sliceBounds,aS]
       |some ag7=>
        have ar:=λw=>zQ (c:=.sliceAcap) x6 w;cases br with
        |none=>have aS:=BK hr;subst aS;simp[Instr.sliceBounds,ar]
        |some l3=>have aS:=λw=>zQ (c:=.sliceB) hr w;simp[Instr.sliceBounds,ar,aS]
      |some aGR=>
       have aw:=λw=>zQ (c:=.slice3Acap) qn w;cases az with
       |none=>simp at hm
       |some ag7=>
        have ar:=λw=>zQ (c:=.slice3B) x6 w;cases br with
        |none=>have aS:=BK hr;subst aS;simp[Instr.sliceBounds,aw,ar]
        |some l3=>have aS:=λw=>zQ (c:=.slice3C) hr w;simp[Instr.sliceBounds,aw,ar,aS]
     simp[Instr.sliceAt,gk hu,Instr.slice,af,q9 cr]
    .cases h
   .cases h
  .cases h
 .cases h
def ago(aP:tg t=.str)(h:sls x br az=J v)(w:World):(Instr.sliceAt t x br az ab).run P w=.ok v w:=by
 have hu:=w3 aP;unfold sls at h;split at h
 .rename_i s;split at h
  .rename_i u x6;split at h
   .rename_i l hr;simp only[dg] at h;subst h;have af:(Instr.sliceBounds av s.size s.size br az ab).run P w=.ok (l,u,s.size) w:=by
     cases az with
     |none=>
      have ar:=BK x6;subst ar;cases br with
      |none=>have aS:=BK hr;subst aS;simp[Instr.sliceBounds]
      |some l3=>have aS:=λw=>zQ (c:=.sliceB) hr w;simp[Instr.sliceBounds,aS]
     |some ag7=>
      have ar:=λw=>zQ (c:=.sliceAlen) x6 w;cases br with
      |none=>have aS:=BK hr;subst aS;simp[Instr.sliceBounds,ar]
      |some l3=>have aS:=λw=>zQ (c:=.sliceB) hr w;simp[Instr.sliceBounds,ar,aS]
    simp[Instr.sliceAt,gk hu,Instr.slice,af]
   .cases h
  .cases h
 .cases h
def ad2(aP:tg t=.str)(h:q3 x=J v)(w:World):(Builtin.len_ #[t] ty #[x]).run P w=.ok v w:=by
 cases x<;>simp only[q3,reduceCtorEq,dg] at h;subst h;simp[Builtin.len_,gk (w3 aP),goInt]
def ad1(aP:tg t=.hR e)(h:fb x=J v)(w:World):(Builtin.len_ #[t] ty #[x]).run P w=.ok v w:=by
 cases x<;>simp only[fb,reduceCtorEq,dg] at h;subst h;simp[Builtin.len_,gk (tF aP).1,goInt]
def Zz(aP:tg t=.hR e)(h:oM x=J v)(w:World):(Builtin.cap_ #[t] ty #[x]).run P w=.ok v w:=by
 cases x<;>simp only[oM,reduceCtorEq,dg] at h;subst h;simp[Builtin.cap_,gk (tF aP).1,goInt]
def Z9(h:exv i x=J v)(w:World):(Instr.extract x i).run P w=.ok v w:=by
 cases x<;>simp only[exv,reduceCtorEq] at h;simp[Instr.extract,h]
def Zm(aL:tg s=.int j)(aG:tg d=.int k)(h:ci k x=J v)(w:World):(convert s d x).run P w=.ok v w:=by
 cases x<;>simp only[ci,reduceCtorEq,dg] at h;subst h;simp[convert,gk (DO aL),gk (DO aG),Conv.intToInt]
def Zo(aL:tg s=.int j)(aG:tg d=.sm k)(h:yT k x=J v)(w:World):(convert s d x).run P w=.ok v w:=by
 cases x<;>simp only[yT,reduceCtorEq,dg] at h;subst h;simp[convert,gk (DO aL),gk (az2 aG),Conv.intToFloat]
def Zp(aL:tg s=.int j)(aG:tg d=.str)(h:Au x=J v)(w:World):(convert s d x).run P w=.ok v w:=by
 cases x<;>simp only[Au,reduceCtorEq,dg] at h;subst h;simp[convert,gk (DO aL),gk (w3 aG),Conv.intToString]
def BR(h:nz t=ai)(w:World):(zeroValue t).run P w=.ok (pe t) w:=by
 unfold nz at h;cases az:P.info? t with
 |none=>grind
 |some i=>
  simp only[az] at h;obtain⟨z,aV⟩:=D9.1 h;simp[zeroValue,typeInfo,pe,az,aV]
def agC(aV:nz t=ai)(aP:∀d,P.underlying t=J d->(∀ms,d≠.interface ms))(aG:∃d,P.underlying t=J d)(h:ta t (pe t) x=J v)(w:World):
  (Instr.typeAssert x uJ t ai).run P w=.ok v w:=by
 obtain⟨d,aG⟩:=aG;have FB:=aP d aG;unfold ta at h;split at h
 .rename_i u y;simp only[dg] at h;subst h;by_cases e:u=t
  .subst e;cases d<;>first|(exact absurd rfl (FB _))|simp[Instr.typeAssert,gk aG]
  .have c':Nat.beq u t=av:=by
    cases af:Nat.beq u t with
    |false=>rfl
    |true=>simp_all
   cases d<;>first|(exact absurd rfl (FB _))|simp[Instr.typeAssert,gk aG,e,c',BR aV]
 .simp only[dg] at h;subst h;cases d<;>first|(exact absurd rfl (FB _))|simp[Instr.typeAssert,gk aG,BR aV]
 .cases h
def aeg(h:q4 ai x y=J v)(w:World):(Builtin.min_ w5 ty #[x,y]).run P w=.ok v w:=by
 cases x<;>cases y<;>simp only[q4,reduceCtorEq,dg,ei] at h;subst h;simp[Builtin.min_,Builtin.min2]
def ad7(h:q4 av x y=J v)(w:World):(Builtin.max_ w5 ty #[x,y]).run P w=.ok v w:=by
 cases x<;>cases y<;>simp only[q4,reduceCtorEq,dg,uL,lL] at h;subst h;simp[Builtin.max_,Builtin.max2]
end
section
def modify_eq{α:Type}(l:Array α)(b:Nat)(f:α->α)(x:α)(h:l[b]?=J x):l.modify b f=dy l b (f x):=by
 grind
def af0{α:Type}(l:Array α)(b:Nat)(x:α)(h:l[b]?=J x):dy l b x=l:=by
 grind
def set_set{α:Type}(l:Array α)(b:Nat)(x y:α):dy (dy l b x) b y=dy l b y:=by
 grind
def ir(w:World)(h:H):World:={w with heap:=h}
@[simp] def V'(w:World)(h:H):(ir w h).heap=h:=rfl
@[simp] def aBg(w:World)(h h':H):ir (ir w h) h'=ir w h':=rfl
def aBf(w:World):ir w w.heap=w:=rfl
def azj(w:World)(a:Addr)(v:ao)(h:w.heap[a.block]?=J (aO c t b3))(aL:a.spot=ab):
  w.setCell a v=ir w (dy w.heap a.block (aO (dy c a.off v) t b3)):=by
 unfold World.setCell ir;rw[modify_eq _ _ _ _ h];simp[aL]
def Ln(a:Addr)(i:Nat)(aL:a.spot=ab):a.add i=⟨a.block,a.off+i,ab⟩:=by
 unfold Addr.add;split
 .subst_vars;cases a;simp_all
 grind
def Qr{w:World}{c t b3}(h:w.heap[a.block]?=J (aO c t b3))(aL:a.spot=ab):w.cell? a=c[a.off]?:=by
 simp[World.cell?,h,aL]
def zH(vs:List ao):∀(c:Array ao) (o:Nat),ag (ht c o vs)=ag c:=by
 induction vs with
 |nil=>intro c o;rfl
 |cons v vs bR=>intro c o;simp[ht,bR]
def Vd(w:World)(a:Addr):rd w.heap a=w.cell? a:=rfl
variable[hz]
def ad4(aP:aggT t=J av)(h:w.cell? a=J v):(Instr.loadAt t (bU (J a))).run P w=.ok v w:=by
 simp[Instr.loadAt,Instr.sureAddr,loadVar,xw aP,h]
def aws(h:w.heap[a.block]?=J (aO c t b3))(aL:a.spot=ab):∀(n i:Nat) (acc:Array ao),a.off+i+n<=ag c->
  (loadCellsFrom a i n acc).run P w=.ok (acc++c.extract (a.off+i) (a.off+i+n)) w:=by
 intro n;induction n with
 |zero=>intro i acc aI;simp[loadCellsFrom];omega
 |succ n bR=>
  intro i acc aI;have a':a.off+i<ag c:=I
  have ay:w.cell? (a.add i)=J c[a.off+i]:=by
   rw[Ln a i aL,Qr (a:=⟨a.block,a.off+i,ab⟩) h rfl];simp[a']
  simp only[loadCellsFrom,Sem.run_bind,run_load,ay,Result.andThen_ok];rw[bR (i+1) _ I];congr 1
  grind
def T'(h:w.heap[a.block]?=J (aO c t b3))(aL:a.spot=ab)(aI:a.off+n<=ag c):
  (loadCells a n).run P w=.ok (c.extract a.off (a.off+n)) w:=by
 unfold loadCells;rw[aws h aL n 0 #[] I];simp
def awt(aP:aggT t=J ai)(cr:oS t=ai)(h:w.heap[a.block]?=J (aO c e b3))(aL:a.spot=ab)(aI:a.off+szT t<=ag c):
  (Instr.loadAt t (bU (J a))).run P w=.ok (cA (c.extract a.off (a.off+szT t))) w:=by
 simp[Instr.loadAt,Instr.sureAddr,loadVar,xw aP,q9 cr,T' h aL aI]
def ad3(aP:aggT t=J ai)(cr:oS t=ai)(aW:szT t=0):
  (Instr.loadAt t (bU (J a))).run P w=.ok (cA #[]) w:=by
 simp[Instr.loadAt,Instr.sureAddr,loadVar,xw aP,q9 cr,loadCells,loadCellsFrom,aW]
def azJ(aH:one v=ai)(h:w.heap[a.block]?=J (aO c t b3))(aL:a.spot=ab)(aI:a.off<ag c)(bj:a.off<b3.1\/b3.2<=a.off):
  (store a v).run P w=.ok () (ir w (dy w.heap a.block (aO (dy c a.off v) t b3))):=by
 have ay:w.cell? a=J c[a.off]:=by rw[Qr h aL];simp[aI]
 have aV:w.frozen? a=av:=by
  simp only[World.frozen?,h];grind
 rw[<-azj w a v h aL];cases v<;>simp[one] at aH<;>simp[store,Sem.run,ay,aV]
def agw(aL:a.spot=ab):∀(vs:List ao) (i:Nat) (w:World) (c:Array ao) (t:Nat) (b3:Nat×Nat),w.heap[a.block]?=J (aO c t b3)->ones vs=ai->a.off+i+U vs<=ag c->
  (a.off+i+U vs<=b3.1\/b3.2<=a.off+i)->(storeCells a vs i).run P w=.ok () (ir w (dy w.heap a.block (aO (ht c (a.off+i) vs) t b3))):=by
 intro vs;induction vs with
 |nil=>
  intro i w c t b3 h _ _ _;have:=af0 _ _ _ h;simp only[storeCells,ht,this,aBf,Sem.run_pure]
 |cons v vs bR=>
  intro i w c t b3 h aH aI bj;simp only[ones,pf] at aH;simp only[nS] at aI bj;have a':a.block<ag w.heap:=(cm.1 h).1;have aa:=azJ (a:=⟨a.block,a.off+i,ab⟩) aH.1 h rfl al al;simp only[storeCells,Sem.run_bind,Ln a i aL,aa,Result.andThen_ok];have ad:(ir w (dy w.heap a.block (aO (dy c (a.off+i) v) t b3))).heap[a.block]?=J (aO (dy c (a.off+i) v) t b3):=by
   simp_all
  rw[bR (i+1) _ _ t b3 ad aH.2 (by simp;omega) I];simp only[V',aBg,ht,gL,set_set]
omit [hz] in
def LB(v:ao):bC v.cells=cellsL v:=by cases v<;>rfl
def azK(cr:oS t=ai)(au:U (cellsL v)=szT t)(aH:ones (cellsL v)=ai)(h:w.heap[a.block]?=J (aO c e b3))(aL:a.spot=ab)
  (aI:a.off+szT t<=ag c) (bj:a.off+szT t<=b3.1\/b3.2<=a.off):
  (Instr.storeAt t (bU (J a)) v).run P w=.ok () (ir w (dy w.heap a.block (aO (ht c a.off (cellsL v)) e b3))):=by
 have c0:ag v.cells=szT t:=by rw[<-au,<-LB];simp
 simp only[Instr.storeAt,Instr.sureAddr,Sem.run_bind,Sem.run_pure,Result.andThen_ok,storeVar,q9 cr,c0,ne_eq,not_true,lL,Sem.run_ite,LB];rw[agw aL (cellsL v) 0 w c e b3 h aH I I];simp
def Br:(newRow t cs).run P w=.ok ⟨ag w.heap,0,ab⟩ (ir w (a6 w.heap (aO cs t))):=by
 simp[newRow,ir]
omit [hz] in
def Ht(v:ao):v.cells=aZ (cellsL v):=by cases v<;>simp[Value.cells,cellsL]
def aok(aV:nz t=ai):(Instr.alloc t ai (bA #[])).run P w=.ok (bU (J ⟨ag w.heap,0,ab⟩)) (ir w (a6 w.heap (aO (aZ (Z t)) t))):=by
 simp[Instr.alloc,BR aV,newVar,Br,Ht,Z]
def aoJ:(Instr.box t v).run P w=.ok (bU (J ⟨ag w.heap,0,ab⟩)) (ir w (a6 w.heap (aO (aZ (cellsL v)) t))):=by
 simp[Instr.box,newVar,Br,Ht]
def awC:(Instr.makeMap t ab).run P w=.ok (.map (J (ag w.heap))) (ir w (a6 w.heap (.map #[] 0))):=by
 simp[Instr.makeMap,ir]
def awB(aP:tg t=.map k e):(Instr.makeMap t (J (ba j n))).run P w=.ok (.map (J (ag w.heap))) (ir w (a6 w.heap (.map #[] 0))):=by
 simp[Instr.makeMap,ir,gk (OI aP).1,asInt,asIntOf]
end
section
def afh(off:Nat):∀(vs:List ao) (k:Nat) (c:Array ao),(vs.zipIdx k).foldl (λcs (x:ao×Nat)=>dy cs (off+x.2) x.1) c=ht c (off+k) vs
 |[],_,_=>rfl
 |v::vs,k,c=>by
  simp only[List.zipIdx_cons,aBM,ht];rw[afh off vs (k+1)];rfl
def U3:∀(vs:List ao) (a:ao) (l:List ao) (o:Nat),ht (aZ (a::l)) (o+1) vs=aZ (a::bC (ht (aZ l) o vs))
 |[],a,l,o=>by simp[ht]
 |v::vs,a,l,o=>by
  simp only[ht];have:dy (aZ (a::l)) (o+1) v=aZ (a::bC (dy (aZ l) o v)):=a1
  rw[this,U3 vs]
def U5:∀(l:List ao) (o:Nat) (vs:List ao),o+U vs<=U l->ht (aZ l) o vs=aZ (putL l o vs)
 |l,0,[],_=>by cases l<;>rfl
 |a::l,0,v::vs,h=>by
  simp only[ht,putL];have aa:dy (aZ (a::l)) 0 v=aZ (v::l):=a1
  rw[aa,show(0:Nat)+1=0+1 from rfl,U3 vs v l 0,U5 l 0 vs al]
 |[],0,v::vs,h=>by simp at h
 |[],n+1,vs,h=>by simp at h
 |a::l,n+1,vs,h=>by
  rw[U3 vs a l n,U5 l n vs al];rfl
def LX:∀(c9:List (Nat×ao)) (ha:List (Nat×Nat×ao)) (z cs:List ao),
  (∀p∈c9.zip ha,place p.1.1=J (p.2.1,p.2.2.1)/\p.1.2=p.2.2.2)->U c9=U ha->fillL z ha=J cs->Instr.fill place (aZ z) c9=J (aZ cs)
 |[],[],z,cs,_,_,h=>by simp[fillL] at h;subst h;rfl
 |(i,v)::c9,(o,s,u)::ha,z,cs,aJ,au,h=>by
  have aW:=aJ ((i,v),(o,s,u)) a1;simp only at aW;obtain⟨aa,rfl⟩:=aW;simp only[fillL] at h;split at h
  .rename_i af;simp only[pf] at af;have aw:=Ww af.1;have ar:=lK af.2;have c0:ag v.cells=U (cellsL v):=by rw[<-LB];simp
   simp only[Instr.fill,aa,c0,aw];rw[ak (by simp;omega)];have aV:(v.cells.zipIdx.foldl (λcs (x:ao×Nat)=>dy cs (o+x.2) x.1) (aZ z))=aZ (putL z o (cellsL v)):=by
    rw[<-Array.foldl_toList,Array.toList_zipIdx,LB,afh,nm,U5 _ _ _ I]
   rw[aV];exact LX c9 ha _ cs (λp hE=>aJ p (by simp[hE])) al h
  .cases h
 |[],_::_,_,_,_,au,_=>by simp at au
 |_::_,[],_,_,_,au,_=>by simp at au
def tC(n:Nat)(z:List ao):U (repL n z)=n*U z:=by
 induction n with
 |zero=>simp[repL]
 |succ n bR=>simp[repL,bR,Nat.succ_mul,Nat.add_comm]
def afu(z:List ao)(aV:0<U z):∀(n i:Nat),i<n*U z->(repL n z)[i]?=z[i%U z]?
 |0,i,h=>by simp at h
 |n+1,i,h=>by
  simp only[repL];by_cases az:i<U z
  .rw[pV az,GC az]
  .rw[Nat.succ_mul] at h;rw[pg I,afu z aV n _ I,<-Nat.mod_eq_sub_mod I]
def Wh(z:List ao)(n m:Nat)(hm:m=n*U z):(Array.range m).map (λi=>(aZ z)[i%ag (aZ z)]!)=aZ (repL n z):=by
 subst hm;apply aBD;intro i;by_cases az:i<n*U z
 .have aV:0<U z:=by
   grind
  have a':i%U z<U z:=z1 _ aV;simp[az,afu z aV n i az,a']
 .have ad:(aZ (repL n z))[i]?=ab:=by simp[tC];omega
  grind
variable[hz]
def afe:∀mU:List Field,allI mU=ai->mU.mapM (λf=>(P.info? f.type).map λi=>(f.offset,i.size))=J (mU.map λf=>(f.offset,szT f.type))
 |[],_=>rfl
 |f::mU,h=>by
  simp only[allI,pf] at h;have aa:(P.info? f.type).map (λi=>(f.offset,i.size))=J (f.offset,szT f.type):=by
   have:=h.1;unfold oS at this;unfold szT;grind
  simp[List.mapM_cons,aa,afe mU h.2]
def afa(hu:P.underlying s=J (.struct mU)):∀(c9:List (Nat×Operand)) (ha:List (Nat×Nat×ao)),parts s f c9=J ha->
  U c9=U ha/\∀p∈(c9.map λx=>(x.1,ev f x.2)).zip ha,(aZ (mU.toList.map λf=>(f.offset,szT f.type)))[p.1.1]?=J (p.2.1,p.2.2.1)/\p.1.2=p.2.2.2
 |[],ha,h=>by simp[parts] at h;subst h;simp
 |(i,x)::c9,ha,h=>by
  simp only[parts] at h;split at h
  .rename_i o t bj;split at h
   .rename_i l au;simp only[dg] at h;subst h;obtain⟨aa,ad⟩:=afa hu c9 l au;refine⟨by simp[aa],λp aJ=>?_⟩;simp only[kp,List.zip_cons_cons,r9] at aJ;rcases aJ with rfl|aJ
    .refine⟨?_,rfl⟩;simp only[fldT,hu] at bj;grind
    grind
   .cases h
  .cases h
def ahn(h:nz t=ai):∃it,P.info? t=J it/\it.zero=J (pe t):=by
 unfold nz at h;cases az:P.info? t with
 |none=>grind
 |some i=>
  simp only[az] at h;obtain⟨z,aV⟩:=D9.1 h;exact⟨i,rfl,by simp[pe,az,aV]⟩
def Y_{t:Nat}{f:Fr}{c9:Array (Nat×Operand)}{cs:List ao}(aV:nz t=ai)(aP:tg t=.DL)(bj:Q' t=ai)(aJ:parts t f c9.toList=J ha)
  (h:fillL (Z t) ha=J cs) (w:World):(Instr.build t (c9.map λ(i,x)=>(i,ev f x))).run P w=.ok (.agg cs.toArray) w:=by
 obtain⟨mU,hu⟩:=agI aP;obtain⟨it,az,aV⟩:=ahn aV;obtain⟨aa,ad⟩:=afa hu _ _ aJ;have bE:allI mU.toList=ai:=by simpa[Q',hu] using bj
 refine run_build w t _ _ ?_;simp only[Program.built,az,hu,aV,afe mU.toList bE,Ht];have e:((c9.map λ(x:Nat×Operand)=>(x.1,ev f x.2)).toList)=c9.toList.map λx=>(x.1,ev f x.2):=a1
 rw[e];exact LX _ ha (Z t) cs ad (by simp[aa]) h
omit [hz] in
def UU:∀c9:List (Nat×Operand),U c9=U (yf sz f c9)/\∀p∈(c9.map λx=>(x.1,ev f x.2)).zip (yf sz f c9),J (p.1.1*sz,sz)=J (p.2.1,p.2.2.1)/\p.1.2=p.2.2.2
 |[]=>by simp[yf]
 |(i,x)::c9=>by
  obtain⟨aa,ad⟩:=UU (sz:=sz) (f:=f) c9;refine⟨by simp[yf,aa],λp aJ=>?_⟩;simp only[yf,kp,List.zip_cons_cons,r9] at aJ;grind
def Y9{t n e:Nat}{f:Fr}{c9:Array (Nat×Operand)}(aV:nz t=ai)(aP:tg t=.arr n e)
  (h:fillL (Z t) (yf (szT e) f c9.toList)=J cs) (w:World):(Instr.build t (c9.map λ(i,x)=>(i,ev f x))).run P w=.ok (.agg cs.toArray) w:=by
 obtain⟨hu,cr⟩:=OH aP;obtain⟨it,az,aV⟩:=ahn aV;obtain⟨aa,ad⟩:=UU (sz:=szT e) (f:=f) c9.toList;refine run_build w t _ _ ?_;obtain⟨q2,h1⟩:∃q2,P.info? e=J q2:=D9.1 cr;have aL:q2.size=szT e:=by simp[szT,h1]
 simp only[Program.built,az,hu,aV,h1,Ht,aL];have e:((c9.map λ(x:Nat×Operand)=>(x.1,ev f x.2)).toList)=c9.toList.map λx=>(x.1,ev f x.2):=a1
 rw[e];exact LX _ _ (Z t) cs ad (by simp[aa]) h
def P3:(pe t).cells=aZ (Z t):=Ht _
def aoN{t e n:Nat}{f:Fr}{c9:Array (Nat×Operand)}{w:World}(aP:tg t=.hR e)(aV:nz e=ai)(aI:n*szT e<=10000)(au:U (Z e)=szT e)
  (h:fillL (repL n (Z e)) (yf (szT e) f (bC c9))=J cs):
  (Instr.buildSlice t n (c9.map λ(i,x)=>(i,ev f x))).run P w=.ok (a5 (J ⟨ag w.heap,0,ab⟩) n n) (ir w (a6 w.heap (aO (aZ cs) e))):=by
 obtain⟨hu,cr⟩:=tF aP;obtain⟨eb,gS⟩:=UU (sz:=szT e) (f:=f) (bC c9);have he:(bC (c9.map λ(x:Nat×Operand)=>(x.1,ev f x.2)))=c9.toList.map λx=>(x.1,ev f x.2):=a1
 have bj:Instr.fill (λi=>J (i*szT e,szT e)) (aZ (repL n (Z e))) (c9.toList.map λx=>(x.1,ev f x.2))=J (aZ cs):=LX _ _ _ _ gS (by simp[eb]) h;have FQ:n*szT e=0->repL n (Z e)=[]:=λaW=>by apply vF;rw[tC,au,aW]
 have A2:¬n*szT e>2^24:=I
 unfold Instr.buildSlice;simp only[Sem.run_bind,gk hu,Result.andThen_ok,q9 cr,Sem.run_ite];rw[ak A2];split
 .rename_i aW;have aw:(Array.range (n*szT e)).map (λi=>(#[]:Array ao)[i%ag (#[]:Array ao)]!)=aZ (repL n (Z e)):=al
  simp only[Sem.run_pure,Result.andThen_ok,aw,he,bj,Sem.run_bind,Br]
 .rename_i aW;simp only[Sem.run_bind,BR aV,Sem.run_pure,Result.andThen_ok,P3,Wh (Z e) _ _ (show n*szT e=n*U (Z e) by rw[au]),he,bj,Br]
def awD(aP:tg t=.hR e)(aV:nz e=ai)(af:lr e<=200)(aW:0<=l)(aa:l<=c)(ad:c<=1099511627776)(au:U (Z e)=szT e):
  (Instr.makeSlice t (ba .i64 l) (ba .i64 c)).run P w=.ok (a5 (J ⟨ag w.heap,0,ab⟩) l.toNat c.toNat) (ir w (a6 w.heap (aO (aZ (repL c.toNat (Z e))) e))):=by
 obtain⟨hu,cr⟩:=tF aP;obtain⟨q2,h1⟩:∃q2,P.info? e=J q2:=D9.1 cr;have jU:q2.bytes=lr e:=by simp[lr,h1]
 have wl:IntKind.i64.wrap l=l:=by simp only[IntKind.wrap_i64];omega
 have aBd:IntKind.i64.wrap c=c:=by simp only[IntKind.wrap_i64];omega
 have aCT:¬((lr e:Int)*c>2^48):=by
  have:(lr e:Int)*c<=200*c:=Int.mul_le_mul_of_nonneg_right I I;omega
 have asD:(decide (c<0)||decide ((lr e:Int)*c>2^48)||decide (l<0)||decide (l>c))=av:=by
  grind
 have FQ:c.toNat*szT e=0->repL c.toNat (Z e)=[]:=λaW=>by apply vF;rw[tC,au,aW]
 unfold Instr.makeSlice;simp only[Sem.run_bind,gk hu,Result.andThen_ok,asInt,asIntOf,Sem.run_pure,typeInfo,run_program,h1,jU,wl,aBd,asD,uL,lL,run_askRoom,q9 cr,Sem.run_ite];split
 .rename_i aW;have aw:(Array.range 0)=#[]:=rfl;simp[Br,aW,FQ aW,aw]
 .rename_i aW;simp only[BR aV,P3,Result.andThen_ok,Wh (Z e) _ _ (show c.toNat*szT e=c.toNat*U (Z e) by rw[au]),Br]
end
section
def T4[hz](h:lenV x=J n)(w:World):(Builtin.lenOf x).run P w=.ok n w:=by
 cases x<;>simp only[lenV,reduceCtorEq,dg] at h<;>subst h<;>rfl
def JC[hz](h:shown w.heap sz n x=J cs):(Builtin.firstCells sz n x).run P w=.ok cs w:=by
 unfold shown at h;split at h
 .rename_i a _ _;split at h
  .rename_i c t b3 af;split at h
   .rename_i bO;simp only[dg] at h;subst h;simp only[Builtin.firstCells];exact T' af bO.1 bO.2
   .cases h
  .cases h
 .simp only[dg] at h;subst h;rfl
 .simp only[dg] at h;subst h;rfl
 .cases h
def aBs(z:List ao)(n:Nat):Builtin.zeroCells (aZ z) n=aZ (repL n z):=by
 unfold Builtin.zeroCells;have:=Wh z n (n*U z) rfl;omega
def aa6(need c:Nat):∀r,c<=need+(need+768)/4->Builtin.growBy need r c<=need+(need+768)/4\/Builtin.growBy need r c<=c
 |0,_=>bt (bQ _)
 |r+1,h=>by
  simp only[Builtin.growBy];split
  .omega
  .have ad:c+(c+768)/4<=need+(need+768)/4:=I
   rcases aa6 need (c+(c+768)/4) r ad with an|an
   .omega
   omega
def aw4(h:old<need):Builtin.nextslicecap need old<=2*need+192:=by
 unfold Builtin.nextslicecap;split
 .omega
 .split
  .omega
  .rcases aa6 need old 4 I with aa|aa<;>omega
variable[hz]
def aoO(h:oS e=ai):∃q2,P.info? e=J q2/\q2.bytes=lr e/\q2.size=szT e:=by
 obtain⟨q2,h1⟩:∃q2,P.info? e=J q2:=D9.1 h;exact⟨q2,h1,by simp[lr,h1],by simp[szT,h1]⟩
def P_(aP:tg t=.hR e)(hu:(∃ar,tg u=.hR ar)\/tg u=.str)(aL:s=.slice base len cap)
  (c0:szT e=sz) (aI:lenV x=J n) (m0:shown w.heap sz n x=J new) (aF:len+n<=cap)
  (e_:(match base with|some a=>(storeCells (a.add (len*sz)) (bC new)).run P w|none=>Result.ok () w)=.ok () bh):
  (Builtin.append_ #[t,u] ty #[s,x]).run P w=.ok (.slice base (len+n) cap) bh:=by
 obtain⟨IS,cr⟩:=tF aP;subst aL;subst c0;have aG:∃d,P.underlying u=J d/\((∃ar,d=.slice ar)\/d=.string):=by
  rcases hu with ⟨ar,hu⟩|hu
  .exact⟨_,(tF hu).1,.inl ⟨ar,rfl⟩⟩
  .exact⟨_,w3 hu,.inr rfl⟩
 obtain⟨d,aG,gI⟩:=aG;unfold Builtin.append_;rcases gI with ⟨ar,rfl⟩|rfl;all_goals
  simp only[O0,rq,uN,Sem.run_bind,gk IS,Result.andThen_ok,q9 cr,gk aG,Sem.run_pure,uL,lL,T4 aI,aF,ei,aBG,JC m0];cases base with
  |none=>simp_all
  |some a=>simp_all
def aot(aP:tg t=.hR e)(aV:nz e=ai)(hu:(∃ar,tg u=.hR ar)\/tg u=.str)(aL:s=.slice base len cap)
  (c0:szT e=sz) (aI:lenV x=J n) (m0:shown w.heap sz n x=J new) (hold:shown w.heap sz len s=J old) (aF:¬len+n<=cap) (dz:1<=lr e) (af:(len+n)*lr e<=1099511627776) (jU:lr e<=200):
  ∃c:Nat,len+n<=c/\c<9223372036854775808/\∃bh,(Builtin.append_ #[t,u] ty #[s,x]).run P w=.ok (.slice (J ⟨w.heap.size,0,ab⟩) (len+n) c) bh/\e9 w bh/\bh.heap=w.heap.push (.cells (old++new++(repL (c-(len+n)) (Z e)).toArray) e):=by
 obtain⟨IS,cr⟩:=tF aP;have aG:∃d,P.underlying u=J d/\((∃ar,d=.slice ar)\/d=.string):=by
  rcases hu with ⟨ar,hu⟩|hu
  .exact⟨_,(tF hu).1,.inl ⟨ar,rfl⟩⟩
  .exact⟨_,w3 hu,.inr rfl⟩
 obtain⟨d,aG,gI⟩:=aG;obtain⟨q2,h1,as8,Ip⟩:=aoO cr;subst aL;subst c0;have aE3:len+n<=1099511627776:=by
  have:len+n<=(len+n)*lr e:=vG _ dz;omega
 have qV:¬Builtin.nextslicecap (len+n) cap*lr e>2^48:=by
  have aa:=aw4 (need:=len+n) (old:=cap) I;have ad:Builtin.nextslicecap (len+n) cap*lr e<=(2*(len+n)+192)*lr e:=jx _ aa;grind
 have jT:(lr e=0)=False:=eq_false I;have So:(Builtin.nextslicecap (len+n) cap*lr e>2^48)=False:=eq_false qV;have zN:∀w,(typeInfo e).run P w=.ok q2 w:=λw=>by simp[typeInfo,h1]
 let c:Nat:=(Question.appendCap (len+n) cap e).cut (w.tape w.drawn (.appendCap (len+n) cap e))
 have ay:c=len+n+w.tape w.drawn (.appendCap (len+n) cap e)%(2^63-(len+n)):=rfl;have j':w.tape w.drawn (.appendCap (len+n) cap e)%(2^63-(len+n))<2^63-(len+n):=z1 _ I;refine⟨c,I,I,ir {w with drawn:=w.drawn+1} (w.heap.push (.cells (old++new++(repL (c-(len+n)) (Z e)).toArray) e)),?_,⟨rfl,rfl,rfl⟩,rfl⟩;have at5:(Builtin.firstCells (szT e) len (.slice base len cap)).run P {w with drawn:=w.drawn+1}=.ok old {w with drawn:=w.drawn+1}:=JC hold;have atV:(Builtin.firstCells (szT e) n x).run P {w with drawn:=w.drawn+1}=.ok new {w with drawn:=w.drawn+1}:=JC m0;have St:(choose (.appendCap (len+n) cap e)).run P w=.ok c {w with drawn:=w.drawn+1}:=rfl;unfold Builtin.append_;rcases gI with ⟨ar,rfl⟩|rfl;all_goals
  simp only[O0,rq,uN,Sem.run_bind,gk IS,Result.andThen_ok,q9 cr,gk aG,Sem.run_pure,uL,lL,T4 aI,aF,aBG,ei,
   zN,as8,So,jT,and_false,St,run_askRoom,at5,atV,BR aV,P3,aBs,Br,Array.append_assoc,Sem.run_ite,or_self]
def QB(aP:tg t=.hR e)(c0:szT e=sz)(aI:lenV x=J n)(m0:shown w.heap sz (min n dl) x=J new)
  (e_:(match base with|some a=>(storeCells a (bC new)).run P w|none=>Result.ok () w)=.ok () bh):
  (Builtin.copy_ #[t,u] ty #[a5 base dl apb,x]).run P w=.ok (ba .i64 (min n dl:Nat)) bh:=by
 obtain⟨IS,cr⟩:=tF aP;subst c0;unfold Builtin.copy_;simp only[O0,rq,uN,Sem.run_bind,gk IS,Result.andThen_ok,q9 cr,T4 aI];have atW:(Builtin.firstCells (szT e) (Nat.min n dl) x).run P w=.ok new w:=JC m0;simp only[atW,Result.andThen_ok];cases base with
 |none=>simp only[Result.ok.injEq,GH] at e_;subst e_;rfl
 |some a=>simp only at e_;simp only[Sem.run_bind,e_,Result.andThen_ok,Sem.run_pure];rfl
omit [hz] in
def Zc:∀(l:List ao) (iO:List UInt8),bytesOf l=J iO->∃b9:List Int,l=b9.map (Value.int .u8 ·)/\iO=b9.map λn=>UInt8.ofNat n.toNat
 |[],iO,h=>by simp[bytesOf] at h;simp_all
 |v::l,iO,h=>by
  cases v with
  |int k n=>
   cases k<;>simp only[bytesOf,reduceCtorEq] at h;obtain⟨aoK,af,rfl⟩:=yz.1 h;obtain⟨b9,rfl,rfl⟩:=Zc l aoK af;exact⟨n::b9,a1⟩
  |_=>simp[bytesOf] at h
end
section
def foldl_push(b9:List Int):∀acc:ByteArray,b9.foldl (λr n=>r.push (UInt8.ofNat n.toNat)) acc=⟨acc.data++(b9.map λn=>UInt8.ofNat n.toNat).toArray⟩:=by
 induction b9 with
 |nil=>simp_all
 |cons n b9 bR=>
  simp_all
def U2{α:Type}(l:Array α)(x y:α):dy (a6 l x) (ag l) y=a6 l y:=by
 grind
def aox{a b:ByteArray}(h:(a==b)=ai):a=b:=by
 cases a;cases b;rename_i x y;have h':(x==y)=ai:=h;grind
def aoy(a:ByteArray):(a==a)=ai:=by
 cases a;rename_i x;show(x==x)=ai;grind
variable[hz]
def Zh(aL:tg s=.hR e)(he:tg e=.int .u8)(aG:tg d=.str)
  (h:shown w.heap 1 n (.slice (J a) n c)=J cs) (af:bytesOf (bC cs)=J iO):(convert s d (.slice (J a) n c)).run P w=.ok (.string ⟨aZ iO⟩) w:=by
 obtain⟨b9,au,rfl⟩:=Zc _ _ af;rw[run_convert_bytes_string w s d e _ _ _ (tF aL).1 (DO he) (w3 aG)];have fF:(loadCells a n).run P w=.ok (aZ (b9.map (Value.int .u8))) w:=by
  have:=JC h;simp only[Builtin.firstCells,nn] at this;rw[this];congr 1;rw[<-au]
 rw[run_bytesToString w a n c b9 fF,foldl_push];simp
def Zg(aL:tg s=.hR e)(he:tg e=.int .u8)(aG:tg d=.str):(convert s d (.slice ab n c)).run P w=.ok (.string .empty) w:=by
 rw[run_convert_bytes_string w s d e _ _ _ (tF aL).1 (DO he) (w3 aG)];rfl
def ao7(aL:tg s=.str)(aG:tg d=.hR e)(he:tg e=.int .u8)(c0:x.size<=1099511627776):
  ∃c:Nat,x.size<=c/\c<9223372036854775808/\∃bh,(convert s d (.string x)).run P w=.ok (.slice (J ⟨w.heap.size,0,ab⟩) x.size c) bh/\e9 w bh/\
   bh.heap=w.heap.push (.cells ((x.data.map λb=>Value.int .u8 b.toNat)++Array.replicate (c-x.size) (.int .u8 0)) e (c,c+1)):=by
 let c:Nat:=(Question.appendCap x.size 0 e).cut (w.tape w.drawn (.appendCap x.size 0 e))
 have ay:c=x.size+w.tape w.drawn (.appendCap x.size 0 e)%(2^63-x.size):=rfl;have j':w.tape w.drawn (.appendCap x.size 0 e)%(2^63-x.size)<2^63-x.size:=z1 _ I;have St:(choose (.appendCap x.size 0 e)).run P w=.ok c {w with drawn:=w.drawn+1}:=rfl;refine⟨c,I,I,ir {w with drawn:=w.drawn+1} (w.heap.push (.cells ((x.data.map λb=>Value.int .u8 b.toNat)++Array.replicate (c-x.size) (.int .u8 0)) e (c,c+1))),?_,⟨rfl,rfl,rfl⟩,rfl⟩;have aFk:x.data.size=x.size:=rfl;have auS:((x.data.map λb:UInt8=>Value.int .u8 b.toNat)++Array.replicate (c-x.size) (Value.int .u8 0)).size=c:=by
  grind
 simp only[convert,Sem.run_bind,gk (w3 aL),gk (tF aG).1,gk (DO he),Result.andThen_ok,Conv.stringToBytes,St,Br];simp only[V',markStringish,Sem.run_bind,run_shape,Result.andThen_ok,World.shape?,Array.getElem?_push_size,auS,run_freeze,Sem.run_pure];congr 1
 unfold World.freeze ir;simp only[Nat.succ_ne_zero,lL];rw[modify_eq _ _ _ (.cells ((x.data.map λb=>Value.int .u8 b.toNat)++Array.replicate (c-x.size) (.int .u8 0)) e) a1];rw[U2];rfl
omit [hz] in
def aed(s:ByteArray):∀(es:List MapEntry) (i:Nat),Instr.findNow .string (.string s) es i=mfind s es i
 |[],_=>rfl
 |e::es,i=>by
  simp only[Instr.findNow,mfind];cases aq:e.key<;>simp only[Instr.sameNow];rename_i k;cases h:s==k
  .simp[aed s es]
  .simp
def Zk(b:Bool)(d:Nat)(aP:tg ek=.str)(s:ByteArray)(w:World):(Instr.checkKey b (d+1) ek (fo s)).run P w=.ok () w:=by
 simp only[Instr.checkKey,Sem.run_bind,gk (w3 aP),Result.andThen_ok,Sem.run_pure]
def HI(aP:tg ek=.str)(s:ByteArray)(es:List MapEntry)(h:mfind s es 0=J r)(w:World):(Instr.findKey ek (.string s) es).run P w=.ok r w:=by
 simp only[Instr.findKey,Sem.run_bind,gk (w3 aP),Result.andThen_ok,aed,h,Sem.run_pure]
def AH(h:w.heap[r]?=J (.map es clock)):(getObj r).run P w=.ok (.map es clock) w:=by
 simp[getObj,Sem.run,h]
def Mb{r:Nat}{m since seen last}(h:w.heap[r]?=J (.mapIter m since seen last)):(getObj r).run P w=.ok (.mapIter m since seen last) w:=by
 simp[getObj,Sem.run,h]
def afY(h:w.heap[r]?=J o)(ay:∀c e f,o≠aO c e f):(setObj r fc).run P w=.ok () (ir w (dy w.heap r fc)):=by
 cases o<;>first|grind|simp[setObj,Sem.run,h,ir]
def Uk(aP:tg t=.map ek e)(aq:tg ek=.str)(aV:nz e=ai)
  (h:(m=.map ab/\v=pe e)\/∃r es clock,m=.map (J r)/\w.heap[r]?=J (.map es clock)/\((∃i,mfind s (bC es) 0=J (J (i,v)))\/(mfind s (bC es) 0=J ab/\v=pe e))):
  (Instr.lookup t m (fo s) av).run P w=.ok v w:=by
 have hu:=(OI aP).1;have s':∀b,(Instr.checkKey b 10000 ek (fo s)).run P w=.ok () w:=λb=>Zk b 9999 aq s w;rcases h with ⟨rfl,rfl⟩|⟨r,es,clock,rfl,aF,h⟩
 .have bj:(Instr.findKey ek (fo s) (bC (#[]:Array MapEntry))).run P w=.ok ab w:=HI aq s [] rfl w;simp only[Instr.lookup,Sem.run_bind,gk hu,Result.andThen_ok,Sem.run_pure,s',bj,BR aV,uL,lL]
 .rcases h with ⟨i,h⟩|⟨h,rfl⟩
  .simp only[Instr.lookup,Sem.run_bind,gk hu,Result.andThen_ok,Sem.run_pure,AH aF,s',HI aq s _ h,uL,lL]
  .simp only[Instr.lookup,Sem.run_bind,gk hu,Result.andThen_ok,Sem.run_pure,AH aF,s',HI aq s _ h,BR aV,uL,lL]
omit [hz] in
def aec(s:ByteArray):∀(es:List MapEntry) (i j:Nat) (v:ao),mfind s es i=J (J (j,v))->∃e,es[j-i]?=J e/\i<=j/\∃k,e.key=fo k/\(s==k)=ai
 |[],i,j,v,h=>by simp[mfind] at h
 |e::es,i,j,v,h=>by
  simp only[mfind] at h;split at h
  .rename_i k aq;split at h
   .grind
   .obtain⟨c',aa,ad,an⟩:=aec s es (i+1) j v h;grind
  .cases h
omit [hz] in
def azf(n:Nat)(a b:ByteArray):Instr.sameBits n (fo a) (fo b)=(a==b):=by cases n<;>rfl
def aen{t ek e:Nat}{r:Nat}{s:ByteArray}{v:ao}{es:Array MapEntry}{clock:Nat}{w:World}(aP:tg t=.map ek e)(aq:tg ek=.str)(aF:w.heap[r]?=J (.map es clock))(bj:mfind s (bC es) 0=J f):
  (Instr.mapUpdate t (.map (J r)) (fo s) v).run P w=.ok () (ir w (dy w.heap r (match f with
   |J (i,_)=>.map (es.modify i λe=>{e with key:=fo s,val:=v}) clock
   |none=>.map (a6 es {key:=fo s,val:=v,born:=clock}) (clock+1)))):=by
 have hu:=(OI aP).1;have s':∀b,(Instr.checkKey b 10000 ek (fo s)).run P w=.ok () w:=λb=>Zk b 9999 aq s w;have Ni:∀fc,(setObj r fc).run P w=.ok () (ir w (dy w.heap r fc)):=λfc=>afY aF a1;cases f with
 |none=>
  simp only[Instr.mapUpdate,Sem.run_bind,gk hu,Result.andThen_ok,AH aF,s',HI aq s _ bj,Ni]
 |some p=>
  obtain⟨i,u⟩:=p;obtain⟨c',aa,_,k,ql,wG⟩:=aec s _ _ _ _ bj;have aw:((es[i]?).map (·.key)).getD (fo s)=fo k:=by
   grind
  have ar:(Instr.keyThatStays (fo k) (fo s)).run P w=.ok (fo s) w:=by
   have:k=s:=(aox wG).symm;subst this;simp[Instr.keyThatStays,azf,aoy]
  simp only[Instr.mapUpdate,Sem.run_bind,gk hu,Result.andThen_ok,AH aF,s',HI aq s _ bj,aw,ar,Ni]
def afy(aP:tg t=.map ek e)(it:Obj)(h:(m=ab/\it=.mapIter ab 0 #[] 0)\/∃r es clock,m=J r/\w.heap[r]?=J (.map es clock)/\it=.mapIter (J r) clock #[] clock):
  (Instr.range t (.map m)).run P w=.ok (bU (J ⟨ag w.heap,0,ab⟩)) (ir w (a6 w.heap it)):=by
 have hu:=(OI aP).1;rcases h with ⟨rfl,rfl⟩|⟨r,es,clock,rfl,aF,rfl⟩
 .simp[Instr.range,gk hu,ir]
 .simp[Instr.range,gk hu,ir,AH aF]
def apH{r m:Nat}{sp:Option Nat}{seen:Array Nat}{JI:Nat}{es:Array MapEntry}{clock:Nat}{e:MapEntry}{w:World}(aa:w.heap[r]?=J (.mapIter (J m) since seen OE))(ad:seen.back?=J JI)
  (an:w.heap[m]?=J (.map es clock)) (aT:clock=OE) (bN:es.find? (·.born==JI)=J e):
  (Instr.entry (bU (J ⟨r,0,sp⟩))).run P w=.ok (bA #[e.key,e.val]) w:=by
 subst aT;simp[Instr.entry,Mb aa,ad,AH an,bN]
def axp{r:Nat}{sp:Option Nat}{seen:Array Nat}{ty:Nat}{w:World}(aa:w.heap[r]?=J (.mapIter ab since seen last)):
  (Instr.next (bU (J ⟨r,0,sp⟩)) av ty).run P w=.ok (bA #[aQ av]) w:=by
 simp[Instr.next,Mb aa]
def axq{r m:Nat}{sp:Option Nat}{since last:Nat}{seen:Array Nat}{clock:Nat}{ty:Nat}{w:World}(aa:w.heap[r]?=J (.mapIter (J m) since seen last))(an:w.heap[m]?=J (.map es clock))(au:clock=last)(aL:since=clock)(af:∀e,e∈es->e.born<clock):
  ((es.filter λe=>!seen.contains e.born).isEmpty=ai/\∃bh,(Instr.next (bU (J ⟨r,0,sp⟩)) av ty).run P w=.ok (bA #[aQ av]) bh/\e9 w bh/\bh.heap=w.heap)\/
  ((es.filter λe=>!seen.contains e.born).isEmpty=av/\∃e∈es.filter (λe=>!seen.contains e.born),∃bh,(Instr.next (bU (J ⟨r,0,sp⟩)) av ty).run P w=.ok (bA #[aQ ai,e.key,e.val]) bh/\e9 w bh/\bh.heap=dy w.heap r (.mapIter (J m) since (a6 seen e.born) clock)):=by
 subst au;subst aL;have l':(!seen.isEmpty&&!es.isEmpty&&es.all (λe=>decide (e.born≥since)))=av:=by
  cases he:es.isEmpty
  .have:es.all (λe=>decide (e.born≥since))=av:=by
    have bk:0<ag es:=by
     grind
    grind
   simp[this]
  .simp
 have hold:(es.filter λe=>!seen.contains e.born).filter (λe=>decide (e.born<since))=es.filter λe=>!seen.contains e.born:=by
  rw[Array.filter_eq_self];grind
 have m0:(es.filter λe=>!seen.contains e.born).filter (λe=>decide (e.born≥since))=#[]:=by
  rw[Array.filter_eq_empty_iff];grind
 have Ni:∀bh fc,bh.heap=w.heap->(setObj r fc).run P bh=.ok () (ir bh (dy bh.heap r fc)):=λbh fc e=>afY (by rw[e];exact aa) a1;cases asQ:(es.filter λe=>!seen.contains e.born).isEmpty with
 |true=>
  left
  refine⟨rfl,w,?_,⟨rfl,rfl,rfl⟩,rfl⟩;have aW:(es.filter λe=>!seen.contains e.born)=#[]:=al
  rw[aW] at hold m0;unfold Instr.next
  simp only[Sem.run_bind,Mb aa,Result.andThen_ok,AH an];rw[l'];simp only[uL,lL,aW,hold,m0];simp[choose,Sem.run,Question.forced]
 |false=>
  right
  refine⟨rfl,?_⟩;let L:=es.filter λe=>!seen.contains e.born
  have abu:0<ag L:=by
   grind
  have Nf:∀bh (i:Nat) (az:i<ag L),bh.heap=w.heap->(choose (.mapNext (ag L))).run P w=.ok i bh->e9 w bh->
    ∃e∈L,∃bh,(Instr.next (bU (J ⟨r,0,sp⟩)) av ty).run P w=.ok (bA #[aQ ai,e.key,e.val]) bh/\e9 w bh/\bh.heap=dy w.heap r (.mapIter (J m) since (a6 seen e.born) since):=by
   intro bh i az bO ay ov;refine⟨L[i],Array.getElem_mem az,ir bh (dy bh.heap r (.mapIter (J m) since (a6 seen L[i].born) since)),?_,⟨ov.os,ov.tape,ov.output⟩,by simp[bO]⟩;have FL:ag (#[]++(es.filter (λe:MapEntry=>!seen.contains e.born)++#[]).map J:Array (Option MapEntry))=ag L:=by simp[L]
   have as2:(#[]++(es.filter (λe:MapEntry=>!seen.contains e.born)++#[]).map J:Array (Option MapEntry))[i]?=J (J L[i]):=by
    grind
   unfold Instr.next
   simp only[Sem.run_bind,Mb aa,Result.andThen_ok,AH an];rw[l'];simp only[uL,lL,hold,m0,asQ];rw[Sem.run_bind,FL,ay,Result.andThen_ok,as2];simp only[Sem.run_bind,Ni bh _ bO,Result.andThen_ok,Sem.run_pure]
  by_cases mb:ag L<=1
  .exact Nf w 0 abu rfl (by simp[choose,Sem.run,Question.forced,mb]) ⟨rfl,rfl,rfl⟩
  .refine Nf {w with drawn:=w.drawn+1} ((Question.mapNext (ag L)).cut (w.tape w.drawn (.mapNext (ag L)))) ?_ rfl ?_ ⟨rfl,rfl,rfl⟩
   .exact z1 _ abu
   .simp[choose,Sem.run,Question.forced,mb]
end
section
structure Rel(n:Nat)(a:Act)(f:Fr):Prop where
 size:ag a.tmps=n
 defers:a.defers=[]
 slot:∀i,a.tmps.getD i undef=f i
def Rel.ev{n:Nat}{a:Act}{f:Fr}(r:Rel n a f)(x:Operand):a.eval x=ev f x:=by
 cases x<;>simp only[Act.eval,F.ev];exact r.slot _
def Rel.E5(r:Rel n a f):a.eval=F.ev f:=funext r.ev
def Rel.put(r:Rel n a f)(d:Option Tmp)(aG:∀i,d=J i->i<n)(v:ao):Rel n (a.put d v) (fputO f d v):=by
 cases d with
 |none=>exact r
 |some d=>
  have a':=aG d rfl;refine⟨by simp[Act.put,r.size],by simp[Act.put,r.defers],λi=>?_⟩;simp only[Act.put,fputO,Rf];cases af:Nat.beq i d with
  |true=>
   have e:=Ww af;subst e;simp[r.size,a']
  |false=>
   have e:i≠d:=λe=>m8
   rw[<-r.slot i];simp[Array.getElem?_setIfInBounds_ne (O9 e)]
def Good(E:List (ao×Nat))(w bh:World):Prop:=
 ∀x∈E,∀b,x.1=bU (J b)->∀i,i<x.2->∀v,w.cell? (b.add i)=J v->bh.cell? (b.add i)=J v
def Good.refl(E w):Good E w w:=λ_ _ _ _ _ _ _ h=>h
def Good.nil:Good [] w bh:=λ_ h=>by cases h
def Good.ext(h:aB w.heap bh.heap):Good E w bh:=λx _ b _ i _ v aD=>by
 have a':(b.add i).block<ag w.heap:=by
  rcases jw (b.add i).block (ag w.heap) with h'|h'
  .exact h'
  .simp[World.cell?,ahp h'] at aD
 simp only[World.cell?] at aD⊢;rw[h.2 _ a'];exact aD
def Good.keep:∀{E:List (ao×Nat)} {w bh:World},wN E w.heap bh.heap->Good E w bh
 |[],_,_,_=>Good.nil
 |(p,m)::r,w,bh,aq=>λx ae b af i az v aD=>by
  rcases r9.1 ae with rfl|ae
  .have aa:=aq.1;simp only at af az;subst af;exact aa i az v aD
  .exact Good.keep aq.2 x ae b af i az v aD
def aB.push(h:H)(o:Obj):aB h (a6 h o):=⟨a1,λb af=>al⟩
def aB.refl(h:H):aB h h:=⟨bQ _,λ_ _=>rfl⟩
def iM(o:Oper)(a:Act)(E:List (ao×Nat))(w:World)(k:K):Act->World->Prop:=
 λbM bh=>∃v,bM=a.put o.dst v/\e9 w bh/\Good E w bh/\k v bh.heap
variable[hz]{n:Nat}{a:Act}{f:Fr}{Q:Exit->Act->World->Prop}{E:List (ao×Nat)}{k:K}{w:World}
def sk(r:Rel n a f)(s:Sem ao)(he:execOp (ev f) o=(do pure (.value (<-s))))(aL:s.run P w=.ok v bh)(aa:e9 w bh)(ad:Good E w bh)(an:k v bh.heap):
  o.wp P a w (iM o a E w k) Q:=by
 unfold Oper.wp;rw[r.E5,he];simp only[Sem.run_bind,aL,Result.andThen_ok,Sem.run_pure,Oper.upon_value];exact⟨v,rfl,aa,ad,an⟩
def iz(r:Rel n a f)(s:Sem ao)(he:execOp (ev f) o=(do pure (.value (<-s))))(aL:s.run P w=.ok v w)(an:k v w.heap):
 o.wp P a w (iM o a E w k) Q:=sk r s he aL ⟨rfl,rfl,rfl⟩ (Good.refl _ _) an
def L0(r:Rel n a f)(s:Sem Unit)(he:execOp (ev f) o=(do s;pure .skip))(aL:s.run P w=.ok () bh)(aa:e9 w bh)(ad:Good E w bh)(an:k undef bh.heap):
  o.wp P a w (iM o a E w k) Q:=by
 unfold Oper.wp;rw[r.E5,he];simp only[Sem.run_bind,aL,Result.andThen_ok,Sem.run_pure,Oper.upon_skip];exact⟨undef,rfl,aa,ad,an⟩
def HH(r:Rel n a f)(he:(execOp (ev f) o).run P w=.ok (.enter g (aZ args)) w)(ay:bo g args w.heap λv h'=>(E≠[]->aB w.heap h')/\k v h'):
  o.wp P a w (iM o a E w k) Q:=by
 unfold Oper.wp;rw[r.E5,he,Oper.upon_enter];refine(ay w rfl).mono λe bh he=>?_;obtain⟨⟨v,rfl,aa,ad⟩,an⟩:=he;refine⟨v,rfl,an,?_,ad⟩;cases E with
 |nil=>exact Good.nil
 |cons=>exact Good.ext (aa a1)
def ap4(r:Rel n a f)(he:(execOp (ev f) o).run P w=.ok (.enter g (aZ args)) w)(ay:bo g args w.heap λv h'=>wN E w.heap h'/\k v h'):
  o.wp P a w (iM o a E w k) Q:=by
 unfold Oper.wp;rw[r.E5,he,Oper.upon_enter];refine(ay w rfl).mono λe bh he=>?_;obtain⟨⟨v,rfl,aa,ad⟩,an⟩:=he;exact⟨v,rfl,an,Good.keep aa,ad⟩
omit [hz] in
def gy(aJ:Pu o h k):∃v,o=J v/\k v h:=by
 unfold Pu at aJ;grind
omit [hz] in
def tD(w:World)(h:H):e9 w (ir w h):=⟨rfl,rfl,rfl⟩
def tx:Prop:=∀(g:Nat) fn,P.funcs[g]?=J fn->fn.name≠ "runtime.NumGoroutine"
def Qp(aI:tx)(af:bodyB g=ai)(args:Array ao)(w:World):(callFunc g args).run P w=.ok (.enter g args) w:=by
 unfold bodyB at af;cases bj:P.funcs[g]? with
 |none=>grind
 |some fn=>
  simp only[bj] at af;obtain⟨c,ay⟩:=D9.1 af;have aa:=aI g fn bj;simp[callFunc,bj,aa,ay]
omit [hz] in
def Q5(f:Fr):∀l:List Operand,evs f l=l.map (ev f)
 |[]=>rfl
 |x::l=>by simp[evs,Q5 f l]
omit [hz] in
def AE(f:Fr)(l:Array Operand):aZ (evs f (bC l))=l.map (ev f):=by apply Array.ext';simp[Q5]
def bo.mono(c:bo g args h R)(aF:∀v h',R v h'->Ew v h'):bo g args h Ew:=
 λw hw=>(c w hw).mono λ_ _ ⟨⟨v,he,aD⟩,aL⟩=>⟨⟨v,he,aF _ _ aD⟩,aL⟩
def afM{a:Addr}{c:Array ao}{t:Nat}{b3:Nat×Nat}{off sz m:Nat}(h:w.heap[a.block]?=J (aO c t b3))(aL:a.spot=ab)(aH:ones vs=ai)(au:U vs=m*sz)(aI:a.off+off+m*sz<=ag c)
  (bj:a.off+off+m*sz<=b3.1\/b3.2<=a.off+off):(storeCells (a.add off) vs).run P w=.ok () (ir w (dy w.heap a.block (aO (ht c (a.off+off) vs) t b3))):=by
 rw[Ln a off aL];have:=agw (a:=⟨a.block,a.off+off,ab⟩) rfl vs 0 w c t b3 h aH al al;omega
def WC(aP:tg t=.hR e)(aV:nz e=ai)(hu:(∃ar,tg u=.hR ar)\/tg u=.str)(af:lr e<=200)(dz:1<=lr e)(aCE:U (Z e)=szT e)(h:Ap e (szT e) (lr e) (Z e) s x w.heap k)(ty:Nat):
  ∃v bh,(Builtin.append_ #[t,u] ty #[s,x]).run P w=.ok v bh/\e9 w bh/\k v bh.heap:=by
 unfold Ap at h;split at h
 .rename_i base len cap n aI;split at h
  .rename_i new m0;obtain⟨aH,c0,h⟩:=h;have hlen:U (bC new)=n*szT e:=I
   split at h
   .rename_i aF;split at h
    .rename_i a;split at h
     .have bP:bC new=[]:=al
      exact⟨_,w,P_ aP hu rfl rfl aI m0 aF (by simp only;rw[bP];rfl),⟨rfl,rfl,rfl⟩,I⟩
     .split at h
      .rename_i c eO b3 qU;obtain⟨aL,ly,bj,aq⟩:=h;rw[zY] at ly bj;exact⟨_,_,P_ aP hu rfl rfl aI m0 aF (afM qU aL aH hlen I I),tD _ _,aq⟩
      grind
    .exact⟨_,w,P_ aP hu rfl rfl aI m0 aF rfl,⟨rfl,rfl,rfl⟩,h⟩
   .rename_i aF;split at h
    .rename_i old hold;obtain⟨_,jU,h⟩:=h;obtain⟨c,aa,ad,bh,an,aT,bN⟩:=aot (ty:=ty) aP aV hu rfl rfl aI m0 hold aF dz jU af;grind
    grind
  grind
 grind
def aj8(aP:tg t=.hR e)(h:vK (szT e) d s w.heap k)(u ty:Nat):
  ∃v bh,(Builtin.copy_ #[t,u] ty #[d,s]).run P w=.ok v bh/\e9 w bh/\k v bh.heap:=by
 unfold vK at h;split at h
 .rename_i base dl apb sl aI;split at h
  .rename_i new m0;obtain⟨aH,c0,h⟩:=h;have hlen:U (bC new)=min sl dl*szT e:=I
   split at h
   .rename_i a;split at h
    .rename_i aW;have bP:bC new=[]:=m8
     exact⟨_,w,QB aP rfl aI m0 (by simp only;rw[bP];rfl),⟨rfl,rfl,rfl⟩,al⟩
    .rename_i m hm;split at h
     .rename_i c eO b3 qU;obtain⟨aL,ly,bj,aq⟩:=h;have e_:=afM (off:=0) (m:=min sl dl) qU aL aH hlen I I;rw[show a.add 0=a by simp[Addr.add]] at e_;exact⟨_,_,QB aP rfl aI m0 e_,tD _ _,aq⟩
     grind
   .exact⟨_,w,QB aP rfl aI m0 rfl,⟨rfl,rfl,rfl⟩,h⟩
  grind
 grind
def XB(aI:tx)(h:Ci x name args w.heap k):
  ∃g as,(callMethod x name (aZ args)).run P w=.ok (.enter g (aZ as)) w/\bo g as w.heap k:=by
 unfold Ci at h;split at h
 .rename_i t v;obtain⟨g,nK,hm,af,ay⟩:=h;have dN:bodyB g=ai:=by
   unfold bodyB;grind
  refine⟨g,nK::args,?_,ay⟩;simp only[callMethod,Sem.run_bind,run_program,Result.andThen_ok,hm];have e:#[nK]++aZ args=aZ (nK::args):=a1
  rw[e];exact Qp aI dN _ w
 grind
def call_sound(aI:tx)(r:Rel n a f){o:Oper}(aH:o.op=.call c)(h:callW E f c w.heap k):o.wp P a w (iM o a E w k) Q:=by
 have ae:execOp (ev f) o=(do let d<-resolve (ev f) c o.type;invoke d.target d.args):=by
  obtain⟨dst,op,type,pos,after,guard⟩:=o;subst aH;rfl
 unfold callW at h;split at h
 .rename_i b n1;have aF:∀(dP:Builtin),dP=b->execOp (ev f) o=builtin dP c.argTypes o.type (c.args.map fun| .const _=>ai|_=>av) (c.args.map (ev f)):=by
   intro dP af;subst af;rw[ae];simp only[resolve,n1];rfl
  have two:∀(l:List Operand),bC c.args=l->c.args=aZ l:=λl h=>by rw[<-h]
  have DQ:∀(l:List TypeId),bC c.argTypes=l->c.argTypes=aZ l:=λl h=>by rw[<-h]
  split at h
  .rename_i x t pC wJ;have e:=aF .len rfl;rw[two _ pC,DQ _ wJ] at e;simp only[BX,kp,ru,builtin] at e;split at h
   .rename_i aP;obtain⟨v,aD,aq⟩:=gy h;exact iz r (Builtin.len_ #[t] o.type #[ev f x]) e (ad2 aP aD w) aq
   .rename_i ar aP;obtain⟨v,aD,aq⟩:=gy h;exact iz r (Builtin.len_ #[t] o.type #[ev f x]) e (ad1 aP aD w) aq
   grind
  .rename_i x t pC wJ;have e:=aF .cap rfl;rw[two _ pC,DQ _ wJ] at e;simp only[BX,kp,ru,builtin] at e;split at h
   .rename_i ar aP;obtain⟨v,aD,aq⟩:=gy h;exact iz r (Builtin.cap_ #[t] o.type #[ev f x]) e (Zz aP aD w) aq
   grind
  .rename_i s x t u pC wJ;have e:=aF .append rfl;rw[two _ pC,DQ _ wJ] at e;simp only[BX,kp,ru,builtin] at e;split at h
   .rename_i ar aP;split at h
    .rename_i aV;simp only[pf] at aV;have hu:(∃ar,tg u=.hR ar)\/tg u=.str:=by
      grind
     cases E with
     |nil=>
      have h':Ap ar (szT ar) (lr ar) (Z ar) (ev f s) (ev f x) w.heap k:=by
       grind
      obtain⟨v,bh,aa,ad,an⟩:=WC aP aV.1.1.1 hu (lK aV.1.2) (lK aV.1.1.2) (Ww aV.2) h' o.type;exact sk r (Builtin.append_ #[t,u] o.type #[ev f s,ev f x]) e aa ad Good.nil an
     |cons y E=>
      have h':Ap ar (szT ar) (lr ar) (Z ar) (ev f s) (ev f x) w.heap λv h'=>wN (y::E) w.heap h'/\k v h':=by
       split at h
       .exact h
       .exact h
       grind
      obtain⟨v,bh,aa,ad,an⟩:=WC aP aV.1.1.1 hu (lK aV.1.2) (lK aV.1.1.2) (Ww aV.2) h' o.type;exact sk r (Builtin.append_ #[t,u] o.type #[ev f s,ev f x]) e aa ad (Good.keep an.1) an.2
    grind
   grind
  .rename_i s x t u pC wJ;have e:=aF .copy rfl;rw[two _ pC,DQ _ wJ] at e;simp only[BX,kp,ru,builtin] at e;split at h
   .rename_i ar aP;have h':vK (szT ar) (ev f s) (ev f x) w.heap k:=by
     grind
    obtain⟨v,bh,aa,ad,an⟩:=aj8 aP h' u o.type;exact sk r (Builtin.copy_ #[t,u] o.type #[ev f s,ev f x]) e aa ad Good.nil an
   grind
  .rename_i x y pC;have e:=aF .min rfl;rw[two _ pC] at e;simp only[BX,kp,ru,builtin] at e;obtain⟨v,aD,aq⟩:=gy h;exact iz r (Builtin.min_ c.argTypes o.type #[ev f x,ev f y]) e (aeg aD w) aq
  .rename_i x y pC;have e:=aF .max rfl;rw[two _ pC] at e;simp only[BX,kp,ru,builtin] at e;obtain⟨v,aD,aq⟩:=gy h;exact iz r (Builtin.max_ c.argTypes o.type #[ev f x,ev f y]) e (ad7 aD w) aq
  grind
 .rename_i g n1;have aF:∀w,(execOp (ev f) o).run P w=(callFunc g (c.args.map (ev f))).run P w:=by
   intro w;rw[ae];simp[resolve,n1,ev,Deferred.ofValue,invoke]
  split at h
  .rename_i af;have he:(execOp (ev f) o).run P w=.ok (.enter g (aZ (evs f (bC c.args)))) w:=by rw[aF,AE];exact Qp aI af _ w
   split at h
   .exact HH r he (bo.mono h λv h' aq=>⟨λbk=>(bk rfl).elim,aq⟩)
   .split at h
    .exact ap4 r he h
    .exact HH r he (bo.mono h λv h' aq=>⟨λ_=>aq.1,aq.2⟩)
  .obtain⟨fn,v,_,_,aD,aq⟩:=h;have he:(execOp (ev f) o).run P w=.ok (.value v) w:=by rw[aF,<-AE];exact aD w
   unfold Oper.wp;rw[r.E5,he,Oper.upon_value];exact⟨v,rfl,⟨rfl,rfl,rfl⟩,Good.refl _ _,aq⟩
 .rename_i x n1;split at h
  .exact h.elim
  .unfold Cv at h;split at h
   .rename_i fn g first captured as1
    obtain⟨af,ay⟩:=h;have dN:bodyB g=ai:=by
     unfold bodyB;grind
    have he:(execOp (ev f) o).run P w=.ok (.enter g (aZ (bC first++evs f (bC c.args)++bC captured))) w:=by
     rw[ae];have e:aZ (bC first++evs f (bC c.args)++bC captured)=first++c.args.map (ev f)++captured:=by
      rw[Q5];grind
     rw[e];simp only[resolve,n1,as1,Deferred.ofValue,Sem.run_bind,Sem.run_pure,Result.andThen_ok,invoke];exact Qp aI dN _ w
    exact HH r he (bo.mono ay λv h' aq=>⟨λbk=>(bk rfl).elim,aq⟩)
   grind
 .rename_i x name n1;have aF:∀w,(execOp (ev f) o).run P w=(callMethod (ev f x) name (c.args.map (ev f))).run P w:=by
   intro w;rw[ae];simp only[resolve,n1,Sem.run_bind,Sem.run_pure,Result.andThen_ok,invoke];have aw:(#[ev f x]++c.args.map (ev f))[0]?=J (ev f x):=al
   have ar:(#[ev f x]++c.args.map (ev f)).extract 1 (ag (#[ev f x]++c.args.map (ev f)))=c.args.map (ev f):=by
    simp_all
   grind
  split at h
  .obtain⟨g,as,aa,ad⟩:=XB aI h;rw[AE] at aa;exact HH r ((aF w).trans aa) (bo.mono ad λv h' aq=>⟨λbk=>(bk rfl).elim,aq⟩)
  .obtain⟨g,as,aa,ad⟩:=XB aI h;rw[AE] at aa;exact HH r ((aF w).trans aa) (bo.mono ad λv h' aq=>⟨λ_=>aq.1,aq.2⟩)
end
