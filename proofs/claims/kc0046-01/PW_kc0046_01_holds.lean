import PyProof.Rows.All
import Wide.All
import OpenK.AllK
import Wide.FinOn
import PySem.Challenge.RW_kc0046_01
open PySem PySem.W PySem.Calls PyProof.Rows
set_option linter.all false
set_option genSizeOf false
set_option genCtorIdx false
set_option compiler.extract_closed false
set_option backward.match.sparseCases false
set_option genInjectivity false
set_option tactic.hygienic false
set_option bootstrap.genMatcherCode false
set_option maxRecDepth 100000
set_option maxHeartbeats 8000000
set_option Elab.async false
noncomputable section
namespace QF
def tS (k:Lean.Name) (s:Array Lean.Syntax):Lean.Syntax:=.node .none `Lean.Parser.Tactic.tacticSeq #[.node .none `Lean.Parser.Tactic.tacticSeq1Indented #[.node .none `null #[.node .none k s]]]
def rf:=tS `Lean.Parser.Tactic.tacticRfl #[.atom .none "rfl"]
def kr:=tS `tacticKernel_rfl #[.atom .none "kernel_rfl"]
def dc:=tS `Lean.Parser.Tactic.decide #[.atom .none "decide",.node .none `Lean.Parser.Tactic.optConfig #[.node .none `null #[]]]
def Bl:=@List.mem_append_right
def D4:=@List.flatten_cons
def Lf:=@List.mem_append_left
def L0:=@Option.some_ne_none
def SF:=@List.nodup_append
def Sa:=@Nat.le_of_ble_eq_true
def Ti:=@decide_eq_true
def To:=@Nat.le_refl
def T1:=@Or.elim
def U1:=@Nat.lt_or_ge
def U2:=@wpAny_bind
def X1:=@List.mem_append
def bK:=@decide_eq_false
def bL:=@List.nodup_cons
def bM:=@List.mem_cons
def bN:=@Bool.and_eq_true_iff
def bO:=@List.mem_singleton
def bP:=@Option.map_eq_some_iff
def bQ:=@Option.bind_eq_some_iff
def bR:=@Nat.mod_lt
def bS:=@bne_iff_ne
def bU:=@of_decide_eq_true
def bV:=@Bool.and_eq_true
def bW:=@Nat.le_trans
def bX:=@Int.natCast_nonneg
def bY:=@List.getElem?_eq_some_iff
def bZ:=@wpAny_pure
def b0:=@decide_eq_true_iff
def b4:=@beq_eq_false_iff_ne
def b5:=@if_neg
def b7:=@List.length_map
def b8:=@List.size_toArray
def b9:=@List.mem_filter
def cA:=@if_pos
def cB:=@List.getElem?_eq_getElem
def cC:=@Nat.lt_trichotomy
def cD:=@beq_iff_eq
def cE:=@List.length_append
def cF:=@Bool.eq_iff_iff
def cG:=@List.length_pos_iff
def cI:=@beq_self_eq_true
def cJ:=@List.length_cons
def cK:=@Nat.le_of_lt
def cL:=@Int.toNat_natCast
def cN:=@sizeLine_eq
def cO:=@Nat.zero_le
def cP:=@List.any_cons
def cS:=@Heap.get?_push_of_some
def cT:=@congrArg
def cU:=@wpAny_loadPart_at
def cV:=@Nat.add_mod_right
def cX:=@List.eq_nil_of_length_eq_zero
def cY:=@Nat.lt_irrefl
def cZ:=@Ne.symm
def cb:=@List.append_nil
def cg:=@wpAny_mono
def cj:=@Nat.lt_of_lt_of_le
def ck:=@List.mem_of_getElem?
def cm:=@Bool.or_eq_false_iff
def cq:=@Nat.lt_of_succ_lt
def cu:=@List.getD_eq_getElem?_getD
def cv:=@List.find?_cons_of_neg
def cw:=@Option.some.inj
def cy:=@wpAny_execs_cons
def cz:=@wpAny_holding
def c0:=@Around.frames_deeper
def c5:=@Sem.bind_eq_wrap'
def c6:=@List.append_assoc
def c7:=@List.nil_append
def c8:=@Int.natCast_mul
def c9:=@PySem.wpAt_of_wpAny
def dB:=@Nat.lt_succ_self
def dC:=@List.nodup_nil
def dD:=@Bool.false_eq_true
def dF:=@Array.getElem?_eq_some_iff
def dG:=@List.getElem?_eq_none
universe u
@[elab_as_elim] theorem rE {c:Sort u}{a b:c}{motive:c->Prop}(h:a=b) (t:motive b):motive a:=h▸t
@[elab_as_elim] theorem rE2 {f e:Sort u}{a b:f}{c d:e}{motive:f->e->Prop}(h:a=b) (g:c=d) (t:motive b d):motive a c:=h▸g▸t
@[elab_as_elim] theorem rE3 {j i g:Sort u}{a b:j}{c d:i}{e f:g}{motive:j->i->g->Prop}(h:a=b) (l:c=d) (k:e=f) (t:motive b d f):motive a c e:=h▸l▸k▸t
@[elab_as_elim] theorem rE4 {m j i g:Sort u}{a b:m}{c d:j}{e f:i}{k l:g}{motive:m->j->i->g->Prop}(h:a=b) (p:c=d) (o:e=f) (n:k=l) (t:motive b d f l):motive a c e k:=h▸p▸o▸n▸t
@[elab_as_elim] theorem rS {c:Sort u}{a b:c}{motive:c->Prop}(h:b=a) (t:motive b):motive a:=h▸t
@[elab_as_elim] theorem iP {i:Decidable c}{d:Sort u}{a b:d}{motive:d->Prop}(h:c) (t:motive a):motive (ite c a b):=rE (cA h) t
@[elab_as_elim] theorem iN {i:Decidable c}{d:Sort u}{a b:d}{motive:d->Prop}(h:¬ c) (t:motive b):motive (ite c a b):=rE (b5 h) t
@[elab_as_elim] theorem bE {motive:Bool->Prop}(b:Bool) (f:b=false->motive false) (t:b=true->motive true):motive b:=Bool.rec (motive:=fun x=>b=x->motive x) f t b rfl
@[elab_as_elim] theorem bT {motive:Bool->Prop}(b:Bool) (t:b=true->motive true) (f:b=false->motive false):motive b:=bE b f t
@[elab_as_elim] theorem oE {a:Type u}{motive:Option a->Prop}(b:Option a) (f:b=none->motive none) (t:∀ x,b=some x->motive (some x)):motive b:=Option.rec (motive:=fun x=>b=x->motive x) f t b rfl
@[elab_as_elim] theorem oT {a:Type u}{motive:Option a->Prop}(b:Option a) (t:∀ x,b=some x->motive (some x)) (f:b=none->motive none):motive b:=oE b f t
@[elab_as_elim] theorem lE' {a:Type u}{motive:List a->Prop}(b:List a) (f:b=[]->motive []) (t:∀ x l,b=x::l->motive (x::l)):motive b:=match b,f,t with | [],f,_=>f rfl|x::l,_,t=>t x l rfl
end QF
namespace LA
inductive LT where
 |v (i:Nat)|c (k:Nat)|a (x y:LT)|m (k:Nat) (x:LT)|r (k:Nat) (x:LT)
inductive LZ where
 |n (t:LT)|i (k:Nat)|a (x y:LZ)|s (x y:LZ)|g (x:LZ)|m (k:Nat) (x:LZ)|r (k:Nat) (x:LZ)
inductive LP where
 |le (x y:LT)|lt (x y:LT)|eq (x y:LT)|zle (x y:LZ)|zlt (x y:LZ)|zeq (x y:LZ)
 |no (p:LP)|an (p q:LP)|or (p q:LP)|im (p q:LP)|sb (w x y:LT)|dm (q r x:LT) (k:Nat)|f
noncomputable def LT.den (c:List Nat):LT->Nat
 |.v i=>c.getD i 0|.c k=>k|.a x y=>x.den c+y.den c|.m k x=>k*x.den c|.r k x=>x.den c*k
noncomputable def LZ.den (c:List Nat) (d:List Int):LZ->Int
 |.n t=>(t.den c:Nat)|.i k=>d.getD k 0|.a x y=>x.den c d+y.den c d|.s x y=>x.den c d-y.den c d|.g x=>- x.den c d|.m k x=>(k:Nat)*x.den c d|.r k x=>x.den c d*(k:Nat)
noncomputable def LP.den (c:List Nat) (d:List Int):LP->Prop
 |.le x y=>x.den c<=y.den c|.lt x y=>x.den c<y.den c|.eq x y=>x.den c=y.den c
 |.zle x y=>x.den c d<=y.den c d|.zlt x y=>x.den c d<y.den c d|.zeq x y=>x.den c d=y.den c d
 |.no p=>¬ p.den c d|.an p q=>p.den c d/\q.den c d|.or p q=>p.den c d\/q.den c d|.im p q=>p.den c d->q.den c d
 |.sb w x y=>w.den c=x.den c-y.den c|.dm q r x k=>x.den c/k=q.den c/\x.den c%k=r.den c|.f=>False
noncomputable def Cu:List Nat->List Nat->List Nat
 |a::x,b::y=>(a+b)::Cu x y | [],y=>y|x,[]=>x
noncomputable def D3 (k:Nat) (l:List Nat):List Nat:=l.map (k * ·)
noncomputable def lAt:Nat->List Nat
 |0=>[1]|i+1=>0::lAt i
noncomputable def lEv:List Nat->List Nat->Nat
 |a::x,b::y=>a*b+lEv x y|_,_=>0
noncomputable def LT.lin (n:Nat):LT->List Nat
 |.v i=>bif Nat.blt i n then lAt (i+1)else[]|.c k=>[k]|.a x y=>Cu (x.lin n) (y.lin n)|.m k x=>D3 k (x.lin n)|.r k x=>D3 k<|x.lin n
noncomputable def LZ.lin (n:Nat):LZ->List Nat×List Nat
 |.n t=>(t.lin n,[])|.i k=>(lAt<|n+1+2*k,lAt<|n+2+2*k)
 |.a x y=>(Cu (x.lin n).1 (y.lin n).1,Cu (x.lin n).2 (y.lin n).2)|.s x y=>(Cu (x.lin n).1 (y.lin n).2,Cu (x.lin n).2 (y.lin n).1)
 |.g x=>((x.lin n).2,(x.lin n).1)|.m k x=>(D3 k (x.lin n).1,D3 k (x.lin n).2)|.r k x=>(D3 k (x.lin n).1,D3 k (x.lin n).2)
noncomputable abbrev LC:=List Nat×List Nat
noncomputable def GZ:List Nat:=[1]
noncomputable def MN (x y:List<|List LC):List (List LC):=x.flatMap fun a=>y.map fun b=>a++b
def zc (n:Nat) (x y:LZ) (k:List Nat):LC:=(Cu k<|Cu (x.lin n).1 (y.lin n).2,Cu (y.lin n).1 (x.lin n).2)
noncomputable def LP.alt (n:Nat):Bool->LP->List (List LC)
 |true,.le x y=>[[((x.lin n),(y.lin n))]]
 |false,.le x y=>[[(Cu GZ<|y.lin n,(x.lin n))]]
 |true,.lt x y=>[[(Cu GZ<|x.lin n,(y.lin n))]]
 |false,.lt x y=>[[((y.lin n),(x.lin n))]]
 |true,.eq x y=>[[((x.lin n),(y.lin n)),((y.lin n),(x.lin n))]]
 |false,.eq x y=>[[(Cu GZ<|x.lin n,(y.lin n))],[(Cu GZ<|y.lin n,(x.lin n))]]
 |true,.zle x y=>[[zc n x y []]]
 |false,.zle x y=>[[zc n y x GZ]]
 |true,.zlt x y=>[[zc n x y GZ]]
 |false,.zlt x y=>[[zc n y x []]]
 |true,.zeq x y=>[[zc n x y [],zc n y x []]]
 |false,.zeq x y=>[[zc n x y GZ],[zc n y x GZ]]
 |b,.no p=>p.alt n<|!b
 |true,.an p q=>MN (p.alt n true)<|q.alt n true
 |false,.an p q=>p.alt n false++q.alt n false
 |true,.or p q=>p.alt n true++q.alt n true
 |false,.or p q=>MN (p.alt n false)<|q.alt n false
 |true,.im p q=>p.alt n false++q.alt n true
 |false,.im p q=>MN (p.alt n true)<|q.alt n false
 |true,.sb w x y=>[[((x.lin n),(y.lin n)),((w.lin n),[])],[((y.lin n),(x.lin n)),(Cu (w.lin n)<|y.lin n,(x.lin n)),((x.lin n),Cu (w.lin n)<|y.lin n)]]
 |false,.sb _ _ _=>[[]]
 |true,.dm q r x k=>match k with
  |0=>[[]]
  |k+1=>[[((x.lin n),Cu (D3 (k+1)<|q.lin n)<|r.lin n),(Cu (D3 (k+1)<|q.lin n)<|r.lin n,(x.lin n)),((r.lin n),[k])]]
 |false,.dm _ _ _ _=>[[]]
 |true,.f=>[]
 |false,.f=>[[]]
noncomputable def lGe:List Nat->List Nat->Bool
 |a::x,b::y=>Nat.ble b a&&lGe x y|_,[]=>true | [],b::y=>Nat.ble b 0&&lGe [] y
def lGt (x y:List Nat):Bool:=match x,y with
 |a::x,b::y=>Nat.ble (b+1) a&&lGe x y|a::_,[]=>Nat.ble 1 a | [],_=>false
noncomputable def Ig:List LC->List Nat->LC
 |c::r,m::s=>let t:=Ig r s;(Cu (D3 m c.1) t.1,Cu (D3 m c.2) t.2)|_,_=>([],[])
noncomputable def TB:List (List LC)->List (List Nat)->Bool
 | [],_=>true
 |c::r,m::s=>(let t:=Ig c m;lGt t.1 t.2)&&TB r s
 |_,[]=>false
noncomputable def V4 (n:Nat) (g:LP):List LP->List (List LC)
 | []=>g.alt n false
 |p::r=>MN (p.alt n true)<|V4 n g r
def YK (n:Nat) (g:LP) (a:List LP) (m:List<|List Nat):Bool:=TB (V4 n g a) m
noncomputable def TC (c:List Nat) (d:List Int) (g:LP):List LP->Prop
 | []=>g.den c d
 |p::r=>p.den c d->TC c d g r
section
variable {c:List Nat}{d:List Int}
theorem za (a b c d:Int):a+b-(c+d)=a-c+(b-d):=QF.rE Int.sub_eq_add_neg<|QF.rE Int.neg_add<|QF.rE (Int.add_assoc ..)<|QF.rE (Int.add_left_comm b ..)<|QF.rS (Int.add_assoc ..) rfl
theorem zs (a b c d:Int):a+d-(c+b)=a-c-(b-d):=QF.rE (za ..)<|QF.rS (Int.neg_sub b d) rfl
theorem zz {a b p q k:Nat}(h:(a:Int)-b+k<=(p:Int)-q):k+(a+q)<=p+b:=by
 have h:=Int.add_le_add_right (Int.add_le_add_right h q) b;replace h:=(Int.sub_add_cancel ..)▸(Int.add_right_comm _ (k:Int) ..)▸(Int.add_right_comm _ (q:Int) ..)▸(Int.sub_add_cancel ..)▸h;exact QF.rS (Nat.add_assoc ..)<|QF.rE (Nat.add_comm k ..)<|Int.ofNat_le.mp h
noncomputable def dz:List Int->List Nat
 | []=>[]|x::r=>x.toNat::(-x).toNat::dz r
def lE (c:List Nat) (d:List Int):List Nat:=1::(c++dz d)
theorem B9 (e:List Nat):lEv [] e=0:=by cases e<;>rfl
theorem CI:∀(x y e:List Nat),lEv (Cu x y) e=lEv x e+lEv y e
 |a::x,b::y,f::e=>by exact(QF.rE (CI x y e) (QF.rE (Nat.add_mul ..)<|Nat.add_add_add_comm ..):(a+b)*f+lEv (Cu x y) e=a*f+lEv x e+(b*f+lEv y e))
 |a::x,b::y,[]=>rfl
 | [],y,e=>by refine QF.rE (B9 ..)<|QF.rE (Nat.zero_add ..) ?_;rfl
 |a::x,[],e=>rfl
theorem DM (k:Nat):∀(x e:List Nat),lEv (D3 k x) e=k*lEv x e
 |a::x,f::e=>by exact(QF.rE (DM k x e) (QF.rE (Nat.mul_add ..)<|QF.rE (Nat.mul_assoc ..) rfl):k*a*f+lEv (D3 k x) e=k*(a*f+lEv x e))
 |a::x,[]=>rfl
 | [],e=>by refine QF.rE (show D3 k []=[]from rfl)<|QF.rE (B9 ..) ?_;rfl
theorem K1:∀(i:Nat) (e:List Nat),lEv (lAt i) e=e.getD i 0
 |0,f::e=>by exact(QF.rE (B9 ..) (Nat.one_mul f):1*f+lEv [] e=f)
 |0,[]=>rfl
 |i+1,f::e=>by refine(QF.rE (K1 i e) (QF.rE (Nat.zero_mul ..)<|QF.rE (Nat.zero_add ..) ?_):0*f+lEv (lAt i) e=_);rfl
 |i+1,[]=>rfl
theorem VM:∀(d:List Int) (k:Nat),(dz d).getD (2*k) 0=(d.getD k 0).toNat/\(dz d).getD (2*k+1) 0=(-(d.getD k 0)).toNat
 | [],k=>⟨rfl,rfl⟩
 |x::r,0=>⟨rfl,rfl⟩
 |x::r,k+1=>VM r k
theorem V5 (i:Nat) (h:i<c.length):(lE c d).getD (i+1) 0=c.getD i 0:=by
 show(c++dz d).getD i 0=_;exact QF.rE List.getD_eq_getElem?_getD<|QF.rE List.getD_eq_getElem?_getD<|QF.rE (List.getElem?_append_left h) rfl
theorem QO (j:Nat):(lE c d).getD (c.length+1+j) 0=(dz d).getD j 0:=by
 refine QF.rE (Nat.add_right_comm ..) ?_;show(c++dz d).getD (c.length+j) 0=_;exact QF.rE List.getD_eq_getElem?_getD<|QF.rE List.getD_eq_getElem?_getD<|QF.rE (List.getElem?_append_right<|Nat.le_add_right _ _)<|QF.rE (Nat.add_sub_cancel_left ..) rfl
theorem LT.ok:∀ t:LT,lEv (t.lin c.length) (lE c d)=t.den c
 |.v i=>by
  show lEv (bif Nat.blt i c.length then lAt (i+1)else[]) (lE c d)=c.getD i 0;cases h:Nat.blt i c.length with
  |true=>exact(K1 _ _).trans<|V5 i<|Nat.le_of_ble_eq_true h
  |false=>
   have:c.length<=i:=Nat.le_of_not_lt fun b=>by replace h:=(show Nat.blt i c.length=true from Nat.ble_eq_true_of_le b)▸h;cases h
   show lEv [] _=_;refine QF.rE (B9 ..)<|QF.rE List.getD_eq_getElem?_getD<|QF.rE (List.getElem?_eq_none this) ?_;rfl
 |.c k=>by exact(QF.rE (B9 ..) (Nat.mul_one k):k*1+lEv [] (c++dz d)=k)
 |.a x y=>by show lEv (Cu _ _) _=_;refine QF.rE (CI ..)<|QF.rE x.ok<|QF.rE y.ok ?_;rfl
 |.m k x=>by refine(QF.rE (DM ..) (QF.rE x.ok ?_):lEv (D3 _ _) _=_);rfl
 |.r k x=>by exact(QF.rE (DM ..) (QF.rE x.ok<|QF.rE (Nat.mul_comm ..) rfl):lEv (D3 _ _) _=x.den c*k)
theorem LZ.ok:∀ t:LZ,((lEv (t.lin c.length).1 (lE c d):Nat):Int)-(lEv (t.lin c.length).2 (lE c d):Nat)=t.den c d
 |.n t=>by exact(QF.rE (B9 ..) (QF.rE t.ok<|Int.sub_zero _):((lEv (t.lin c.length) (lE c d):Nat):Int)-(lEv [] (lE c d):Nat)=_)
 |.i k=>by
  have h:=VM d k;exact(QF.rE (K1 ..) (QF.rE (K1 ..)<|QF.rE (QO ..)<|QF.rE (show c.length+2+2*k=c.length+1+(2*k+1)from Nat.add_right_comm (c.length+1) 1 (2*k))<|QF.rE (QO ..)<|QF.rE h.1<|QF.rE h.2<|Int.toNat_sub_toNat_neg _):((lEv (lAt<|c.length+1+2*k) (lE c d):Nat):Int)-(lEv (lAt<|c.length+2+2*k) (lE c d):Nat)=d.getD k 0)
 |.a x y=>by have e:=x.ok;have b:=y.ok;show((lEv (Cu _ _) _:Nat):Int)-(lEv (Cu _ _) _:Nat)=x.den c d+y.den c d;exact QF.rE (CI ..)<|QF.rE (CI ..)<|QF.rE (Int.natCast_add ..)<|QF.rE (Int.natCast_add ..)<|QF.rS e<|QF.rS b<|za ..
 |.s x y=>by have e:=x.ok;have b:=y.ok;show((lEv (Cu _ _) _:Nat):Int)-(lEv (Cu _ _) _:Nat)=x.den c d-y.den c d;exact QF.rE (CI ..)<|QF.rE (CI ..)<|QF.rE (Int.natCast_add ..)<|QF.rE (Int.natCast_add ..)<|QF.rS e<|QF.rS b<|zs ..
 |.g x=>by exact(QF.rS x.ok ((Int.neg_sub ..).symm):((lEv (x.lin _).2 _:Nat):Int)-(lEv (x.lin _).1 _:Nat) = - x.den c d)
 |.m k x=>by show((lEv (D3 _ _) _:Nat):Int)-(lEv (D3 _ _) _:Nat)=(k:Nat)*x.den c d;exact QF.rE (DM ..)<|QF.rE (DM ..)<|QF.rS x.ok<|QF.rE (Int.mul_sub ..)<|QF.rE (Int.natCast_mul ..)<|QF.rE (Int.natCast_mul ..) rfl
 |.r k x=>by show((lEv (D3 _ _) _:Nat):Int)-(lEv (D3 _ _) _:Nat)=x.den c d*(k:Nat);exact QF.rE (DM ..)<|QF.rE (DM ..)<|QF.rS x.ok<|QF.rE (Int.mul_comm ..)<|QF.rE (Int.mul_sub ..)<|QF.rE (Int.natCast_mul ..)<|QF.rE (Int.natCast_mul ..) rfl
noncomputable def lH (e:List Nat) (x:LC):Prop:=lEv x.1 e<=lEv x.2 e
noncomputable def lHs (e:List Nat) (a:List LC):Prop:=∀ x∈a,lH e x
theorem lHs.one (h:lEv x e<=lEv y e):lHs e [(x,y)]:=fun z a=>QF.rE (List.mem_singleton.mp a) h
theorem lHs.cons (h:lEv x e<=lEv y e) (b:lHs e r):lHs e ((x,y)::r):=fun z a=>by
 rcases List.mem_cons.mp a with rfl|a
 .exact h
 .exact b z a
theorem Gf {x:List (List LC)}(h:∃ f∈x,lHs e f) (g:∃ f∈y,lHs e f):∃ f∈MN x y,lHs e f:=by
 obtain⟨a,k,h⟩:=h;obtain⟨b,j,g⟩:=g;exact⟨a++b,List.mem_flatMap.mpr ⟨a,k,List.mem_map_of_mem j⟩,fun z i=>(List.mem_append.mp i).elim (h z)<|g z⟩
theorem NK {x:List (List LC)}(h:(∃ b∈x,lHs e b)\/∃ b∈y,lHs e b):∃ b∈x++y,lHs e b:=by
 rcases h with⟨a,f,h⟩|⟨a,f,h⟩
 .exact ⟨a,List.mem_append_left _ f,h⟩
 .exact ⟨a,List.mem_append_right _ f,h⟩
theorem Gg:lEv GZ (lE c d)=1:=(QF.rE (B9 ..) rfl:1*1+lEv [] (c++dz d)=1)
theorem K2 (x y:List Nat):(lEv (Cu GZ x) (lE c d)<=lEv y (lE c d))=(lEv x (lE c d)<lEv y (lE c d)):=QF.rE (CI ..)<|QF.rE Gg<|QF.rE (Nat.add_comm ..) rfl
theorem Hq (x y:LZ) (k:List Nat) (h:x.den c d+(lEv k (lE c d):Nat)<=y.den c d):lHs (lE c d) [zc c.length x y k]:=lHs.one<|QF.rE (CI ..)<|QF.rE (CI ..)<|QF.rE (CI ..)<|zz<|(x.ok (c:=c) (d:=d))▸(y.ok (c:=c) (d:=d))▸h
theorem QP:∀(p:LP) (b:Bool),(match b with|true=>p.den c d|false=>¬ p.den c d)->∃ j∈p.alt c.length b,lHs (lE c d) j:=by
 have a:∀ j:List LC,lHs (lE c d) j->∃ x∈[j],lHs (lE c d) x:=fun j h=>⟨j,.head _,h⟩;intro p;induction p with
 |le x y=>intro b h;cases b with
  |true=>exact a _<|lHs.one<|QF.rE x.ok<|QF.rE y.ok h
  |false=>exact a _<|lHs.one<|QF.rE (K2 ..)<|QF.rE x.ok<|QF.rE y.ok<|Nat.lt_of_not_le h
 |lt x y=>intro b h;cases b with
  |true=>exact a _<|lHs.one<|QF.rE (K2 ..)<|QF.rE x.ok<|QF.rE y.ok h
  |false=>exact a _<|lHs.one<|QF.rE x.ok<|QF.rE y.ok<|Nat.le_of_not_lt h
 |eq x y=>intro b h;cases b with
  |true=>exact a _<|lHs.cons (QF.rE x.ok<|QF.rE y.ok<|Nat.le_of_eq h)<|lHs.one<|QF.rE x.ok<|QF.rE y.ok<|Nat.le_of_eq h.symm
  |false=>
   rcases Nat.lt_or_gt_of_ne h with h|h
   .exact ⟨_,.head _,lHs.one<|QF.rE (K2 ..)<|QF.rE x.ok<|QF.rE y.ok h⟩
   .exact ⟨_,.tail _<|.head _,lHs.one<|QF.rE (K2 ..)<|QF.rE x.ok<|QF.rE y.ok h⟩
 |zle x y=>intro b h;cases b with
  |true=>exact a _<|Hq x y []<|QF.rE (B9 ..)<|(Int.add_zero _).symm▸h
  |false=>exact a _<|Hq y x GZ<|QF.rE Gg<|Int.lt_of_not_ge h
 |zlt x y=>intro b h;cases b with
  |true=>exact a _<|Hq x y GZ<|QF.rE Gg h
  |false=>exact a _<|Hq y x []<|QF.rE (B9 ..)<|(Int.add_zero _).symm▸Int.not_lt.mp h
 |zeq x y=>intro b h;cases b with
  |true=>
   refine a _ fun z m=>?_;rcases List.mem_cons.mp m with rfl|m
   .exact Hq x y [] (QF.rE (B9 ..)<|(Int.add_zero _).symm▸Int.le_of_eq h) _<|.head _
   .exact Hq y x [] (QF.rE (B9 ..)<|(Int.add_zero _).symm▸Int.le_of_eq (Eq.symm h)) _ m
  |false=>
   rcases Int.lt_or_gt_of_ne h with h|h
   .exact ⟨_,.head _,Hq x y GZ<|QF.rE Gg h⟩
   .exact ⟨_,.tail _<|.head _,Hq y x GZ<|QF.rE Gg h⟩
 |no p o=>intro b h;cases b with
  |true=>exact o false h
  |false=>exact o true<|Classical.not_not.mp h
 |an p q i g=>intro b h;cases b with
  |true=>exact Gf (i true h.1)<|g true h.2
  |false=>exact NK<|(Classical.not_and_iff_not_or_not.mp h).imp (i false)<|g false
 |or p q i g=>intro b h;cases b with
  |true=>exact NK<|h.imp (i true)<|g true
  |false=>exact Gf (i false fun x=>h<|.inl x)<|g false fun x=>h<|.inr x
 |im p q i g=>intro b h;cases b with
  |true=>exact NK<|(Classical.em<|p.den c d).symm.imp (i false) fun x=>g true<|h x
  |false=>exact Gf (i true<|Classical.byContradiction fun x=>h fun y=>absurd y x)<|g false fun x=>h fun _=>x
 |sb w x y=>intro b h;cases b with
  |true=>
   have h:w.den c=x.den c-y.den c:=h;rcases Nat.le_total (x.den c) (y.den c)with l|l
   .exact ⟨_,.head _,lHs.cons (QF.rE x.ok<|QF.rE y.ok l)<|lHs.one<|QF.rE w.ok<|QF.rE (B9 ..)<|QF.rE h<|QF.rE (Nat.sub_eq_zero_of_le l)<|Nat.le_refl 0⟩
   .exact ⟨_,.tail _<|.head _,lHs.cons (by refine QF.rE x.ok<|QF.rE y.ok ?_;exact l)<|have e:=(h▸Nat.sub_add_cancel l:w.den c+y.den c=x.den c);lHs.cons (QF.rE (CI ..)<|QF.rE w.ok<|QF.rE x.ok<|QF.rE y.ok<|Nat.le_of_eq e)<|lHs.one<|QF.rE (CI ..)<|QF.rE w.ok<|QF.rE x.ok<|QF.rE y.ok<|Nat.le_of_eq e.symm⟩
  |false=>exact a _ fun _ h=>nomatch h
 |dm q r x k=>intro b h;cases b with
  |true=>
   cases k with
   |zero=>exact a _ fun _ h=>nomatch h
   |succ k=>
    exact have h:x.den c/(k+1)=q.den c/\x.den c%(k+1)=r.den c:=h;have n:=Nat.div_add_mod (x.den c)<|k+1;have n:=h.2▸h.1▸n;have e:lEv (Cu (D3 (k+1)<|q.lin c.length)<|r.lin c.length) (lE c d)=x.den c:=QF.rE (CI ..)<|QF.rE (DM ..)<|QF.rE q.ok<|QF.rE r.ok n;a _<|lHs.cons (by rw[e,x.ok];exact Nat.le_refl _)<|lHs.cons (by rw[e,x.ok];exact Nat.le_refl _)<|lHs.one<|by rw[r.ok,show lEv [k] (lE c d)=k by show k*1+lEv [] (c++dz d)=k;rw[B9];exact Nat.mul_one k,<- h.2];exact Nat.le_of_lt_succ<|Nat.mod_lt (x.den c) (y:=k+1)<|Nat.succ_pos k
  |false=>exact a _ fun _ h=>nomatch h
 |f=>intro b h;cases b with
  |true=>exact h.elim
  |false=>exact a _ fun _ h=>nomatch h
theorem NL:∀(x y e:List Nat),lGe x y=true->lEv y e<=lEv x e
 |a::x,b::y,f::e,h=>by
  have h:(Nat.ble b a&&lGe x y)=true:=h;obtain⟨i,g⟩:=Bool.and_eq_true_iff.mp h;exact Nat.add_le_add (Nat.mul_le_mul_right f<|Nat.le_of_ble_eq_true i)<|NL x y e g
 |a::x,b::y,[],h=>Nat.le_refl _
 |x,[],e,h=>QF.rE (B9 ..)<|Nat.zero_le _
 | [],b::y,f::e,h=>by
  have h:(Nat.ble b 0&&lGe [] y)=true:=h;obtain⟨i,g⟩:=Bool.and_eq_true_iff.mp h;have j:=NL [] y e g;rw[B9]at j ⊢;exact(QF.rE (Nat.le_zero.mp<|Nat.le_of_ble_eq_true i) (QF.rE (Nat.zero_mul ..)<|QF.rE (Nat.zero_add ..) j):b*f+lEv y e<=0)
 | [],b::y,[],h=>Nat.le_refl _
set_option tactic.hygienic true in theorem V6 (h:lGt x y=true):lEv y (1::e)<lEv x (1::e):=by
 unfold lGt at h;split at h
 .rename_i a x b y;obtain⟨g,f⟩:=Bool.and_eq_true_iff.mp h;exact Nat.add_lt_add_of_lt_of_le (Nat.mul_lt_mul_of_pos_right (Nat.le_of_ble_eq_true g) Nat.one_pos)<|NL x y e f
 .rename_i a x;exact QF.rE (B9 ..)<|Nat.lt_of_lt_of_le (Nat.mul_pos (Nat.le_of_ble_eq_true h) Nat.one_pos)<|Nat.le_add_right _ _
 .cases h
theorem MP :∀(a:List LC) (m:List Nat),lHs e a->lH e (Ig a m)
 |c::r,m::s,h=>by
  exact(QF.rE (CI ..) (QF.rE (CI ..)<|QF.rE (DM ..)<|QF.rE (DM ..)<|Nat.add_le_add (Nat.mul_le_mul_left m<|h c<|.head _)<|MP r s fun z b=>h z<|.tail _ b):lEv (Cu (D3 m c.1) (Ig r s).1) e<=lEv (Cu (D3 m c.2) (Ig r s).2) e)
 | [],m,_=>Nat.le_refl _
 |_::_,[],_=>Nat.le_refl _
theorem OR :∀(D:List<|List LC) (M:List<|List Nat),TB D M=true->(∃ a∈D,lHs (1::e) a)->False
 | [],_,_,⟨_,h,_⟩=>nomatch h
 |c::r,m::s,h,⟨a,hm,hs⟩=>by
  have h:(lGt (Ig c m).1 (Ig c m).2&&TB r s)=true:=h;obtain⟨f,b⟩:=Bool.and_eq_true_iff.mp h;rcases List.mem_cons.mp hm with rfl|hm
  .exact absurd (V6 f)<|Nat.not_lt.mpr<|MP a m hs
  .exact OR r s b ⟨a,hm,hs⟩
 |_::_,[],h,_=>by cases h
theorem OS (g:LP):∀(a:List LP),(¬ TC c d g a->∃ e∈V4 c.length g a,lHs (lE c d) e)
 | [],h=>QP g false h
 |p::r,h=>by
  have b:p.den c d:=Classical.byContradiction fun x=>h fun y=>absurd y x;exact Gf (QP p true b)<|OS g r fun x=>h fun _=>x
end
theorem YL (c:List Nat) (d:List Int) (g:LP) (a:List LP) (m:List<|List Nat) (h:YK c.length g a m=true):TC c d g a:=
 Classical.byContradiction fun x=>OR _ m h<|OS g a x
end LA
namespace LA
noncomputable def rT:Nat->Nat->LT×Nat
 |0,n=>(.c 0,n)
 |f+1,n=>match n%8 with
  |0=>(.v<|n/8%16,n/128)
  |1=>(.c<|n/8%16,n/128)
  |2=>let x:=rT f<|n/8;let y:=rT f x.2;(.a x.1 y.1,y.2)
  |3=>let x:=rT f<|n/2048;(.m (n/8%256) x.1,x.2)
  |4=>let x:=rT f<|n/2048;(.r (n/8%256) x.1,x.2)
  |5=>(.c<|n/8%65536,n/524288)
  |_=>(.c<|n/8%1099511627776,n/8796093022208)
noncomputable def rZ:Nat->Nat->LZ×Nat
 |0,n=>(.i 0,n)
 |f+1,n=>match n%8 with
  |0=>let x:=rT f<|n/8;(.n x.1,x.2)
  |1=>(.i<|n/8%16,n/128)
  |2=>let x:=rZ f<|n/8;let y:=rZ f x.2;(.a x.1 y.1,y.2)
  |3=>let x:=rZ f<|n/8;let y:=rZ f x.2;(.s x.1 y.1,y.2)
  |4=>let x:=rZ f<|n/8;(.g x.1,x.2)
  |5=>let x:=rZ f<|n/2048;(.m (n/8%256) x.1,x.2)
  |_=>let x:=rZ f<|n/2048;(.r (n/8%256) x.1,x.2)
noncomputable def rP:Nat->Nat->LP×Nat
 |0,n=>(.f,n)
 |f+1,n=>match n%16 with
  |0=>let x:=rT f<|n/16;let y:=rT f x.2;(.le x.1 y.1,y.2)
  |1=>let x:=rT f<|n/16;let y:=rT f x.2;(.lt x.1 y.1,y.2)
  |2=>let x:=rT f<|n/16;let y:=rT f x.2;(.eq x.1 y.1,y.2)
  |3=>let x:=rZ f<|n/16;let y:=rZ f x.2;(.zle x.1 y.1,y.2)
  |4=>let x:=rZ f<|n/16;let y:=rZ f x.2;(.zlt x.1 y.1,y.2)
  |5=>let x:=rZ f<|n/16;let y:=rZ f x.2;(.zeq x.1 y.1,y.2)
  |6=>let x:=rP f<|n/16;(.no x.1,x.2)
  |7=>let x:=rP f<|n/16;let y:=rP f x.2;(.an x.1 y.1,y.2)
  |8=>let x:=rP f<|n/16;let y:=rP f x.2;(.or x.1 y.1,y.2)
  |9=>let x:=rP f<|n/16;let y:=rP f x.2;(.im x.1 y.1,y.2)
  |10=>let w:=rT f<|n/16;let x:=rT f w.2;let y:=rT f x.2;(.sb w.1 x.1 y.1,y.2)
  |11=>let q:=rT f<|n/16;let r:=rT f q.2;let x:=rT f r.2;(.dm q.1 r.1 x.1<|x.2%256,x.2/256)
  |_=>(.f,n/16)
noncomputable def rPs:Nat->Nat->List LP×Nat
 |0,n=>([],n)
 |k+1,n=>let x:=rP 24 n;let y:=rPs k x.2;(x.1::y.1,y.2)
noncomputable def rM (b:Nat):Nat->Nat->List Nat
 |0,_=>[]
 |k+1,n=>(n%b)::rM b k (n/b)
noncomputable def rMs (b l:Nat):Nat->Nat->List (List Nat)
 |0,_=>[]
 |k+1,n=>rM b l n::rMs b l k (n/b^l)
def lD (c:List Nat) (d:List Int) (n:Nat):Prop:=TC c d (rP 24<|n/16).1 (rPs (n%16) (rP 24<|n/16).2).1
def lC (k n:Nat):Bool:=let g:=rP 24<|n/16;let f:=rPs (n%16) g.2;YK k g.1 f.1<|rMs (f.2%256) (f.2/256%32) (f.2/8192%64)<|f.2/524288
theorem la (c:List Nat) (d:List Int) (n:Nat) (h:lC c.length n=true):lD c d n:=YL _ _ _ _ _ h
end LA
namespace QF
theorem la (c:List Nat) (d:List Int) (n:Nat) (h:LA.lC c.length n=true):LA.lD c d n:=LA.la c d n h
theorem tnk (e:Int):(0<=e/\((e.toNat:Nat):Int)=e)\/(e<0/\e.toNat=0):=by
 cases e with
 |ofNat n=>exact .inl ⟨bX n,rfl⟩
 |negSucc n=>exact .inr ⟨Int.negSucc_lt_zero n,rfl⟩
theorem mxk (x y:Nat):(max x y=x/\y<=x)\/(max x y=y/\x<=y):=(Nat.le_total y x).elim (fun h=>.inl ⟨Nat.max_eq_left h,h⟩) fun h=>.inr ⟨Nat.max_eq_right h,h⟩
theorem mnk (x y:Nat):(min x y=x/\x<=y)\/(min x y=y/\y<=x):=(Nat.le_total x y).elim (fun h=>.inl ⟨Nat.min_eq_left h,h⟩) fun h=>.inr ⟨Nat.min_eq_right h,h⟩
theorem dmk (x k:Nat):x/k=x/k/\x%k=x%k:=⟨rfl,rfl⟩
theorem la1 (n:Nat) (y:autoParam (LA.lC 1 n=true) kr):LA.lD [a] [] n:=LA.la _ _ n y
theorem la2 (n:Nat) (y:autoParam (LA.lC 2 n=true) kr):LA.lD [a,b] [] n:=LA.la _ _ n y
theorem la3 (n:Nat) (y:autoParam (LA.lC 3 n=true) kr):LA.lD [a,b,c] [] n:=LA.la _ _ n y
theorem la4 (n:Nat) (y:autoParam (LA.lC 4 n=true) kr):LA.lD [a,b,c,e] [] n:=LA.la _ _ n y
theorem la5 (n:Nat) (y:autoParam (LA.lC 5 n=true) kr):LA.lD [a,b,c,e,f] [] n:=LA.la _ _ n y
theorem la6 (n:Nat) (y:autoParam (LA.lC 6 n=true) kr):LA.lD [a,b,c,e,f,g] [] n:=LA.la _ _ n y
theorem la7 (n:Nat) (y:autoParam (LA.lC 7 n=true) kr):LA.lD [a,b,c,e,f,g,h] [] n:=LA.la _ _ n y
theorem la8 (n:Nat) (y:autoParam (LA.lC 8 n=true) kr):LA.lD [a,b,c,e,f,g,h,i] [] n:=LA.la _ _ n y
theorem la9 (n:Nat) (y:autoParam (LA.lC 9 n=true) kr):LA.lD [a,b,c,e,f,g,h,i,j] [] n:=LA.la _ _ n y
theorem la10 (n:Nat) (y:autoParam (LA.lC 10 n=true) kr):LA.lD [a,b,c,e,f,g,h,i,j,k] [] n:=LA.la _ _ n y
theorem la11 (n:Nat) (y:autoParam (LA.lC 11 n=true) kr):LA.lD [a,b,c,e,f,g,h,i,j,k,l] [] n:=LA.la _ _ n y
theorem la12 (n:Nat) (y:autoParam (LA.lC 12 n=true) kr):LA.lD [a,b,c,e,f,g,h,i,j,k,l,o] [] n:=LA.la _ _ n y
theorem lb01 (n:Nat) (m:autoParam (LA.lC 0 n=true) kr):LA.lD [] [x] n:=LA.la _ _ n m
theorem lb02 (n:Nat) (m:autoParam (LA.lC 0 n=true) kr):LA.lD [] [x,y] n:=LA.la _ _ n m
theorem lb11 (n:Nat) (m:autoParam (LA.lC 1 n=true) kr):LA.lD [a] [x] n:=LA.la _ _ n m
theorem lb21 (n:Nat) (m:autoParam (LA.lC 2 n=true) kr):LA.lD [a,b] [x] n:=LA.la _ _ n m
theorem lb03 (n:Nat) (m:autoParam (LA.lC 0 n=true) kr):LA.lD [] [x,y,z] n:=LA.la _ _ n m
theorem lb12 (n:Nat) (m:autoParam (LA.lC 1 n=true) kr):LA.lD [a] [x,y] n:=LA.la _ _ n m
theorem lb13 (n:Nat) (m:autoParam (LA.lC 1 n=true) kr):LA.lD [a] [x,y,z] n:=LA.la _ _ n m
theorem lb22 (n:Nat) (m:autoParam (LA.lC 2 n=true) kr):LA.lD [a,b] [x,y] n:=LA.la _ _ n m
theorem lb23 (n:Nat) (m:autoParam (LA.lC 2 n=true) kr):LA.lD [a,b] [x,y,z] n:=LA.la _ _ n m
theorem lb31 (n:Nat) (m:autoParam (LA.lC 3 n=true) kr):LA.lD [a,b,c] [x] n:=LA.la _ _ n m
theorem lb32 (n:Nat) (m:autoParam (LA.lC 3 n=true) kr):LA.lD [a,b,c] [x,y] n:=LA.la _ _ n m
theorem lb33 (n:Nat) (m:autoParam (LA.lC 3 n=true) kr):LA.lD [a,b,c] [x,y,z] n:=LA.la _ _ n m
theorem lb41 (n:Nat) (m:autoParam (LA.lC 4 n=true) kr):LA.lD [a,b,c,e] [x] n:=LA.la _ _ n m
theorem lb42 (n:Nat) (m:autoParam (LA.lC 4 n=true) kr):LA.lD [a,b,c,e] [x,y] n:=LA.la _ _ n m
theorem lb43 (n:Nat) (m:autoParam (LA.lC 4 n=true) kr):LA.lD [a,b,c,e] [x,y,z] n:=LA.la _ _ n m
theorem lb51 (n:Nat) (m:autoParam (LA.lC 5 n=true) kr):LA.lD [a,b,c,e,f] [x] n:=LA.la _ _ n m
theorem lb52 (n:Nat) (m:autoParam (LA.lC 5 n=true) kr):LA.lD [a,b,c,e,f] [x,y] n:=LA.la _ _ n m
theorem lb53 (n:Nat) (m:autoParam (LA.lC 5 n=true) kr):LA.lD [a,b,c,e,f] [x,y,z] n:=LA.la _ _ n m
def dH {a b:Nat}:=@la2 a b 0x1822021000440001 (by kernel_rfl)
def dI {a b c:Nat}:=@la3 a b c 0x182202202100120210001 (by kernel_rfl)
def dJ {a:Nat}:=@la1 a 0x821020000830 (by kernel_rfl)
def dK {a:Nat}:=@la1 a 0x1822020384a0000fa28001 (by kernel_rfl)
def dM {a b c d:Nat}:=@la4 a b c d 0xe08c08c000202118120210012 (by kernel_rfl)
def dN {a b c:Nat}:=@la3 a b c 0xe08c0841002000440002 (by kernel_rfl)
def dO {a b:Nat}:=@la2 a b 0x8210210010000 (by kernel_rfl)
def dP {a b:Nat}:=@la2 a b 0x60880840011000041 (by kernel_rfl)
def dQ {a b c:Nat}:=@la3 a b c 0xe08c0841002000040002 (by kernel_rfl)
def dR {a b:Nat}:=@la2 a b 0x6a10c0840000020040022 (by kernel_rfl)
def dS {a b:Nat}:=@la2 a b 0x18230200204400261 (by kernel_rfl)
def dT {a b c d:Nat}:=@la4 a b c d 0xe08c08c001202118120210012 (by kernel_rfl)
def dU {a b:Nat}:=@la2 a b 0x608808400110240201 (by kernel_rfl)
def dW {a b:Nat}:=@la2 a b 0x608808400112210011 (by kernel_rfl)
def dX {a b:Nat}:=@la2 a b 0x28230210004400261 (by kernel_rfl)
def dY {a b c d e:Nat}{x:Int}:=@lb51 a b c d e x 0x1a5545abdfe7382504814040401470280281020de02101801620219002000a01020c40015 (by kernel_rfl)
def dZ {a b:Nat}:=@la2 a b 0x608808400012210001 (by kernel_rfl)
def da {a:Nat}:=@la1 a 0x2084080801c1 (by kernel_rfl)
def de {a:Nat}:=@la1 a 0x8210212010010 (by kernel_rfl)
def df {a b c d e:Nat}:=@la5 a b c d e 0xad908c0441000a2061201202118120210013 (by kernel_rfl)
def dg {a b c:Nat}:=@la3 a b c 0x182202202048004200211 (by kernel_rfl)
def dh {a b:Nat}:=@la2 a b 0x3c10c08400261000040012 (by kernel_rfl)
def di {a b:Nat}:=@la2 a b 0x182202002004001760 (by kernel_rfl)
def dj {a:Nat}:=@la1 a 0x1822029200000828001 (by kernel_rfl)
def dk {a:Nat}:=@la1 a 0x18220203e8a00000040000030001 (by kernel_rfl)
def dn {a:Nat}:=@la1 a 0x1822020064a0000fa28001 (by kernel_rfl)
def dp {a b c:Nat}:=@la3 a b c 0x32b08a0424808a2000440002 (by kernel_rfl)
def dq {a b:Nat}:=@la2 a b 0x5c10c0800801000040022 (by kernel_rfl)
def dt {a b c:Nat}:=@la3 a b c 0x182202202100120210011 (by kernel_rfl)
def du {a b:Nat}:=@la2 a b 0x608808401110010011 (by kernel_rfl)
def dv {a b c:Nat}:=@la3 a b c 0xc08c0880840040080720210001 (by kernel_rfl)
def dw {a b c d:Nat}:=@la4 a b c d 0xcac22811030228c10008040002 (by kernel_rfl)
def dx {a:Nat}:=@la1 a 0x1822020320a0000e128001 (by kernel_rfl)
def dy {a:Nat}:=@la1 a 0x18410200048120008e350 (by kernel_rfl)
def d0 {a b c:Nat}:=@la3 a b c 0x30120104100022e08011 (by kernel_rfl)
def d8 {a b c d:Nat}:=@la4 a b c d 0x2ad08a0424c00a202118120210012 (by kernel_rfl)
def eA {a b:Nat}:=@la2 a b 0xf04302100098400010240202 (by kernel_rfl)
def eB {a b c d:Nat}:=@la4 a b c d 0x38230210600c00020210002 (by kernel_rfl)
def eC {a b c:Nat}:=@la3 a b c 0x2986a842810020228800020200222 (by kernel_rfl)
def eD {a:Nat}:=@la1 a 0x1822020200a0000fa28001 (by kernel_rfl)
def eE {a b c:Nat}:=@la3 a b c 0x170430220244200888081201221 (by kernel_rfl)
def eF {a b:Nat}:=@la2 a b 0x1822020384a244200800e128001 (by kernel_rfl)
def eG {a b:Nat}{x:Int}:=@lb21 a b x 0x16a08c040401010051c0800a04083781000a01020c40013 (by kernel_rfl)
def eH {a b c d e:Nat}:=@la5 a b c d e 0x151c5301540a0518014424084a0460052030428488440840023 (by kernel_rfl)
def eI {a b c:Nat}:=@la3 a b c 0x5610c08808010005d849042044001761 (by kernel_rfl)
def eJ {a b c d e f:Nat}:=@la6 a b c d e f 0x38240200a0820506050182080c10420021762 (by kernel_rfl)
def eK {a b c d e f g:Nat}:=@la7 a b c d e f g 0xf8260260a040300508082040600c1042002264 (by kernel_rfl)
def eM {a b c d e f:Nat}:=@la6 a b c d e f 0x1609009420120a010182080c10420021762 (by kernel_rfl)
def eO {a b c:Nat}:=@la3 a b c 0x51aa88402202098808110001d849042044000762 (by kernel_rfl)
def eP {a b:Nat}:=@la2 a b 0x1822020384a244200800e12881201201 (by kernel_rfl)
def eQ {a b c d:Nat}:=@la4 a b c d 0x10882422084142141088220a09c821108a05082408c10262060050900228c10012210024 (by kernel_rfl)
def eR {a b c d e:Nat}:=@la5 a b c d e 0x2a4c498054828044c004551408c02081420860109050109408c00a406085092022840023 (by kernel_rfl)
theorem xP {a g:Prop}(h:a) (k:a->g):g:=k h
theorem xE1 {a:Type}{p:a->Prop}{g:Prop}(h:∃ b,p b) (k:∀ b,p b->g):g:=h.elim k
theorem xF1 {a:Type}{p:a->Prop}{g:Prop}(k:∀ b,p b->g) (h:∃ b,p b):g:=xE1 h k
theorem xE2 {c b:Type}{p:c->b->Prop}{g:Prop}(h:∃ a d,p a d) (k:∀ a d,p a d->g):g:=xE1 h fun a h=>xE1 h<|k a
theorem xF2 {b a:Type}{p:b->a->Prop}{g:Prop}(k:∀ d c,p d c->g) (h:∃ d c,p d c):g:=xE2 h k
theorem xE3 {e d c:Type}{p:e->d->c->Prop}{g:Prop}(h:∃ b a f,p b a f) (k:∀ b a f,p b a f->g):g:=xE2 h fun b a h=>xE1 h<|k b a
theorem xF3 {c b a:Type}{p:c->b->a->Prop}{g:Prop}(k:∀ f e d,p f e d->g) (h:∃ f e d,p f e d):g:=xE3 h k
theorem xE4 {i f e d:Type}{p:i->f->e->d->Prop}{g:Prop}(h:∃ c b a j,p c b a j) (k:∀ c b a j,p c b a j->g):g:=xE3 h fun c b a h=>xE1 h<|k c b a
theorem xE5 {l j i f e:Type}{p:l->j->i->f->e->Prop}{g:Prop}(h:∃ d c b a m,p d c b a m) (k:∀ d c b a m,p d c b a m->g):g:=xE4 h fun d c b a h=>xE1 h<|k d c b a
theorem xE6 {n m l j i f:Type}{p:n->m->l->j->i->f->Prop}{g:Prop}(h:∃ e d c b a o,p e d c b a o) (k:∀ e d c b a o,p e d c b a o->g):g:=xE5 h fun e d c b a h=>xE1 h<|k e d c b a
theorem xF6 {f e d c b a:Type}{p:f->e->d->c->b->a->Prop}{g:Prop}(k:∀ o n m l j i,p o n m l j i->g) (h:∃ o n m l j i,p o n m l j i):g:=xE6 h k
theorem xE8 {r q o n m l j i:Type}{p:r->q->o->n->m->l->j->i->Prop}{g:Prop}(h:∃ f e d c b a t s,p f e d c b a t s) (k:∀ f e d c b a t s,p f e d c b a t s->g):g:=xE6 h fun f e d c b a h=>xE2 h<|k f e d c b a
theorem xF8 {j i f e d c b a:Type}{p:j->i->f->e->d->c->b->a->Prop}{g:Prop}(k:∀ t s r q o n m l,p t s r q o n m l->g) (h:∃ t s r q o n m l,p t s r q o n m l):g:=xE8 h k
theorem xE9 {u t s r q o n m l:Type}{p:u->t->s->r->q->o->n->m->l->Prop}{g:Prop}(h:∃ j i f e d c b a v,p j i f e d c b a v) (k:∀ j i f e d c b a v,p j i f e d c b a v->g):g:=xE8 h fun j i f e d c b a h=>xE1 h<|k j i f e d c b a
theorem xA2 {g:Prop}(k:b->a->g) (h:b/\a):g:=k h.1 h.2
theorem xA3 {c b g:Prop}(k:c->b->a->g) (h:c/\b/\a):g:=xA2 (k h.1) h.2
theorem xA4 {c b a g:Prop}(k:d->c->b->a->g) (h:d/\c/\b/\a):g:=xA3 (k h.1) h.2
theorem xA5 {d c b a g:Prop}(k:e->d->c->b->a->g) (h:e/\d/\c/\b/\a):g:=xA4 (k h.1) h.2
theorem xA6 {e d c b a g:Prop}(k:f->e->d->c->b->a->g) (h:f/\e/\d/\c/\b/\a):g:=xA5 (k h.1) h.2
theorem xA7 {f e d c b a g:Prop}(k:i->f->e->d->c->b->a->g) (h:i/\f/\e/\d/\c/\b/\a):g:=xA6 (k h.1) h.2
theorem xA8 {i f e d c b a g:Prop}(k:j->i->f->e->d->c->b->a->g) (h:j/\i/\f/\e/\d/\c/\b/\a):g:=xA7 (k h.1) h.2
theorem xA9 {j i f e d c b a g:Prop}(k:l->j->i->f->e->d->c->b->a->g) (h:l/\j/\i/\f/\e/\d/\c/\b/\a):g:=xA8 (k h.1) h.2
theorem Zb {l j i f e d c b a g:Prop}(k:m->l->j->i->f->e->d->c->b->a->g) (h:m/\l/\j/\i/\f/\e/\d/\c/\b/\a):g:=xA9 (k h.1) h.2
theorem aB {m l j i f e d c b a g:Prop}(k:n->m->l->j->i->f->e->d->c->b->a->g) (h:n/\m/\l/\j/\i/\f/\e/\d/\c/\b/\a):g:=Zb (k h.1) h.2
theorem xns {b:Type}{a:b}{g:Prop}(e:none=some a):g:=nomatch e
universe u v w x
theorem eS {A:Sort u}{b:Type}{a:b}{g:Prop}(_:A)(e:none=some a):g:=xns e
theorem eT {A:Sort u}{B:Sort v}{b:Type}{a:b}{g:Prop}(_:A)(_:B)(e:none=some a):g:=xns e
theorem eU {A:Sort u}{B:Sort v}{C:Sort w}{b:Type}{a:b}{g:Prop}(_:A)(_:B)(_:C)(e:none=some a):g:=xns e
theorem eV {A:Sort u}{B:Sort v}{C:Sort w}{D:Sort x}{b:Type}{a:b}{g:Prop}(_:A)(_:B)(_:C)(_:D)(e:none=some a):g:=xns e
theorem fR {A:Sort u}{g:Prop}(_:A)(e:False):g:=e.elim
theorem fS {A:Sort u}{B:Sort v}{g:Prop}(_:A)(_:B)(e:False):g:=e.elim
theorem fT {A:Sort u}{B:Sort v}{C:Sort w}{g:Prop}(_:A)(_:B)(_:C)(e:False):g:=e.elim
theorem gG {A:Sort u}{p q:A->Prop}{g:Prop}(h:∃ x,p x/\q x)(k:∀ x,p x->q x->g):g:=h.elim fun x h=>k x h.1 h.2
theorem gH {A:Sort u}{p q r:A->Prop}{g:Prop}(h:∃ x,p x/\q x/\r x)(k:∀ x,p x->q x->r x->g):g:=h.elim fun x h=>k x h.1 h.2.1 h.2.2
theorem xsn {b:Type}{a:b}{g:Prop}(e:some a=none):g:=nomatch e
theorem xft {g:Prop}(e:false=true):g:=nomatch e
theorem xtf {g:Prop}(e:true=false):g:=nomatch e
theorem xnc {b:Type}{a:b}{l:List b}{g:Prop}(e:[]=a::l):g:=nomatch e
theorem xcn {b:Type}{a:b}{l:List b}{g:Prop}(e:a::l=[]):g:=nomatch e
theorem so {c:Type}{a b:c}(e:some a=some b):a=b:=cw e
@[elab_as_elim] theorem BH {g f:Type}{a c:g}{b d:f}{motive:g->f->Prop}(e:some (a,b)=some (c,d)) (k:motive a b):motive c d:=by cases e;exact k
@[elab_as_elim] theorem soE {b:Type}{a c:b}{motive:b->Prop}(e:some a=some c) (k:motive a):motive c:=so e▸k
@[elab_as_elim] theorem mC {c:Type}{a b:c}{l:List c}{motive:c->Prop}(h:a∈b::l) (x:motive b) (y:a∈l->motive a):motive a:=(bM.mp h).elim (fun z=>z▸x) y
theorem so2 {g f:Type}{a c:g}{b d:f}(e:some (a,b)=some (c,d)):a=c/\b=d:=Prod.mk.inj<|so e
theorem lnS {c:Type}{l:List c}{n:Nat}{g:Prop}(h:l.length=n+1) (k:∀ a b,l=a::b->b.length=n->g):g:=by
 cases l with
 |nil=>exact nomatch h
 |cons a l=>exact k a l rfl<|Nat.succ.inj h
theorem ln1 {b:Type}{l:List b}{g:Prop}(h:l.length=1) (k:∀ a,l=[a]->g):g:=lnS h fun a _ z h=>k a<|rE z<|rE (cX h) rfl
theorem ln2 {c:Type}{l:List c}{g:Prop}(h:l.length=2) (k:∀ a b,l=[a,b]->g):g:=lnS h fun a _ z h=>ln1 h fun b d=>k a b<|rE z<|rE d rfl
theorem ln3 {d:Type}{l:List d}{g:Prop}(h:l.length=3) (k:∀ a b c,l=[a,b,c]->g):g:=lnS h fun a _ z h=>ln2 h fun b c e=>k a b c<|rE z<|rE e rfl
theorem ln4 {f:Type}{l:List f}{g:Prop}(h:l.length=4) (k:∀ a b c d,l=[a,b,c,d]->g):g:=lnS h fun a _ z h=>lnS h fun b _ i h=>ln2 h fun c d e=>k a b c d<|rE z<|rE i<|rE e rfl
theorem bc {p:Prop}(k:(p->False)->False):p:=Classical.byContradiction k
theorem k62 (n:Nat):-2^62<=(n:Int):=Int.le_trans (show(-2^62:Int)<=0 by decide)<|bX n
theorem j62 {n:Nat}(h:n<=2000):(n:Int)<2^62:=Int.lt_of_le_of_lt (Int.ofNat_le.mpr h) (by decide)
theorem j63 {n:Nat}(h:n<=2000):(n:Int)<2^63:=Int.lt_of_le_of_lt (Int.ofNat_le.mpr h) (by decide)
theorem i63 {n:Int}(h:n<=1000):n<2^63:=Int.lt_of_le_of_lt h (by decide)
theorem h63 (h:0<=n):-2^63<=n:=Int.le_trans (by decide) h
theorem g63 {n:Int}{l:Nat}(h:0<=n/\n<l/\l<=1000):n<2^63:=Int.lt_trans h.2.1<|j63<|bW h.2.2<|by decide
theorem f63 (k:Nat):¬ (k:Int) < -2^63:=Int.not_lt.mpr<|h63<|bX k
theorem e63 {k:Nat}(h:k<1000):¬ (k:Int) >= 2^63:=Int.not_le.mpr<|j63<|bW (cK h)<|by decide
theorem MQ  [Decidable p] {a b:Nat}(e:a<=c) (d:b<=c):(if p then a else b)<=c:=by
 by_cases h:p
 .exact iP h e
 .exact iN h d
theorem i01  [Decidable p]:(if p then 0 else 1)<=1:=MQ (cO 1)<|To 1
theorem o5 (a:c<=1) (h:u+(r+1)<m):u+c+r<m:=(la4 0xe08c08c0920802112200c101001212) a h
theorem o6 {H:Nat}(b:A=H+c) (a:A<=L):u+c+(L-A)=u+(L-H):=(la7 0x54588b4ca8a948819c4810a0240c0852860629820010a12023001101001224) b a rfl rfl
theorem o7 {H r:Nat}(d:F<=A+r) (a:A=H+c) (b:c<=1):F<=H+(r+1):=(la5 0xd8250212801008460881840004904210003) d a b
theorem o8 (a:A=H+c) (d:c<=1) (b:H+(r+1)<=N):A+r<=N:=(la5 0xe8250220244230804a00406100220200203) a d b
theorem o9 (h:A=o+c) (d:c<=1) (a:o<=b):A<=b+1:=(la4 0xe82502104004980304100212210003) h d a
theorem o11  [Decidable p] (h:x<=if p then k else k+1) (a:k<=900):x<=1000:=bW h<|MQ (bW a<|by decide)<|bW (Nat.succ_le_succ a)<|by decide
theorem o12 (b:m+1<=n) (h:a+n<r):a+1+m<r:=(la4 0xe08c088180084c0910808081201212) b h
theorem o13 (a:m+1<=n) (h:u+8*n<r):u+3+8*m<r:=(la4 0x3102309206021804260488404040433201212) a h
theorem Zc (a:m+1<=n) (h:u+8*n<r):u+1+8*m<r:=(la4 0x3102309206021804260488404040431201212) a h
theorem o14 (h:a+n+1<r):a+1+n<r:=Nat.add_right_comm a n 1▸h
theorem o15 (h:u+8*n+3<r):u+3+8*n<r:=Nat.add_right_comm u (8*n) 3▸h
theorem o16 {i:Nat}(h:x+k≠i-N):x+N+k≠i:=fun e=>h<|rS e<|rE (Nat.add_right_comm ..)<|rE (Nat.add_sub_cancel ..) rfl
theorem o17 (c:¬ t=G-1) (a:t<G) (b:t+1 >= G):False:=by
 cases G with
 |zero=>exact Nat.not_lt_zero _ a
 |succ v=>exact c<|Nat.le_antisymm (Nat.le_of_lt_succ a)<|Nat.le_of_succ_le_succ b
theorem o18 {u x l:Nat}(h:u<S/\x+l<=S) (d:S-1=u) (b:k<l) (c:¬ (x+k<=u/\u<G-1)) (f:¬ u=G-1) (a:u<G):False:=by
 have e:S=u+1:=rS d<|rE (Nat.sub_add_cancel<|Nat.succ_le_of_lt<|Nat.lt_of_le_of_lt (cO u) h.1) rfl;cases G with
 |zero=>exact Nat.not_lt_zero _ a
 |succ v=>exact c ⟨Nat.le_of_succ_le_succ<|bW (Nat.add_lt_add_left b x)<|bW h.2<|Nat.le_of_eq e,Nat.lt_of_le_of_ne (Nat.le_of_lt_succ a) f⟩
theorem o19 (h:J<=q) (e:¬ J=q):q-(q-J-1+1)=J:=rE (Nat.sub_add_cancel<|Nat.sub_pos_of_lt<|Nat.lt_of_le_of_ne h e)<|rE (Nat.sub_sub_self h) rfl
theorem o20 (h:a<J):q-(J-1)-1=q-J:=rE (Nat.sub_sub ..)<|rE (Nat.sub_add_cancel<|Nat.lt_of_le_of_lt (cO a) h) rfl
theorem o21 (b:¬ j<k) (a:¬ j=k):k+(j-k-1)=j-1:=rE (Nat.sub_sub ..)<|rS (Nat.add_sub_assoc (Nat.lt_of_le_of_ne (Nat.le_of_not_lt b)<|cZ a) ..)<|rE (show k.succ=k+1 from rfl)<|rE (Nat.add_sub_add_left ..) rfl
theorem o22 (b:j<l) (a:x+l<=h) (e:h=g) (c:g<m):x+1+j<m:=(la6 0x1b8260220a0542024060020302048081201214) b a e c
theorem o23 (b:j<l) (a:x+l<=h) (e:h=g):x+1+j<=g:=(la5 0x2e0940882024060020302048081201203) b a e
theorem o24 (h:x<=i):¬ (i+1=x/\p):=fun z=>Nat.not_succ_le_self i<|bW (Nat.le_of_eq z.1) h
theorem o25 (h:x≠t):t<=x↔t+1<=x:=⟨fun k=>Nat.lt_of_le_of_ne k<|cZ h,cK⟩
theorem o26 (k n:Nat):max 0 (min (k:Int) (n:Int))=((min k n:Nat):Int):=by
 by_cases h:k<=n
 .exact rE (Nat.min_eq_left h)<|rE (Int.min_eq_left<|Int.ofNat_le.mpr h)<|rE (Int.max_eq_right<|bX k) rfl
 .exact rE (Nat.min_eq_right<|Nat.le_of_not_le h)<|rE (Int.min_eq_right<|Int.ofNat_le.mpr<|Nat.le_of_not_le h)<|rE (Int.max_eq_right<|bX n) rfl
theorem o27 (a b:Int):(if a<b then b-a else 0)=((b-a).toNat:Int):=by
 by_cases h:a<b
 .exact iP h<|rE (Int.toNat_of_nonneg<|Int.sub_nonneg_of_le<|Int.le_of_lt h) rfl
 .exact iN h<|rE (Int.toNat_of_nonpos<|Int.sub_nonpos_of_le<|Int.not_lt.mp h) rfl
theorem o28 (h:i.natAbs<2^64):-2^64<i:=Int.neg_lt_of_neg_lt<|Int.lt_of_le_of_lt (Int.natAbs_neg i▸Int.le_natAbs (a:=-i))<|Int.ofNat_lt.mpr h
theorem o29 {i:Int}(h:i.natAbs<2^64):i<2^64:=Int.lt_of_le_of_lt Int.le_natAbs<|Int.ofNat_lt.mpr h
theorem o30 (v:Nat):v/10%23+1<2^64:=Nat.lt_trans (Nat.succ_lt_succ<|bR _ (by decide:0<23)) (by decide)
set_option genCtorIdx true in
inductive MV where
 |none
 |bool (b:Bool)
 |int (n:Int)
 |str (s:Str)
 |ref (a:Addr)
 |bi (i:String)
 |ty (n:String)
inductive VR:Value->MV->Prop
 |none:VR .none .none
 |bool (b):VR (.bool b)<|.bool b
 |int (n t):VR (.int n t)<|.int n
 |str (s t):VR (.str s t)<|.str s
 |ref (a):VR (.ref a)<|.ref a
 |bi (i):VR (.builtin i)<|.bi i
 |ty (n):VR (.type n)<|.ty n
inductive OVR:Option Value->Option MV->Prop
 |none:OVR .none .none
 |some {v m}:VR v m->OVR (.some v) (.some m)
inductive VRs:List Value->List MV->Prop
 |nil:VRs [] []
 |cons {v m vs ms}:VR v m->VRs vs ms->VRs (v::vs) (m::ms)
theorem VR.irf {v a}(h:VR v<|.ref a):v=.ref a:=by cases h;rfl
theorem VR.ibo {v a}(h:VR v<|.bool a):v=.bool a:=by cases h;rfl
theorem VR.ino {v}(h:VR v .none):v=.none:=by cases h;rfl
theorem VR.ity {v a}(h:VR v<|.ty a):v=.type a:=by cases h;rfl
theorem VR.kin {v n}{g:Prop}(h:VR v<|.int n) (k:∀ t,v=.int n t->g):g:=by cases h;exact k _ rfl
theorem VR.kst {v n}{g:Prop}(h:VR v<|.str n) (k:∀ t,v=.str n t->g):g:=by cases h;exact k _ rfl
theorem VRs.inl {vs}(h:VRs vs []):vs=[]:=by cases h;rfl
theorem VRs.kco {vs m ms}{g:Prop}(h:VRs vs<|m::ms) (k:∀ v a,vs=v::a->VR v m->VRs a ms->g):g:=by
 cases h with
 |cons c b=>exact k _ _ rfl c b
theorem VRs.length {vs ms}(h:VRs vs ms):vs.length=ms.length:=by
 induction h with
 |nil=>rfl
 |cons _ _ a=>simp[a]
theorem VRs.get {vs ms}(h:VRs vs ms):∀ i:Nat,OVR vs[i]? ms[i]?:=by
 induction h with
 |nil=>intro i;simpa using OVR.none
 |cons h _ a=>
  intro i;induction i with
  |zero=>exact .some h
  |succ i=>simpa using a i
theorem VRs.append {vs ms a b}(h:VRs vs ms) (d:VRs a b):VRs (vs++a) (ms++b):=by
 induction h with
 |nil=>exact d
 |cons h _ c=>exact .cons h c
theorem VRs.set {vs ms v m}(h:VRs vs ms) (b:VR v m):∀ i:Nat,VRs (vs.set i v) (ms.set i m):=by
 induction h with
 |nil=>intro i;exact .nil
 |cons h c a=>
  intro i;induction i with
  |zero=>exact .cons b c
  |succ i=>exact .cons h<|a i
theorem VRs.drop {vs ms}(h:VRs vs ms):∀ i:Nat,VRs (vs.drop i) (ms.drop i):=by
 induction h with
 |nil=>intro i;simpa using VRs.nil
 |cons h b a=>
  intro i;induction i with
  |zero=>exact .cons h b
  |succ i=>simpa using a i
theorem VRs.take {vs ms}(h:VRs vs ms):∀ i:Nat,VRs (vs.take i) (ms.take i):=by
 induction h with
 |nil=>intro i;simpa using VRs.nil
 |cons h b a=>
  intro i;induction i with
  |zero=>exact .nil
  |succ i=>simpa using VRs.cons h<|a i
theorem VRs.some {vs ms}(h:VRs vs ms){i:Nat}{m:MV}(e:ms[i]?=some m):∃ v,vs[i]?=some v/\VR v m:=by
 refine have:=h.get i;have this:=e▸this;oE (vs[i]?) (fun a=>?_) fun v a=>?_
 .replace this:=a▸this;cases this
 .replace this:=a▸this;cases this with|some h=>exact⟨v,rfl,h⟩
set_option genCtorIdx true in
inductive MO where
 |list (xs:List MV)
 |inst (C d:Addr)
 |dict (n:Nat) (f:Str->Option MV)
 |cell (v:Option MV)
 |obj (o:Obj)
 |tup (xs:List MV)
noncomputable def MO.Is:MO->Obj->Prop
 |.list xs,o=>∃ a n,o=listOf (List.toArray a) n/\VRs a xs
 |.inst C d,o=>o=instObj C d
 |.dict k f,o=>∃ b n,o=dictOf b n/\b.length<=k/\∀ x,∃ v,getL x b=some v/\OVR v (f x)
 |.cell v,o=>∃ c,o.data=.cell c/\OVR c v
 |.obj e,o=>o=e/\e.isFreed=false
 |.tup xs,o=>∃ a:List Value,o = {cls:=.type "tuple",data:=.seq a.toArray}/\VRs a xs
noncomputable abbrev St:=Addr->Option MO
noncomputable def St.set (G:St) (a:Addr) (o:MO):St:=fun b=>if b=a then some o else G b
@[simp] theorem St.AH (G:St) (a:Addr) (o:MO):G.set a o a=some o:=cA rfl
theorem St.AG (G:St)(o:MO) (h:b≠a):G.set a o b=G b:=b5 h
noncomputable def Rep (b:List<|Addr×Obj) (G:St):Prop:=∀ a o,G a=some o->∃ c,(a,c)∈b/\o.Is c
noncomputable def SR (b:Heap) (L:Addr) (h:Heap) (G:St):Prop:=∃ a,News b L h a/\Rep a G
theorem SR.sub {h₀ L h}(R:SR h₀ L h G) (d:∀ a o,c a=some o->G a=some o):SR h₀ L h c:=gG R fun b N r=>⟨b,N,fun a o e=>r a o<|d a o e⟩
theorem SR.get {h₀ L h}(R:SR h₀ L h G){a o}(e:G a=some o):∃ b,h.get? a=some b/\o.Is b/\a≠L/\h₀.get? a=none:=bc fun f=>gG R fun c N r=>gG (r a o e) fun b d g=>f ⟨b,(N _ d).1,g,(N _ d).2⟩
theorem SR.Cv {h₀ L h}(R:SR h₀ L h G){a o}(e:G a=some (.obj o)):h.get? a=some o/\o.isFreed=false/\a≠L/\h₀.get? a=none:=
 gH (R.get e) fun c h z b=>⟨h.trans<|cT some z.1,z.2,b⟩
theorem SR.fresh {h₀ L h}(R:SR h₀ L h G):G h.objs.size=none:=oE (G h.objs.size) (fun e=>rfl) fun o e=>gG (R.get e) fun b a _=>absurd (Heap.lt_size a)<|cY _
theorem SR.same {h₀ L h b}(R:SR h₀ L h G) (c:Heap.SameBut L h b):SR h₀ L b G:=gG R fun a N r=>⟨a,N.set c,r⟩
theorem News.pull (N:News b L h a) (f:(d,e)∈a) :
  News b L h ((d,e)::a.filter fun p=>decide<|p.1≠d):=fun p c=>mC c (N _ f) fun c=>N _ (b9.mp c).1
theorem QQ (d:Addr) (o b:Obj) (a:List<|Addr×Obj) :
  Upd d o b ((d,o)::a.filter fun p=>decide<|p.1≠d) ((d,b)::a.filter fun p=>decide<|p.1≠d):=
 .head fun p c=>bU (b9.mp c).2
theorem Rep.upd (r:Rep b G) (k:f.Is c) :
  Rep ((d,c)::b.filter fun p=>decide<|p.1≠d) (G.set d f):=by
 intro a o e;by_cases h:a=d
 .subst h;replace e:=(St.AH ..)▸e;exact soE e ⟨c,.head _,k⟩
 .replace e:=(St.AG _ _ h)▸e;exact bc fun i=>gG (r a o e) fun g j l=>i ⟨g,.tail _<|b9.mpr ⟨j,by simpa using h⟩,l⟩
theorem MO.MR {b:MO}(h:b.Is o):o.isFreed=false:=by
 induction b with
 |list xs=>refine xE2 h fun g n=>xA2 fun a=>?_;refine rE a ?_;intro _;rfl
 |inst C d=>have h:o=instObj C d:=h;refine rE h ?_;rfl
 |dict k f=>refine xE2 h fun p n=>xA2 fun a=>?_;refine rE a ?_;intro _;rfl
 |cell v=>
  refine gG h fun j e _=>?_;obtain⟨c,d,q,l⟩:=o;simp only at e;refine rE e ?_;rfl
 |obj m=>refine xP h<|xA2 fun a=>?_;refine rS a ?_;intro i;exact i
 |tup xs=>refine xE1 h fun g=>xA2 fun a=>?_;refine rE a ?_;intro _;rfl
theorem SR.update (F:Fr b L h m) (R:SR b L h G) (e:G a=some o)
  (n:∀ c,h.get? a=some c->o.Is c->mo.Is (f c)):Fr b L (h.update a f) m/\SR b L (h.update a f) (G.set a mo):=by
 exact bc fun j=>gG R fun g N r=>gG (r a o e) fun c i l=>have d:=n c (N _ i).1 l;xP (news_upd (f:=f) (pre:=[]) (o':=f c) F (News.pull N i) (fun _ h=>nomatch h) (fun p k=>bU (b9.mp k).2) rfl<|MO.MR d)<|xA2 fun s q=>j ⟨s,_,q,r.upd d⟩
theorem SR.push (F:Fr b L h m) (R:SR b L h G)(f:mo.Is ob) :
  Fr b L (h.push ob) m/\SR b L (h.push ob) (G.set h.objs.size mo):=by
 refine have j:=R.fresh;bc fun g=>gG R fun d N r=>g ⟨F.push _,_,N.push F ob<|MO.MR f,fun a o e=>?_⟩;by_cases h:a = ‹Heap›.objs.size
 .revert e;refine rE h fun e=>have e:=(St.AH ..)▸e;?_;exact soE e ⟨ob,.head _,f⟩
 .replace e:=(St.AG _ _ h)▸e;exact gG (r a o e) fun c i k=>⟨c,.tail _ i,k⟩
theorem SR.pushNone (F:Fr a L h m) (R:SR a L h G) (c:Obj) :
  Fr a L (h.push c) m/\SR a L (h.push c) G:=bc fun e=>gG R fun b N r=>e ⟨F.push _,b,fun p d=>⟨cS _ (N p d).1,(N p d).2⟩,r⟩
noncomputable def LR (a:List Str) (b:List<|Option MV) (m:Str->Option Value):Prop:=a.Nodup/\b.length=a.length/\∀(i:Nat) (x:Str),a[i]?=some x->OVR (m x) (b[i]?).join
theorem LR.get {ls m}(h:LR b ls m){i:Nat}{mv:MV}(d:b[i]?=some x) (c:(ls[i]?).join=some mv):∃ v,m x=some v/\VR v mv:=by
 refine have:=h.2.2 i x d;have this:=c▸this;oE (m x) (fun a=>?_) fun v a=>?_
 .replace this:=a▸this;cases this
 .replace this:=a▸this;cases this with|some h=>exact⟨v,rfl,h⟩
theorem LR.set {ls m}(h:LR c ls m)(a:c[i]?=some x) (n:VR v mv) :
  LR c (ls.set i<|some mv) (fun y=>if y=x then some v else m y):=by
 refine xP h<|xA3 fun k l o=>⟨k,rE List.length_set l,fun j y d=>?_⟩;have g:i<c.length:=by
  refine T1 (U1 i c.length) (fun h=>h) fun h=>?_
  .exact have a:=(dG h)▸a;xns a
 by_cases b:j=i
 .subst b;have:y=x:=by replace a:=d▸a;exact cw a
  refine rS this ?_;dsimp only;exact iP rfl<|rE (List.getElem?_set_self<|by rw[l];exact g)<|.some n
 .have f:y≠x:=by
   intro e;revert a;exact rS e fun a=>b<|(List.getElem?_inj (by
    refine T1 (U1 j c.length) (fun h=>h) fun h=>?_
    .replace d:=(dG h)▸d;exact xns d) k).mp<|d.trans a.symm
  dsimp only;exact iN f<|rE (List.getElem?_set_ne<|cZ b)<|o j y d
structure Sm (s s':Shared):Prop where
 os:s'.os=s.os
 drawn:s'.drawn=s.drawn
 gens:AllBare s.gens->AllBare s'.gens
 De:∀(i:Nat) (g:GenState),s.gens[i]?=some g->s'.gens[i]?=some g
theorem Sm.refl (s:Shared):Sm s s:=⟨rfl,rfl,id,fun _ _ h=>h⟩
theorem Sm.trans (x:Sm a b) (y:Sm b c):Sm a c:=⟨y.os.trans x.os,y.drawn.trans x.drawn,fun h=>y.gens<|x.gens h,fun i g h=>y.De i g<|x.De i g h⟩
theorem Sm.ht (s:Shared) (h:Heap) (t:Nat):Sm s {s with heap:=h,toks:=t}:=⟨rfl,rfl,id,fun _ _ h=>h⟩
theorem Sm.t (s:Shared) (t:Nat):Sm s {s with toks:=t}:=⟨rfl,rfl,id,fun _ _ h=>h⟩
theorem Sm.h (s:Shared) (h:Heap):Sm s {s with heap:=h}:=⟨rfl,rfl,id,fun _ _ h=>h⟩
theorem SR.D8 {h₀ L h}(R:SR h₀ L h G){a xs}(e:G a=some (.list xs)):∃ b n,h.get? a=some (listOf (List.toArray b) n)/\VRs b xs:=by
 refine bc fun g=>xE1 (R.get e) fun j=>xA3 fun c f=>?_;revert f;refine xF2 fun b n=>xA2 fun d=>?_;revert c;exact rE d fun c=>fun i=>fun _=>g ⟨b,n,c,i⟩
theorem SR.isList {h₀ L h}(R:SR h₀ L h G){a xs}(e:G a=some (.list xs)):∃ b,h.IsList a (List.toArray b)/\VRs b xs:=bc fun c=>xE2 (R.D8 e) fun b n=>xA2 fun f d=>c ⟨b,⟨_,f,rfl,n,rfl⟩,d⟩
theorem SR.turn {L a:Addr}{m:Str->Option Value}{G:St}{o:MO}{i:Obj}(F:Fr c L h m) (R:SR c L h G) (e:G a=some o) (j:Heap.SameBut a h g)
  (w:g.get? a=some i) (v:mo.Is i):Fr c L g m/\SR c L g (G.set a mo):=by
 refine bc fun t=>gG R fun f N r=>gG (r a o e) fun s u l=>t<|have n:=N _ u;⟨⟨F.ns.sameBut j<|cZ n.2.1,fun b x q=>(j.2 b fun z=>?_).trans<|F.keep b x q,F.above⟩,(a,i)::f.filter fun p=>decide<|p.1≠a,fun p k=>?_,r.upd v⟩
 .exact have q:=n.2.2▸z▸q;xns q
 .refine mC k ⟨w,n.2⟩ fun k=>?_
  .have d:=b9.mp k;exact⟨(j.2 p.1<|bU d.2).trans (N p d.1).1,(N p d.1).2⟩
theorem SR.EX (F:Fr b L h m) (R:SR b L h G) (e:G a=some (.list c))
  (g:h.get? a=some (listOf (List.toArray vs) n)) (i:f (List.toArray vs)=List.toArray vs') (d:VRs vs' ys):Fr b L (h.update a<|Obj.mapSeq f) m/\SR b L (h.update a<|Obj.mapSeq f) (G.set a<|.list ys):=by
 have q:=PySem.IsL.update g f;replace q:=i▸q;exact R.turn F e (Heap.SameBut.update ..) q ⟨vs',_,rfl,d⟩
theorem SR.inst {h₀ L h}(R:SR h₀ L h G){x C d:Addr}{k f}(e:G x=some (.inst C d)) (p:G d=some (.dict k f)) :
  ∃ a n,InstAt h x (instObj C d) C (some<|dictOf a n)/\a.length<=k/\∀ y,∃ v,getL y a=some v/\OVR v (f y):=by
 refine bc fun j=>gH (R.get e) fun r c o _=>xE1 (R.get p) fun q=>xA3 fun b i=>?_;revert i;refine xF2 fun a n=>xA2 fun g=>?_;revert b;refine rE g fun b=>xA2 fun l m=>fun _=>j ?_;revert c;exact rE o fun c=>⟨a,n,⟨c,rfl,rfl,b⟩,l,m⟩
theorem MS :∀(b:List DictEntry) (y:Str) (o:Option Value),getL y b=some o->
  getL y (putL a d (.str a f) v b)=some (if y=a then some v else o):=by
 intro b y o h;by_cases i:y=a
 .subst i;refine iP rfl ?_;have k:∀ b:List DictEntry,(putL y d (.str y f) v b).find? (·.key.isStr y)=some ⟨((b.find? (·.key.isStr y)).map (·.hash)).getD d,((b.find? (·.key.isStr y)).map (·.key)).getD<|.str y f,v⟩:=by
   intro b;induction b with
   |nil=>simp[putL,Value.isStr]
   |cons e r g=>
    unfold putL;by_cases c:e.key.isStr y=true
    .refine iP c<|rE (List.find?_cons_of_pos<|by exact c)<|rE (List.find?_cons_of_pos<|by exact c) ?_;rfl
    .exact iN c<|rE (cv<|by simpa using c)<|rE (cv<|by simpa using c) g
  unfold getL;exact rE (k ..) rfl
 .refine iN i ?_;have k:∀ b:List DictEntry,(putL a d (.str a f) v b).find? (·.key.isStr y)=b.find? (·.key.isStr y):=by
   intro b;induction b with
   |nil=>
    have:(Value.str a f).isStr y=false:=by
     refine bE ((Value.str a f).isStr y) (fun q=>?_) fun q=>absurd (Value.isStr_inj (.str a f) y a q<|by simp[Value.isStr]) i
     .rfl
    simp[putL,this]
   |cons e r g=>
    unfold putL;by_cases c:e.key.isStr a=true
    .refine iP c ?_;have:e.key.isStr y=false:=by
      refine bE (e.key.isStr y) (fun q=>?_) fun q=>absurd (Value.isStr_inj e.key y a q c) i
      .rfl
     exact rE2 (cv<|by simp[this]) (cv<|by simp[this]) rfl
    .refine iN c ?_;by_cases j:e.key.isStr y=true
     .exact rE2 (List.find?_cons_of_pos<|by exact j) (List.find?_cons_of_pos<|by exact j) rfl
     .exact rE2 (cv<|by simpa using j) (cv<|by simpa using j) g
  have l:∀ b:List DictEntry,(putL a d (.str a f) v b).any (·.refKey)=b.any (·.refKey):=by
   intro b;induction b with
   |nil=>simp[putL,DictEntry.refKey]
   |cons e r g=>
    unfold putL;by_cases c:e.key.isStr a=true
    .exact iP c rfl
    .exact iN c<|rE2 cP cP<|rE g rfl
  unfold getL at h ⊢;exact rE2 (k ..) (l ..) h
theorem MT :∀ b:List DictEntry,(putL a f d v b).length=if(b.find? (·.key.isStr a)).isSome then b.length else b.length+1:=by
 intro b;induction b with
 |nil=>simp[putL]
 |cons e r g=>
  unfold putL;by_cases c:e.key.isStr a=true
  .refine iP c<|rE (List.find?_cons_of_pos<|by exact c) ?_;simp
  .refine iN c<|rE (cv<|by simpa using c)<|rE cJ<|rE g ?_;split<;>simp
noncomputable def V7 (K:Frag) (c:Addr):Option (Array Value):=(K.lookup c).bind fun o=>match o.data with|.fields v=>some v|_=>none
noncomputable def YM (K:Frag) (c:Addr):Option ClassData:=(K.lookup c).bind fun o=>match o.data with|.cls v=>some v|_=>none
noncomputable def VN (K:Frag) (c:Addr):Option (Option Value):=(K.lookup c).bind fun o=>match o.data with|.cell v=>some v|_=>none
noncomputable def V8 (K:Frag) (c:Addr):Option (List Value):=(K.lookup c).bind fun o=>match o.data with|.seq v _=>some v.toList|_=>none
theorem OT {K:Frag}{x}(h:V7 K c=some x):∃ o,K.lookup c=some o/\o.data=.fields x:=
 gG (bQ.mp h) fun o a b=>⟨o,a,by generalize o.data=d at b ⊢;induction d<;>first|exact xns b|exact cT _ (so b)⟩
theorem TF {K:Frag}{x}(h:YM K c=some x):∃ o,K.lookup c=some o/\o.data=.cls x:=
 gG (bQ.mp h) fun o a b=>⟨o,a,by generalize o.data=d at b ⊢;induction d<;>first|exact xns b|exact cT _ (so b)⟩
theorem QR {K:Frag}{x}(h:VN K c=some x):∃ o,K.lookup c=some o/\o.data=.cell x:=
 gG (bQ.mp h) fun o a b=>⟨o,a,by generalize o.data=d at b ⊢;induction d<;>first|exact xns b|exact cT _ (so b)⟩
theorem IK {K:Frag}{x}(h:V8 K c=some x):∃ o n,K.lookup c=some o/\o.data=.seq x.toArray n:=
 gG (bQ.mp h) fun o a b=>(fun(q:∃ n,o.data=.seq x.toArray n)=>q.elim fun n q=>⟨o,n,a,q⟩) (by generalize o.data=d at b ⊢;induction d<;>first|exact xns b|exact⟨_,rS (so b) rfl⟩)
structure PX where
 prog:Program
 w:World
 K:Frag
 p:Program
 loose:List Str
 K3:ExcName->Option Value
 mg:Str->Option Value
 mb:Str->Option Value
noncomputable abbrev PX.md (Z:PX):Model:=model Z.prog Z.w
structure FC where
 qual:Str
 scope:Scope
 f:Addr
 cdv:Value
 cl:List<|Str×Addr
 vs:List Str
 n:Nat
abbrev iL (c:FC)(x:Str):Prop:=c.scope.names.lookup x=some .local
abbrev iK (c:FC):Prop:=c.scope.kind=.function
abbrev jD (x:Str):Prop:=(x==("__debug__":Str))=false
noncomputable def FC.env (c:FC) (L:Addr):Env:=envX c.qual c.scope L c.f c.cdv c.cl
structure Cx (Z:PX) (n:Nat) (A:Around) (h₀:Heap) (L:Addr) (env:Env):Prop where
 hh:A.handled=none
 dep:A.depth+n<recursionLimit
 un:A.units+8*n<cLine
 X:Z.K.In h₀
 T:Top Z.p Z.loose Z.K3 Z.mg Z.mb h₀
 bel:∃ A₀ base outer,Below A₀ base outer h₀/\A.frames=some (env::outer)
 fr:env.frame=some L
 kf:env.scope.kind=.function
 tp:env.code=.ref 503->∃ A₀,Below A₀ h₀ [] h₀/\A.frames=some [env]
noncomputable abbrev LS:=List<|Option MV
noncomputable abbrev VT:=LS->St->(MV->St->Prop)->Prop
noncomputable abbrev BT:=LS->St->(Bool->St->Prop)->Prop
set_option genCtorIdx true in
inductive MF where
 |next|brk|cont
 |ret (v:MV)
noncomputable abbrev XT:=LS->St->(MF->LS->St->Prop)->Prop
inductive FlR:Flow->MF->Prop
 |next:FlR .next .next
 |brk:FlR .brk .brk
 |cont:FlR .cont .cont
 |ret {v m}:VR v m->FlR (.ret v) (.ret m)
theorem FlR.ine {f}(h:FlR f .next):f=.next:=by cases h;rfl
theorem FlR.ico {f}(h:FlR f .cont):f=.cont:=by cases h;rfl
theorem FlR.ibr {f}(h:FlR f .brk):f=.brk:=by cases h;rfl
theorem FlR.kre {f m}{g:Prop}(h:FlR f<|.ret m) (k:∀ v,f=.ret v->VR v m->g):g:=by
 cases h with
 |ret h=>exact k _ rfl h
noncomputable def Ev (Z:PX) (c:FC) (e:Expr) (T:VT):Prop:=
 ∀ ⦃A:Around⦄ ⦃a:Heap⦄ ⦃L:Addr⦄ ⦃s:Shared⦄ ⦃m:Str->Option Value⦄ ⦃d:LS⦄ ⦃G:St⦄ ⦃P:MV->St->Prop⦄ ⦃Q:Value->Shared->Prop⦄ ⦃E:Value->Shared->Prop⦄,
  Cx Z c.n A a L (c.env L)->Fr a L s.heap m->LR c.vs d m->SR a L s.heap G->T d G P->
  (∀ v mv f b,VR v mv->P mv f->Sm s b->Fr a L b.heap m->SR a L b.heap f->Q v b)->
  wpAny Z.md A (eval e<|c.env L) Q E s
noncomputable def Tt (Z:PX) (c:FC) (e:Expr) (T:BT):Prop:=
 ∀ ⦃A:Around⦄ ⦃a:Heap⦄ ⦃L:Addr⦄ ⦃s:Shared⦄ ⦃m:Str->Option Value⦄ ⦃f:LS⦄ ⦃G:St⦄ ⦃P:Bool->St->Prop⦄ ⦃Q:Bool->Shared->Prop⦄ ⦃E:Value->Shared->Prop⦄,
  Cx Z c.n A a L (c.env L)->Fr a L s.heap m->LR c.vs f m->SR a L s.heap G->T f G P->
  (∀ b g d,P b g->Sm s d->Fr a L d.heap m->SR a L d.heap g->Q b d)->
  wpAny Z.md A (isTrue e (c.env L)<|eval e<|c.env L) Q E s
noncomputable def Es (Z:PX) (c:FC) (i:List Expr) (T:LS->St->(List MV->St->Prop)->Prop):Prop:=
 ∀ ⦃A:Around⦄ ⦃a:Heap⦄ ⦃L:Addr⦄ ⦃s:Shared⦄ ⦃m:Str->Option Value⦄ ⦃g:LS⦄ ⦃G:St⦄ ⦃P:List MV->St->Prop⦄ ⦃Q:List Value->Shared->Prop⦄ ⦃E:Value->Shared->Prop⦄ ⦃d:Pos⦄,
  Cx Z c.n A a L (c.env L)->Fr a L s.heap m->LR c.vs g m->SR a L s.heap G->T g G P->
  (∀ e f h b,VRs e f->P f h->Sm s b->Fr a L b.heap m->SR a L b.heap h->Q e b)->
  wpAny Z.md A (spliced<|backTo d<|starEach i<|c.env L) Q E s
noncomputable def Ss (Z:PX) (c:FC) (j:Stmt) (T:XT):Prop:=
 ∀ ⦃A:Around⦄ ⦃a:Heap⦄ ⦃L:Addr⦄ ⦃s:Shared⦄ ⦃m:Str->Option Value⦄ ⦃h:LS⦄ ⦃G:St⦄ ⦃P:MF->LS->St->Prop⦄ ⦃Q:Flow->Shared->Prop⦄ ⦃E:Value->Shared->Prop⦄,
  Cx Z c.n A a L (c.env L)->Fr a L s.heap m->LR c.vs h m->SR a L s.heap G->T h G P->
  (∀ f e b i g d,FlR f e->P e b i->Sm s d->Fr a L d.heap g->LR c.vs b g->SR a L d.heap i->Q f d)->
  wpAny Z.md A (exec j<|c.env L) Q E s
noncomputable def Ex (Z:PX) (c:FC) (e:List Stmt) (T:XT):Prop:=
 ∀ ⦃A:Around⦄ ⦃a:Heap⦄ ⦃L:Addr⦄ ⦃s:Shared⦄ ⦃m:Str->Option Value⦄ ⦃i:LS⦄ ⦃G:St⦄ ⦃P:MF->LS->St->Prop⦄ ⦃Q:Flow->Shared->Prop⦄ ⦃E:Value->Shared->Prop⦄,
  Cx Z c.n A a L (c.env L)->Fr a L s.heap m->LR c.vs i m->SR a L s.heap G->T i G P->
  (∀ f g b j h d,FlR f g->P g b j->Sm s d->Fr a L d.heap h->LR c.vs b h->SR a L d.heap j->Q f d)->
  wpAny Z.md A (execs e<|c.env L) Q E s
section
variable {Z:PX}{c:FC}
noncomputable def B3 (i:Nat):VT:=fun a G P=>match(a[i]?).join with|some v=>P v G|none=>False
theorem AQ (i:Nat)(k:autoParam (c.vs[i]?=some x) rf)(j:autoParam (iK c) rf)(h:autoParam (iL c x) rf)(l:autoParam (jD x) rf):Ev Z c (.Name x b) (B3 i):=by
 intro A d L s m f G P Q E p F g R t q;unfold B3 at t;refine oE ((f[i]?).join) (fun a=>?_) fun mv a=>?_
 .rw [a]at t;exact t.elim
 .rw [a]at t;refine bc fun e=>?_;obtain⟨v,o,n⟩:=g.get k a;exact e<|nameX_L F o (q v mv G s n t (Sm.refl s) F R) j h l
noncomputable def Br (v:MV):VT:=fun _ G P=>P v G
theorem Be (e:nsIn Z.K mainGlobals x=some (some<|.ref a))(h:autoParam (iK c) rf)(g:autoParam (c.scope.names.lookup x=some .globalImplicit) rf)(i:autoParam (jD x) rf):Ev Z c (.Name x b) (Br<|.ref a):=fun A d L s m j G P Q E f F k R t q=>nameX_K F f.X (topRead_of f.T) e (q _ _ G s (.ref a) t (Sm.refl s) F R) h g i
theorem DN {v:Value}{mv:MV}(e:nsIn Z.K mainGlobals x=some none)(g:bootBuiltins x=some v)(h:VR v mv)(j:iK c)(f:c.scope.names.lookup x=some .globalImplicit)(k:jD x)(i:autoParam (x ≠ "__name__") dc):Ev Z c (.Name x a) (Br mv):=fun A b L s m l G P Q E d F n R t q=>nameX_B F d.X (topRead_of d.T) e g i (q _ _ G s h t (Sm.refl s) F R) j f k
theorem AE :Ev Z c (.Constant (.int i) k a) (Br<|.int i):=fun A b L s m d G P Q E f F e R t q=>wpAny_Constant_int<|q _ _ G _ (.int i _) t (Sm.t s _) F R
theorem Bf :Ev Z c (.Constant (.bool b) k a) (Br<|.bool b):=fun A d L s m e G P Q E g F f R t q=>wpAny_Constant_bool<|q _ _ G _ (.bool b) t (Sm.refl s) F R
theorem K4 :Ev Z c (.Constant .none k a) (Br .none):=fun A b L s m d G P Q E f F e R t q=>wpAny_Constant_none<|q _ _ G _ .none t (Sm.refl s) F R
noncomputable def YN (a:Operator) (i j:Int) (k:MV->Prop):Prop:=match a with
 |.Add=>k<|.int<|i+j
 |.Sub=>k<|.int<|i-j
 |.Mult=>IntMulOk i j/\k (.int<|i*j)
 |.FloorDiv=>(j≠0/\j.natAbs<1073741824)/\k (.int<|i.fdiv j)
 |.Mod=>j≠0/\k (.int<|i.fmod j)
 |.LShift=>(0<=j/\j<=1000000/\i.natAbs<2^64)/\k (.int<|i*2^j.toNat)
 |.RShift=>0<=j/\k (.int<|i.fdiv<|2^j.toNat)
 |.BitAnd=>k<|.int<|Builtin.bitAnd i j
 |.BitOr=>k<|.int<|Builtin.bitOr i j
 |_=>False
noncomputable def V9 (d:Operator) (a b:MV) (k:MV->Prop):Prop:=match a,b with
 |.int i,.int j=>YN d i j k
 |_,_=>False
theorem mv1 {j:Int->Int->Prop}{g:Prop}(e:match i,h with|MV.int b,MV.int a=>j b a|_,_=>False) (m:∀ b a,i=MV.int b->h=MV.int a->j b a->g):g:=by
 generalize l:i=f at e;generalize k:h=d at e;revert e l k;exact MV.casesOn f (fun _ _=>False.elim) (fun _ _ _=>False.elim) (fun o=>MV.casesOn d (fun _ _=>False.elim) (fun _ _ _=>False.elim) (fun n=>m _ _) (fun _ _ _=>False.elim) (fun _ _ _=>False.elim) (fun _ _ _=>False.elim) fun _ _ _=>False.elim) (fun _ _ _=>False.elim) (fun _ _ _=>False.elim) (fun _ _ _=>False.elim) fun _ _ _=>False.elim
theorem TG (f:VR i a) (e:VR g b) (h:V9 d a b k)
  (q:∀ v mv t,VR v mv->k mv->Q v {s with toks:=t}):wpAny Z.md A (binaryOp d i g) Q E s:=by
 unfold V9 at h;refine mv1 h ?_
 .clear h;refine fun _ _=>fun z=>?_;revert f;refine rE z fun f=>fun z=>?_;revert e;refine rE z fun e=>fun h=>VR.kin f fun _ z=>rE z<|VR.kin e fun _ z=>rE z ?_;induction d with
  |Add=>exact add_int<|q _ _ _ (.int ..) h
  |Sub=>exact sub_int<|q _ _ _ (.int ..) h
  |Mult=>exact mul_int (q _ _ _ (.int ..) h.2) h.1
  |FloorDiv=>exact floordiv_int h.1.1 (q _ _ _ (.int ..) h.2)<|.inl<|PyProof.noPylong_small h.1.2
  |Mod=>exact mod_int h.1<|q _ _ _ (.int ..) h.2
  |LShift=>exact lshift_int_small h.1.1 h.1.2.1 h.1.2.2<|q _ _ _ (.int ..) h.2
  |RShift=>exact rshift_int h.1<|q _ _ _ (.int ..) h.2
  |BitAnd=>exact and_int<|q _ _ _ (.int ..) h
  |BitOr=>exact or_int<|q _ _ _ (.int ..) h
  |_=>exact h.elim
noncomputable def YO (e:Operator) (g f:VT):VT:=fun d G P=>g d G fun a i=>f d i fun b h=>V9 e a b fun v=>P v h
theorem Ih (y:Ev Z c l n) (x:Ev Z c r k):Ev Z c (.BinOp l g r d) (YO g n k):=fun A i L s m M G P Q E j F h R t q=>wpAny_BinOp<|y j F h R t fun v mv N K f p b H B=>x j H h B p fun I u C J e o a D z=>TG f e o fun v mv t f w=>q v mv C _ f w ((b.trans a).trans<|Sm.t _ _) D z
noncomputable def mun (b:PySem.UnaryOp) (a:MV) (k:MV->Prop):Prop:=match b,a with
 |.USub,.int i=>k<|.int<|-i
 |.Invert,.int i=>k<|.int<|Builtin.bitNot i
 |_,_=>False
noncomputable def tUn (b:PySem.UnaryOp) (T:VT):VT:=fun d G P=>T d G fun a e=>mun b a fun v=>P v e
theorem mv2 {h:Int->Prop}{f:Int->Prop}{g:Prop}(e:match d,b with|UnaryOp.USub,MV.int a=>h a|UnaryOp.Invert,MV.int a=>f a|_,_=>False) (j:∀ a,d=UnaryOp.USub->b=MV.int a->h a->g) (i:∀ a,d=UnaryOp.Invert->b=MV.int a->f a->g):g:=by
 induction d with
 |USub=>induction b with
  |int l=>exact j _ rfl rfl e
  |_=>exact e.elim
 |Invert=>induction b with
  |int k=>exact i _ rfl rfl e
  |_=>exact e.elim
 |_=>exact e.elim
theorem QT (l:Ev Z c x T):Ev Z c (.UnaryOp f x e) (tUn f T):=by
 refine fun A g L s m p G P Q E n F k R t q=>UnaryOp_<|l n F k R t fun v mv i o d a b j h=>?_;unfold mun at a;refine mv2 a ?_ ?_
 .clear a;intro _;intro z;revert t;refine rE z ?_;intro t;intro z;subst z;intro a;refine VR.kin d fun _ z=>?_;clear d;subst z;exact neg_int<|q _ _ i _ (.int ..) a (b.trans<|Sm.t _ _) j h
 .clear a;intro _;intro z;revert t;refine rE z ?_;intro t;intro z;subst z;intro a;refine VR.kin d fun _ z=>?_;clear d;subst z;exact invert_int<|q _ _ i _ (.int ..) a (b.trans<|Sm.t _ _) j h
noncomputable def WA:CmpOp->Int->Int->Option Bool
 |.Eq,i,j=>some<|i==j
 |.NotEq,i,j=>some<|i != j
 |.Lt,i,j=>some<|decide<|i<j
 |.LtE,i,j=>some<|decide<|i<=j
 |.Gt,i,j=>some<|decide<|j<i
 |.GtE,i,j=>some<|decide<|j<=i
 |_,_,_=>none
noncomputable def NM:CmpOp->Bool->Option Bool
 |.Is,r=>some r
 |_,_=>none
noncomputable def YP:CmpOp->Bool->Bool->Option Bool
 |.NotEq,p,r=>some<|p != r
 |.Is,p,r=>some<|p==r
 |_,_,_=>none
noncomputable def VO:CmpOp->Bool->Int->Option Bool
 |.Eq,p,j=>some<|(if p then 1 else 0)==j
 |_,_,_=>none
def D5 (d:CmpOp) (a b:MV):Option Bool:=match a with
 |.int i=>(match b with|.int j=>WA d i j|.none=>NM d false|_=>none)
 |.bool p=>(match b with|.bool r=>YP d p r|.int j=>VO d p j|_=>none)
 |.none=>(match b with|.none=>NM d true|_=>none)
 |.ref _=>(match b with|.none=>NM d false|_=>none)
 |_=>none
noncomputable def OU (d:CmpOp) (a b:MV) (k:Bool->Prop):Prop:=∃ r,D5 d a b=some r/\k r
section
variable {A:Around}{E:Value->Shared->Prop}{s:Shared}{c:CmpOp}{k:Bool->Prop}{Q:Value->Shared->Prop}{r:Bool}
theorem TH (h:WA c i j=some r) (q:Q (.bool r) s):wpAny Z.md A (compareOp c (.int i t)<|.int j u) Q E s:=by
 induction c with
 |Eq=>(have z:=so h;clear h;subst z);exact eq_int q
 |NotEq=>(have z:=so h;clear h;subst z);exact ne_int q
 |Lt=>(have z:=so h;clear h;subst z);exact lt_int q
 |LtE=>(have z:=so h;clear h;subst z);exact le_int q
 |Gt=>(have z:=so h;clear h;subst z);exact gt_int q
 |GtE=>(have z:=so h;clear h;subst z);exact ge_int q
 |_=>exact xns h
theorem mcI {g:Prop}(h:D5 c a b=some r) (n:∀ i j,a=.int i->b=.int j->WA c i j=some r->g) (m:∀ i,a=.int i->b=.none->NM c false=some r->g)
  (l:∀ p t,a=.bool p->b=.bool t->YP c p t=some r->g) (f:∀ p j,a=.bool p->b=.int j->VO c p j=some r->g) (e:a=.none->b=.none->NM c true=some r->g) (d:∀ x,a=.ref x->b=.none->NM c false=some r->g):g:=by
 generalize z:a=x at h;generalize y:b=w at h;revert h y z;exact MV.casesOn x (MV.casesOn w e (fun _ _ _=>xns) (fun _ _ _=>xns) (fun _ _ _=>xns) (fun _ _ _=>xns) (fun _ _ _=>xns) (fun _ _ _=>xns))
  (fun p=>MV.casesOn w (fun _ _=>xns) (l p) (f p) (fun _ _ _=>xns) (fun _ _ _=>xns) (fun _ _ _=>xns) (fun _ _ _=>xns))
  (fun i=>MV.casesOn w (m i) (fun _ _ _=>xns) (n i) (fun _ _ _=>xns) (fun _ _ _=>xns) (fun _ _ _=>xns) (fun _ _ _=>xns))
  (fun _ _ _=>xns) (fun i=>MV.casesOn w (d i) (fun _ _ _=>xns) (fun _ _ _=>xns) (fun _ _ _=>xns) (fun _ _ _=>xns) (fun _ _ _=>xns) (fun _ _ _=>xns))
  (fun _ _ _=>xns) (fun _ _ _=>xns)
@[elab_as_elim] theorem ncI {g:CmpOp->Prop}(h:NM c b=some r) (k:b=r->g .Is):g c:=by
 induction c with
 |Is=>exact k<|so h
 |_=>exact xns h
theorem OV {m l:Value}(e:VR m a) (d:VR l b) (h:OU c a b k)
  (q:∀ r,k r->Q (.bool r) s):wpAny Z.md A (compareOp c m l) Q E s:=by
 refine gG h fun r h n=>have q:=q r n;mcI h (fun i j y z h=>?_) (fun i y z h=>?_) (fun p t y z h=>?_) (fun p j y z h=>?_) (fun y z h=>?_) (fun x y z h=>?_)<;>have e:=y▸e<;>have d:=z▸d
 .exact VR.kin e fun _ g=>VR.kin d fun _ f=>rE g<|rE f<|TH h q
 .exact VR.kin e fun _ g=>rE g<|rE (VR.ino d)<|ncI h fun z=>is_none_ne (by intro x;cases x)<|z▸q
 .refine rE (VR.ibo e)<|rE (VR.ibo d) ?_;induction c with
  |NotEq=>exact ne_bool<|so h▸q
  |Is=>exact is_bool<|so h▸q
  |_=>exact xns h
 .refine rE (VR.ibo e)<|VR.kin d fun _ f=>rE f ?_;induction c with
  |Eq=>exact EqBoolInt.eq_bool_int<|so h▸q
  |_=>exact xns h
 .exact rE (VR.ino e)<|rE (VR.ino d)<|ncI h fun z=>is_none_none<|z▸q
 .exact rE (VR.irf e)<|rE (VR.ino d)<|ncI h fun z=>is_ref_none<|z▸q
end
noncomputable def YQ (e:CmpOp) (g f:VT):VT:=fun d G P=>g d G fun a i=>f d i fun b h=>OU e a b fun r=>P (.bool r) h
noncomputable def VP (e:CmpOp) (g f:VT):BT:=fun d G P=>g d G fun a i=>f d i fun b h=>OU e a b fun r=>P r h
theorem WB (z:Ev Z c l k) (y:Ev Z c r j) (w:behindInMarks e r=false):Ev Z c (.Compare l [e] [r] d) (YQ e k j):=fun A h L s m N G P Q E i F g R t q=>wpAny_Compare1 (z i F g R t fun v mv O M u o b I C=>y i I g C o fun J p D K f n a H B=>OV u f n fun r x=>q _ _ D _ (.bool r) x (b.trans a) H B) w
theorem WC (z:Ev Z c l k) (y:Ev Z c r j) (w:behindInMarks e r=false):Tt Z c (.Compare l [e] [r] d) (VP e k j):=fun A h L s m N G P Q E i F g R t q=>wpAny_isTrue_Compare1 (z i F g R t fun v mv O M u o b I C=>y i I g C o fun J p D K f n a H B=>OV u f n fun r x=>wpAny_truthy_bool<|q _ D _ x (b.trans a) H B) w
noncomputable def mtr (a:MV) (k:Bool->Prop):Prop:=match a with
 |.bool b=>k b
 |.int i=>k<|i != 0
 |.none=>k false
 |_=>False
theorem mv3 {i:Bool->Prop}{h:Int->Prop}{g:Prop}(e:match b with|MV.bool a=>i a|MV.int a=>h a|MV.none=>f|_=>False) (m:∀ a,b=MV.bool a->i a->g) (l:∀ a,b=MV.int a->h a->g) (k:b=MV.none->f->g):g:=by
 generalize j:b=d at e;revert e j;exact MV.casesOn d k (fun o=>m _) (fun n=>l _) (fun _ _=>False.elim) (fun _ _=>False.elim) (fun _ _=>False.elim) fun _ _=>False.elim
theorem K5 (b:VR d a) (h:mtr a k)
  (q:∀ r,k r->Q r s):wpAny Z.md A (truthy d) Q E s:=by
 unfold mtr at h;refine mv3 h ?_ ?_ ?_
 .refine fun _=>fun z=>?_;revert b;exact rE z fun b=>fun h=>have z:=VR.ibo b;rE z<|wpAny_truthy_bool<|q _ h
 .refine fun _=>fun z=>?_;revert b;exact rE z fun b=>fun h=>VR.kin b fun _ z=>rE z<|truthy_int<|q _ h
 .intro z;revert b;exact rE z fun b=>fun h=>have z:=VR.ino b;rE z<|truthy_none<|q _ h
noncomputable def tTr (T:VT):BT:=fun d G P=>T d G fun a e=>mtr a fun b=>P b e
theorem QU (h:Ev Z c e T) (n:∀ d a,isTrue e d a=(do let v <- a;standAt e.pos;holding [v]<|truthy v)):Tt Z c e (tTr T):=by
 refine fun A f L s m x G P Q E o F j R t q=>isTrue_plain (h o F j R t fun v mv u i k g b w p=>K5 k g fun r l=>q r u i l b w p)<|n _ _
noncomputable def YR (T:BT):BT:=fun a G P=>T a G fun b d=>P (!b) d
theorem NN (h:Tt Z c x T):Tt Z c (.UnaryOp .Not x d) (YR T):=fun A e L s m o G P Q E j F i R t q=>isTrue_not<|h j F i R t fun b l g f a n k=>q _ l g f a n k
noncomputable def YS (f e:BT):BT:=fun a G P=>f a G fun b d=>match b with|true=>e a d P|false=>P false d
noncomputable def Zd (f e:BT):BT:=fun a G P=>f a G fun b d=>match b with|true=>P true d|false=>e a d P
noncomputable def WD:BT:=fun _ G P=>P true G
noncomputable def TJ:BT:=fun _ G P=>P false G
theorem NO :Tt Z c (.BoolOp .And [] a) WD:=fun A b L s m d G P Q E f F e R t q=>isTrue_and_nil<|q _ G s t (Sm.refl s) F R
theorem HI :Tt Z c (.BoolOp .Or [] a) TJ:=fun A b L s m d G P Q E f F e R t q=>isTrue_or_nil<|q _ G s t (Sm.refl s) F R
theorem HJ {x:Expr}{e:Pos}{f:Env}{d:Sem Value}:isTrue (.BoolOp .And a e) f d=isTrue (.BoolOp .And a e) f b:=by
 induction a with
 |nil=>rfl
 |cons=>rfl
theorem Hy {x:Expr}{e:Pos}{f:Env}{d:Sem Value}:isTrue (.BoolOp .Or a e) f d=isTrue (.BoolOp .Or a e) f b:=by
 induction a with
 |nil=>rfl
 |cons=>rfl
theorem QV (w:Tt Z c x l) (v:Tt Z c (.BoolOp .And a e) k):Tt Z c (.BoolOp .And (x::a) e) (YS l k):=by
 refine fun A i L s m D G P Q E j F h R t q=>isTrue_and<|w j F h R t fun b B u g d o n=>?_;induction b with
 |true=>
  simp only[if_true];rw[HJ (x:=x)];exact v j o h n g fun b z r p f C y=>q b z r p (d.trans f) C y
 |false=>exact q _ B u g d o n
theorem KD (w:Tt Z c x l) (v:Tt Z c (.BoolOp .Or a e) k):Tt Z c (.BoolOp .Or (x::a) e) (Zd l k):=by
 refine fun A i L s m D G P Q E j F h R t q=>isTrue_or<|w j F h R t fun b B u g d o n=>?_;induction b with
 |true=>exact q _ B u g d o n
 |false=>
  simp only[dD,if_false];rw[Hy (x:=x)];exact v j o h n g fun b z r p f C y=>q b z r p (d.trans f) C y
noncomputable def Ze (g f:VT):VT:=fun d G P=>g d G fun a e=>mtr a fun b=>match b with|true=>f d e P|false=>P a e
noncomputable def tOr (g f:VT):VT:=fun d G P=>g d G fun a e=>mtr a fun b=>match b with|true=>P a e|false=>f d e P
theorem QW (h:Ev Z c e T):Ev Z c (.BoolOp d [e] a) T:=fun A b L s m i G P Q E g F f R t q=>BoolOp_one<|h g F f R t q
theorem WE (C:Ev Z c d o) (B:Ev Z c (.BoolOp .And (b::a) f) n):Ev Z c (.BoolOp .And (d::b::a) f) (Ze o n):=by
 refine fun A j L s m K G P Q E l F i R t q=>BoolOp_and<|C l F i R t fun v mv I z g x e u p=>K5 g x fun r k=>?_;induction r with
 |true=>exact B l u i p k fun v mv H y g w h J D=>q v mv H y g w (e.trans h) J D
 |false=>exact q _ _ I z g k e u p
theorem YT (C:Ev Z c d o) (B:Ev Z c (.BoolOp .Or (b::a) f) n):Ev Z c (.BoolOp .Or (d::b::a) f) (tOr o n):=by
 refine fun A j L s m K G P Q E l F i R t q=>BoolOp_or<|C l F i R t fun v mv I z g x e u p=>K5 g x fun r k=>?_;induction r with
 |true=>exact q _ _ I z g k e u p
 |false=>exact B l u i p k fun v mv H y g w h J D=>q v mv H y g w (e.trans h) J D
noncomputable def aC (T:VT):VT:=fun d G P=>T d G fun a e=>mtr a fun b=>P (.bool<|!b) e
noncomputable def tIf (T:BT) (f e:VT):VT:=fun a G P=>T a G fun b d=>match b with|true=>f a d P|false=>e a d P
theorem VQ (h:Tt Z c d T) (H:Ev Z c e z) (D:Ev Z c a y):Ev Z c (.IfExp d e a k) (tIf T z y):=by
 refine fun A x L s m J G P Q E o F l R t q=>IfExp_<|h o F l R t fun b K I w g C B=>?_;induction b with
 |true=>exact H o C l B w fun v mv r j n i f u p=>q v mv r j n i (g.trans f) u p
 |false=>exact D o C l B w fun v mv r j n i f u p=>q v mv r j n i (g.trans f) u p
end
noncomputable def Dh (e:Expr):Bool:=e.ctorIdx==16
set_option tactic.hygienic true in theorem Cw (h:Dh o=false) (a:Str) (b:Env) (w:Sem Value):attributeBase o a b w=w:=by
 revert h;apply @Expr.casesOn _ o<;>intros<;>first|rfl|(rename_i h;exact xtf h)
noncomputable def Cy (e:Expr):Bool:=e.ctorIdx != 26
set_option tactic.hygienic true in theorem KG (h:Cy e=true) (o i:Value):subscripted e false o i=operate [o,i] (getItem o i):=by
 revert h;apply @Expr.casesOn _ e<;>intros<;>first|rfl|(rename_i h;exact xft h)
set_option tactic.hygienic true in theorem NP (h:Cy e=true) (o i:Value):subscripted e true o i=runValue (.builtin "lifetime.subscript" ⟨[o,i],[]⟩):=by
 revert h;apply @Expr.casesOn _ e<;>intros<;>first|rfl|(rename_i h;exact xft h)
noncomputable def notStar (e:Expr):Bool:=e.ctorIdx != 22
set_option tactic.hygienic true in theorem Ck (h:notStar e=true) (b:List Expr) (a:Env):starEach (e::b) a=(false,eval e a)::starEach b a:=by
 revert h;apply @Expr.casesOn _ e<;>intros<;>first|rfl|(rename_i h;exact xft h)
noncomputable def CO (e:Expr):Bool:=!(e.ctorIdx==8 ||e.ctorIdx==9 ||e.ctorIdx==10)
set_option tactic.hygienic true in theorem Bn (h:CO e=true) (t:Option Expr) (l:Nat) (a:Env):swapsWith e t l a=pure false:=by
 revert h;apply @Expr.casesOn _ e<;>intros<;>first|rfl|(rename_i h;exact xft h)
noncomputable def Fp (e:Expr):Bool:=!(e.ctorIdx==0 ||e.ctorIdx==3 ||e.ctorIdx==5 ||e.ctorIdx==15)
set_option tactic.hygienic true in theorem Ii (h:Fp e=true) (b:Env) (a:Sem Value):isTrue e b a=(do let v <- a;standAt e.pos;holding [v]<|truthy v):=by
 revert h;apply @Expr.casesOn _ e<;>intros<;>first|rfl|(rename_i h;exact xft h)
noncomputable def Dc (e:Expr):Bool:=e.ctorIdx != 7
set_option tactic.hygienic true in theorem CT (h:Dc e=true) (a:CmpOp):behindInMarks a e=false:=by
 revert h;apply @Expr.casesOn _ e<;>intros<;>first|rfl|(rename_i h;exact xft h)
theorem Cx.less (x:Cx Z n A a L b) (h:c<=n):Cx Z c A a L b:=
 ⟨x.hh,by have:=x.dep;exact (la4 0xe08c088180084c08020200212) h this,by have:=x.un;exact (la4 0x310230920602180426040101010c0212) h this,x.X,x.T,x.bel,x.fr,x.kf,x.tp⟩
theorem Cx.in1 {A:Around}{a:Heap}(x:Cx Z n A a L c) (h:n'+1<=n):Cx Z n' A.in1 a L c:=
 ⟨x.hh,by have:=x.dep;simp only[Around.in1_depth];exact (la4 0x3823022060021302442020200212) h this,by have:=x.un;simp only[Around.in1_units];exact (la4 0x3102309206021804260488404040431201212) h this,x.X,x.T,let⟨e,d,b,B,f⟩:=x.bel;⟨e,d,b,B,f⟩,x.fr,x.kf,x.tp⟩
noncomputable def Sp (Z:PX) (n:Nat) (f:Addr) (T:List MV->St->(MV->St->Prop)->Prop):Prop:=
 ∀ ⦃A:Around⦄ ⦃a:Heap⦄ ⦃L:Addr⦄ ⦃e:Env⦄ ⦃s:Shared⦄ ⦃m:Str->Option Value⦄ ⦃G:St⦄ ⦃P:MV->St->Prop⦄ ⦃g:Result->Shared->Prop⦄ ⦃b:List Value⦄ ⦃c:List MV⦄,
  Cx Z n A a L e->Fr a L s.heap m->SR a L s.heap G->VRs b c->T c G P->
  (∀ v mv h d,VR v mv->P mv h->Sm s d->Fr a L d.heap m->SR a L d.heap h->g (.ok<|.ret v) d)->
  codeAny Z.md A (.call (.ref f) ⟨b,[]⟩) g s
theorem Sp.call (h:Sp Z n f T)
  (i:Cx Z n A a L d) (F:Fr a L s.heap m) (R:SR a L s.heap G) (g:VRs b args) (t:T args G P)
  (q:∀ v mv e c,VR v mv->P mv e->Sm s c->Fr a L c.heap m->SR a L c.heap e->Q v c):wpAny Z.md A (PySem.call (.ref f) b) Q E s:=
 wpAny_call<|h i F R g t q
theorem Sp.weaken (h:Sp Z n f T) (g:∀ a G P,d a G P->T a G P):Sp Z n f d:=fun A c L i s m G P k b a j F R e t q=>h j F R e (g _ _ _ t) q
theorem Sp.more (h:Sp Z n f T) (g:n<=b):Sp Z b f T:=fun A c L i s m G P k a d j F R e t q=>h (j.less g) F R e t q
noncomputable def St.cls (G:St) (x:Addr):Option Addr:=match G x with|some (.inst C _)=>some C|_=>none
noncomputable def St.fld (G:St) (x:Addr) (a:Str):Option MV:=match G x with
 |some (.inst _ d)=>(match G d with|some (.dict _ f)=>f a|_=>none)
 |_=>none
noncomputable def St.CA (G:St) (x C:Addr) (k:Addr->Nat->(Str->Option MV)->Prop):Prop:=match G x with
 |some (.inst a d)=>a=C/\(match G d with|some (.dict n f)=>k d n f|_=>False)
 |_=>False
theorem mv4 {f:Addr->Addr->Prop}{g:Prop}(e:match d with|some (MO.inst b a)=>f b a|_=>False) (j:∀ b a,d=some (MO.inst b a)->f b a->g):g:=by
 generalize h:d=c at e;revert e h;exact Option.casesOn c (fun _=>False.elim) fun i=>MO.casesOn i (fun _ _=>False.elim) (fun l k=>j _ _) (fun _ _ _=>False.elim) (fun _ _=>False.elim) (fun _ _=>False.elim) fun _ _=>False.elim
theorem mv4011 {d:Option MO}{f:Nat->(Str->Option MV)->Prop}{g:Prop}(e:match d with|some (.dict b a)=>f b a|_=>False) (i:∀ b a,d=some (.dict b a)->f b a->g):g:=by
 generalize h:d=c at e;revert e h;exact Option.casesOn c (fun _=>False.elim) fun w=>MO.casesOn w (fun _ _=>False.elim) (fun _ _ _=>False.elim) (fun _ _=>i _ _) (fun _ _=>False.elim) (fun _ _=>False.elim) fun _ _=>False.elim
theorem St.B4 {G:St}(h:G.CA x C k):∃ d n f,G x=some (.inst C d)/\G d=some (.dict n f)/\k d n f:=by
 unfold St.CA at h;exact mv4 h (fun c d e h=>xP h<|xA2 fun a=>rS a fun h=>mv4011 h fun n f b h=>⟨d,n,f,e,b,h⟩)
noncomputable def BS (K:Frag) (C:Addr) (b:Str):Bool:=plainGet K C b&&hasDictIn K C&&(match findIn K (.ref C) b with|some a=>noGet K a|none=>false)
noncomputable def Ak (K:Frag) (C:Addr) (a:Str) (f:Addr):Bool:=plainGet K C a&&(findIn K (.ref C) a==some (some<|.ref f))&&isFn K (.ref f)&&keepIn K (.ref f)
theorem FJ (h:VR v mv) (a:∀ i,mv≠.bi i):handedIn v=true:=by
 induction h<;>first|rfl|exact absurd rfl (a _)
noncomputable def Cz (C:Addr) (b:Str) (T:VT):VT:=fun e G P=>T e G fun a d=>match a with
 |.ref x=>d.CA x C fun _ _ f=>match f b with|some v=>(∀ i,v≠.bi i)/\P v d|none=>False
 |_=>False
theorem Ij {a:Str}{k:MV->Prop}
  (l:BS Z.K C a=true) (N:Cx Z n A b L o) (F:Fr b L s.heap m) (R:SR b L s.heap G)
  (t:G.CA x C fun _ _ f=>match f a with|some v=>(∀ i,v≠.bi i)/\k v|none=>False)
  (q:∀ v mv t,VR v mv->k mv->Q v {s with toks:=t}):wpAny Z.md A (getAttr (.ref x) a h) Q E s:=by
 refine bc fun j=>xE3 (St.B4 t) fun d U f=>xA3 fun M J g=>xE2 (R.inst M J) fun W T=>xA3 fun I V D=>gG (D a) fun S B u=>j<|oE (f a) (fun e=>?_) fun mv e=>?_
 .rw [e]at g;exact g.elim
 .rw [e]at g u;cases u with
  |some r=>
   unfold BS at l;simp only[bV]at l;refine bc fun j=>xP l<|xA2 fun z=>?_;revert z;refine xA2 fun P O=>fun p=>j ?_;split at p
   .rename_i y H;exact get_own F N.X I P O H p B (FJ r g.1)<|q _ _ _ r g.2
   .exact xft p
theorem mv6 {f:Addr->Prop}{g:Prop}(e:match d with|MV.ref a=>f a|_=>False) (i:∀ a,d=MV.ref a->f a->g):g:=by
 generalize h:d=b at e;revert e h;exact MV.casesOn b fR (fun _ _=>False.elim) (fun _ _=>False.elim) (fun _ _=>False.elim) (fun j=>i _) (fun _ _=>False.elim) fun _ _=>False.elim
theorem TK (w:BS Z.K C a=true) (x:Ev Z c e T)
  (u:∀ f,eval (.Attribute e a b) f=(do
   let o <- eval e f;standAt b.atName;let r <- holding [o] (getAttr o a true);letTemporaryGo e o r;pure r)):Ev Z c (.Attribute e a b) (Cz C a T):=by
 refine fun A i L s m D G P Q E j F n R t q=>Attribute_any_ (x j F n R t fun v mv y B d g h l k=>mv6 g ?_)<|u _
 .refine fun _=>fun z=>?_;revert d;exact rE z fun d=>fun g=>have z:=VR.irf d;rE z<|Ij w j l k g fun v mv t d p=>q v mv y _ d p (h.trans<|Sm.t _ _) l k
theorem WG:Es Z c [] (fun _ G P=>P [] G):=by
 intro A a L s m d G P Q E b f F e R t q;exact spliced_none<|q _ _ G s .nil t (Sm.refl s) F R
noncomputable def DC (T:VT) (e:LS->St->(List MV->St->Prop)->Prop):LS->St->(List MV->St->Prop)->Prop:=fun b G P=>T b G fun a g=>e b g fun d f=>P (a::d) f
theorem TL (x:Ev Z c e T) (w:Es Z c b k)
  (u:∀ a,starEach (e::b) a=(false,eval e a)::starEach b a):Es Z c (e::b) (DC T k):=fun A i L s m K G P Q E p j F h R t q=>spliced_more (x j F h R t fun v mv M I r n f D z=>w j D h z n fun H J B o g l d C y=>q _ _ B o (.cons r g) l (f.trans d) C y)<|u _
theorem OW {w:LS}
     
  (hk:keepIn Z.K (.ref f)=true) (hS:Sp Z n f S) (hn:n<=c.n) (N:Es Z c D Ts) (B:∀ j,(starEach D j).any (·.1)=false/\(D=[]\/∃ x r,D=x::r/\starEach D j=(false,eval x j)::starEach r j)) (H:Cx Z c.n A a L<|c.env L) (F:Fr a L s.heap m) (lr:LR c.vs w m) (R:SR a L s.heap G)
  (hf:VRs first fm) (t:Ts w G fun as k=>S (fm++as) k P)
  (q:∀ v mv V o,VR v mv->P mv V->Sm s o->Fr a L o.heap m->SR a L o.heap V->Q v o) :
  wpAny Z.md A (callWith g (.ref f) first (backTo g<|starEach D<|c.env L) []) Q E s:=by
 refine xP (B<|c.env L)<|xA2 fun C W=>?_;have O:∀ h u k i,VRs h u->S (fm++u) k P->Sm s i->Fr a L i.heap m->SR a L i.heap k->wpAny Z.md A (call (.ref f)<|first++h) Q E i:=
  fun h u k i z J d I T=>hS.call (H.less hn) I T (hf.append z) J fun v mv V o z hp sm F' R'=>q v mv V o z hp (d.trans sm) F' R'
 rcases W with rfl |⟨x,r,rfl,hx⟩
 ·exact callWith_K0 (H.X.keeps F.keep) hk<|have:=N (d:=g) (Q:=fun h o=>wpAny Z.md A (call (.ref f)<|first++h) Q E o) (E:=E) H F lr R t fun h u k i z J d I T=>O h u k i z J d I T;have e:spliced (backTo g<|starEach []<|c.env L)=(spliced []:Sem<|List Value):=rfl;fun Y p M=>(this Y p M) Y p M
 ·refine callWith_K H.X hk (N H F lr R t fun h u k i z J d I T=>⟨H.X.keeps I.keep,O h u k i z J d I T⟩) hx ?_
  ·rw [hx] at C;rw [cP,cm] at C;have U:=C.2;generalize starEach r (c.env L)=l at U;induction l with
   |nil=>rfl
   |cons y l=>
    obtain ⟨b,t⟩:=y;simp only [cP,cm] at U;simp only [backTo,List.map_cons,cP,U.1,Bool.false_or,List.any_map];simpa using U.2
noncomputable def Pb (b:List Expr):Prop:=∀ a,(starEach b a).any (·.1)=false/\(b=[]\/∃ x r,b=x::r/\starEach b a=(false,eval x a)::starEach r a)
theorem DU:Pb []:=fun a=>⟨rfl,.inl rfl⟩
theorem DF (h:Pb b) (c:∀ a,starEach (e::b) a=(false,eval e a)::starEach b a):Pb (e::b):=fun a=>
 ⟨by refine rE (c ..)<|rE cP<|rE ((h a).1) ?_;rfl,.inr ⟨e,b,rfl,c a⟩⟩
theorem DG (h:Pb e) (d:Pos) (a:Env):(backTo d<|starEach e a).any (·.1)=false:=by
 have c:=(h a).1;generalize starEach e a=l at c;induction l with
 |nil=>rfl
 |cons y l=>
  obtain⟨b,t⟩:=y;simp only[cP,cm]at c;simp only[backTo,List.map_cons,cP,c.1,Bool.false_or,List.any_map];simpa using c.2
noncomputable abbrev AT:=LS->St->(List MV->St->Prop)->Prop
noncomputable def Hz:AT:=fun _ G P=>P [] G
noncomputable def Ea (Z:PX) (c:FC) (a:List Expr) (T:AT):Prop:=Es Z c a T/\Pb a
theorem Az:Ea Z c [] Hz:=⟨WG,DU⟩
theorem TM (h:Ev Z c e T) (f:Ea Z c b g)
  (d:∀ a,starEach (e::b) a=(false,eval e a)::starEach b a):Ea Z c (e::b) (DC T g):=⟨TL h f.1 d,DF f.2 d⟩
theorem OX {i:LS}
  (j:Ea Z c k l) (D:Cx Z c.n A a L<|c.env L) (F:Fr a L s.heap m) (v:LR c.vs i m) (R:SR a L s.heap G) (t:l i G P)
  (q:∀ b g o d,VRs b g->P g o->Sm s d->Fr a L d.heap m->SR a L d.heap o->Q ⟨b,[]⟩ d) :
  wpAny Z.md A (evalArgs f true (backTo e<|starEach k<|c.env L) []) Q E s:=by
 have z:=j.1 (d:=e) (Q:=fun b d=>Q ⟨b,[]⟩ d) (E:=E) D F v R t fun b g I u B p h J H=>q b g I u B p h J H;rcases (j.2<|c.env L).2 with rfl|⟨x,r,rfl,y⟩
 .unfold evalArgs;exact U2<|cg z (fun b d C=>cz<|U2<|bZ<|U2<|bZ<|bZ C) fun _ _ x=>x
 .rw [y]at z ⊢;exact evalArgs_plain z
noncomputable def KH (C:Addr) (b:Str) (T:VT) (h:AT) (S:List MV->St->(MV->St->Prop)->Prop):VT:=fun d G P=>T d G fun a e=>match a with
 |.ref x=>e.CA x C fun _ _ f=>f b=none/\h d e fun g i=>S (.ref x::g) i P
 |_=>False
theorem TN 
  (x:Ak Z.K C a f=true) (h1:Ev Z c o T) (J:Ea Z c b M) (hS:Sp Z n f S) (hn:n<=c.n)
  (w:∀ i,∃ B,eval (.Call (.Attribute o a e) b [] g) i=(do
   let p <- eval o i;standAt e.atName;let (f,first) <- holding [p] (getMethod p a B);callWith g f first (backTo g<|starEach b i) [])):Ev Z c (.Call (.Attribute o a e) b [] g) (KH C a T M S):=by
 refine fun A H L s m ls G P Q E y F D R t q=>xE1 (w<|c.env L) fun B=>fun w=>MethodCall_ (h1 y F D R t fun v mv G1 s1 j k l O N=>mv6 k ?_) w
 ·intro _;intro z;revert j;refine rE z ?_;intro j;refine fun k=>have z:=VR.irf j;rE z<|bc fun r=>xE3 (St.B4 k) fun d kk fl=>xA4 fun e1 e2 h W=>xE2 (N.inst e1 e2) fun es nn=>xA3 fun I hz hf=>gG (hf a) fun p hg u=>r ?_;replace u:=h▸u;cases u;unfold Ak at x;simp only [bV] at x;refine bc fun r=>xP x<|xA2 fun V=>?_;revert V;refine xA2 fun U=>?_;revert U;exact xA2 fun a1 a2=>fun a3=>fun a4=>r<|method_inst O y.X I a1 (cD.mp a2) a3 hg<|OW (fm:=[.ref _]) a4 hS hn J.1 J.2 y O D N (.cons (.ref _) .nil) W fun v mv G' s' j hp Y F' R'=>q v mv G' s' j hp (l.trans Y) F' R'
noncomputable def OY (d:AT) (S:List MV->St->(MV->St->Prop)->Prop):VT:=fun a G P=>d a G fun b e=>S b e P
theorem TO 
  (C:Ev Z c (.Name x i)<|Br<|.ref f) (I:keepIn Z.K (.ref f)=true) (l:Ea Z c a p) (J:Sp Z n f S) (H:n<=c.n):Ev Z c (.Call (.Name x i) a [] e) (OY p S):=by
 refine fun A k L s m V G P Q E o F j R t q=>Call_Name rfl<|C (P:=fun v h=>v=.ref f/\h=G) o F j R ⟨rfl,rfl⟩ fun v mv W U b w d O M=>bc fun g=>xP w<|xA2 fun u=>?_;revert b;refine rE u fun b=>fun r=>?_;revert t;refine rS r fun t=>have z:=VR.irf b;?_;revert g;exact rE z fun g=>g<|OW (fm:=[]) I J H l.1 l.2 o O j M .nil t fun v mv h B b D y T N=>q v mv h B b D (d.trans y) T N
noncomputable def Bi (Z:PX) (n:Nat) (v:Value) (T:List MV->St->(MV->St->Prop)->Prop):Prop:=
 ∀ ⦃A:Around⦄ ⦃a:Heap⦄ ⦃L:Addr⦄ ⦃f:Env⦄ ⦃s:Shared⦄ ⦃m:Str->Option Value⦄ ⦃G:St⦄ ⦃P:MV->St->Prop⦄ ⦃Q:Value->Shared->Prop⦄ ⦃E:Value->Shared->Prop⦄ ⦃b:List Value⦄ ⦃d:List MV⦄,
  Cx Z n A a L f->Fr a L s.heap m->SR a L s.heap G->VRs b d->T d G P->
  (∀ v mv g e,VR v mv->P mv g->Sm s e->Fr a L e.heap m->SR a L e.heap g->Q v e)->
  wpAny Z.md A (call v b) Q E s
theorem FK 
  (C:Ev Z c (.Name x j)<|Br<|.bi b) (o:Ea Z c a p) (I:Bi Z n (.builtin b) S) (H:n<=c.n):Ev Z c (.Call (.Name x j) a [] g) (OY p S):=by
 refine fun A l L s m Y G P Q E h F k R t q=>Call_Name rfl<|C (P:=fun v i=>v=.bi b/\i=G) h F k R ⟨rfl,rfl⟩ fun v mv G1 W d y f O K=>xP y<|xA2 fun u=>?_;revert d;refine rE u fun d=>fun r=>?_;revert t;refine rS r fun t=>?_;cases d;exact Calls.callWith_builtin (DG o.2 _ _)<|OX o h O k K t fun U X G2 V d w e N J=>I (h.less H) N J d w fun v mv i B d D z T M=>q v mv i B d D ((f.trans e).trans z) T M
theorem Gh 
  (D:Ev Z c (.Name x j)<|Br<|.ty b) (o:Ea Z c a p) (J:Bi Z n (.type b) S) (I:n<=c.n):Ev Z c (.Call (.Name x j) a [] pos) (OY p S):=by
 refine fun A l L s m ls G P Q E h F k R t q=>Call_Name rfl<|D (P:=fun v i=>v=.ty b/\i=G) h F k R ⟨rfl,rfl⟩ fun v mv G1 X d y f T M=>bc fun g=>xP y<|xA2 fun u=>?_;revert d;refine rE u fun d=>fun r=>?_;revert t;refine rS r fun t=>have z:=VR.ity d;?_;revert g;exact rE z fun g=>g<|PyProof.Rows.callWith_type (DG o.2 _ _)<|OX o h T k M t fun V Y G2 W d w e O K=>J (h.less I) O K d w fun v mv i C d H B U N=>q v mv i C d H ((f.trans e).trans B) U N
noncomputable def YU:List MV->St->(MV->St->Prop)->Prop:=fun a G P=>match a with
 | [.ref l]=>(match G l with|some (.list xs)=>xs.length<=1000/\P (.int xs.length) G|_=>False)
 |_=>False
theorem mv7 {f:Addr->Prop}{g:Prop}(e:match d with | [MV.ref a]=>f a|_=>False) (k:∀ a,d=[MV.ref a]->f a->g):g:=by
 generalize h:d=b at e;revert e h;exact List.casesOn b (fun _=>False.elim) fun j i=>MV.casesOn j (fun _=>False.elim) (fun _ _=>False.elim) (fun _ _=>False.elim) (fun _ _=>False.elim) (fun l=>List.casesOn i (k _) fun _ _ _=>False.elim) (fun _ _=>False.elim) fun _ _=>False.elim
theorem mv8 {f:(List MV)->Prop}{g:Prop}(e:match d with|some (MO.list a)=>f a|_=>False) (j:∀ a,d=some (MO.list a)->f a->g):g:=by
 generalize h:d=b at e;revert e h;exact Option.casesOn b fR fun i=>MO.casesOn i (fun k=>j _) (fun _ _ _=>False.elim) (fun _ _ _=>False.elim) (fun _ _=>False.elim) (fun _ _=>False.elim) fun _ _=>False.elim
theorem WH:Bi Z 0 (.builtin "len") YU:=by
 intro A g L n s m G P Q E f h r F R b t q;unfold YU at t;refine mv7 t ?_
 .refine fun _=>fun z=>?_;revert b;refine rE z fun b=>fun t=>VRs.kco b fun _ _ z l k=>?_;clear b;subst z;refine have z:=VR.irf l;rE z ?_;(have z:=VRs.inl k;refine rE z ?_);refine mv8 t ?_
  .exact fun o e t=>bc fun i=>gG (R.isList e) fun p j d=>i<|have a:=d.length;Calls.call_len_list j (rE b8<|rE a<|j63<|bW t.1<|by decide)<|q _ _ G _ (rE b8<|rE a<|.int _ _) t.2 (Sm.t _ _) F R
noncomputable def VS:List MV->St->(MV->St->Prop)->Prop:=fun a G P=>match a with
 | [.bool b]=>P (.bool b) G
 |_=>False
theorem mv9 {f:Bool->Prop}{g:Prop}(e:match d with | [MV.bool a]=>f a|_=>False) (k:∀ a,d=[MV.bool a]->f a->g):g:=by
 generalize h:d=b at e;revert e h;exact List.casesOn b (fun _=>False.elim) fun j i=>MV.casesOn j (fun _=>False.elim) (fun l=>List.casesOn i (k _) fun _ _ _=>False.elim) (fun _ _=>False.elim) (fun _ _=>False.elim) (fun _ _=>False.elim) (fun _ _=>False.elim) fun _ _=>False.elim
theorem TP:Bi Z 0 (.type "bool") VS:=by
 intro A d L h s m G P Q E b e i F R a t q;unfold VS at t;refine mv9 t ?_
 .refine fun _=>fun z=>?_;revert a;refine rE z fun a=>fun t=>VRs.kco a fun _ _ z g f=>?_;clear a;subst z;refine have z:=VR.ibo g;rE z ?_;(have z:=VRs.inl f;refine rE z ?_);exact call_bool_bool<|q _ _ G _ (.bool _) t (Sm.refl _) F R
noncomputable def WI (T g:VT):VT:=fun d G P=>T d G fun a f=>match a with
 |.ref l=>(match f l with|some (.list _)=>g d f fun v e=>(match e l with|some (.list b)=>b.length<=1000/\P .none (e.set l<|.list<|b++[v])|_=>False)|_=>False)
 |_=>False
theorem Pc (h1:Ev Z c o T) (h2:Ev Z c e S)
  (K:∀ b,starEach [e] b=(false,eval e b)::starEach [] b)
  (C:∀ b,∃ D,eval (.Call (.Attribute o "append" d) [e] [] g) b=(do
   let H <- eval o b;standAt d.atName;let (f,first) <- holding [H] (getMethod H "append" D);callWith g f first (backTo g<|starEach [e] b) [])):Ev Z c (.Call (.Attribute o "append" d) [e] [] g) (WI T S):=by
 refine fun A J L s m ls G P Q E O F I R t q=>xE1 (C<|c.env L) fun D=>fun C=>MethodCall_ (h1 O F I R t fun v mv G1 s1 k j u F1 V=>mv6 j ?_) C
 ·refine fun _=>fun z=>?_;revert k;refine rE z fun k=>fun j=>have z:=VR.irf k;rE z<|mv8 j ?_
  ·refine fun xs e0 j=>bc fun w=>xE2 (V.D8 e0) fun vs n=>xA2 fun M Y=>w<|getMethod_builtin ⟨_,M,rfl⟩ PySem.F.plainAttrs_list PySem.F.slot_list_append PySem.F.type_list_append (fun a e=>by cases e;exact ⟨_,M,rfl⟩)<|Calls.callWith_builtin (DG (DF DU K) _ _)<|rE (K ..)<|evalArgs_plain<|Calls.spliced_cons<|h2 O F1 I V j fun v mv G2 s2 k l r F2 U=>Calls.spliced_nil<|mv8 l ?_
   ·refine fun W N l=>bc fun w=>xE2 (U.D8 N) fun p X=>xA2 fun B i=>w<|append_at B (fun h' x y=>?_) (by refine rE b8<|rE i.length<|rE cN ?_;have:=l.1;exact dk this);exact xP (U.turn (mo:=.list<|W++[mv]) F2 N x y ⟨p++[v],X+1,by simp,i.append<|.cons k .nil⟩)<|xA2 fun F3 R3=>q _ _ _ _ .none l.2 ((u.trans r).trans<|Sm.h _ _) F3 R3
noncomputable def QX (T:VT):VT:=fun e G P=>T e G fun a d=>match a with
 |.ref l=>(match d l with|some (.list<|y::b)=>b.length<=1000/\P y (d.set l<|.list b)|_=>False)
 |_=>False
theorem mv10 {h:MV->(List MV)->Prop}{g:Prop}(e:match f with|some (MO.list<|b::a)=>h b a|_=>False) (l:∀ b a,f=some (MO.list<|b::a)->h b a->g):g:=by
 generalize i:f=d at e;revert e i;exact Option.casesOn d (fun _=>False.elim) fun k=>MO.casesOn k (fun j=>List.casesOn j (fun _=>False.elim) fun n m=>l _ _) (fun _ _ _=>False.elim) (fun _ _ _=>False.elim) (fun _ _=>False.elim) (fun _ _=>False.elim) fun _ _=>False.elim
theorem TQ (W:Ev Z c o T)
  (J:∀ b,starEach [.Constant (.int 0) k i] b=(false,eval (.Constant (.int 0) k i) b)::starEach [] b)
  (x:∀ b,∃ D,eval (.Call (.Attribute o "pop" g) [.Constant (.int 0) k i] [] d) b=(do
   let H <- eval o b;standAt g.atName;let (f,first) <- holding [H] (getMethod H "pop" D);callWith d f first (backTo d<|starEach [.Constant (.int 0) k i] b) [])):Ev Z c (.Call (.Attribute o "pop" g) [.Constant (.int 0) k i] [] d) (QX T):=by
 refine fun A I L s m ls G P Q E X F S R t q=>xE1 (x<|c.env L) fun D=>fun x=>MethodCall_ (W X F S R t fun v mv G1 s1 w h r F1 M=>mv6 h ?_) x
 ·refine fun _=>fun z=>?_;revert w;refine rE z fun w=>fun h=>have z:=VR.irf w;rE z<|mv10 h ?_
  ·refine fun y B K h=>bc fun O=>xE2 (M.D8 K) fun vs n=>xA2 fun p u=>O ?_;cases u with
   | @cons C _ j _ V l=>
    refine getMethod_builtin ⟨_,p,rfl⟩ PySem.F.plainAttrs_list PySem.F.slot_list_pop PySem.F.type_list_pop (fun a e=>by cases e;exact ⟨_,p,rfl⟩)<|Calls.callWith_builtin (DG (DF DU J) _ _)<|rE (J ..)<|evalArgs_plain<|Calls.spliced_cons<|wpAny_Constant_int (k:=k) (pos:=i)<|Calls.spliced_nil ?_;have U:(List.toArray<|C::j).size<=sizeLine:=by refine rE b8<|rE cJ<|rE2 l.length cN ?_;have:=h.1;exact (la1 0x6088080fa28000001000000c240201) this
    refine call_meets PySem.F.slot_list_pop ⟨_,p,rfl⟩ PySem.F.entry_list_pop (PySem.F.args_list_pop_2 _ _) (PySem.MeetsSeq.list_pop_at _ _ n 0 _ 0 C rfl (by refine rE b8 ?_;simp [seqIndex?]) (by simp) U) ⟨p,?_⟩;exact xP (M.EX (ys:=B) (vs':=j) F1 K p (f:=fun a=>a.eraseIdxIfInBounds 0) (by simp) l)<|xA2 fun F3 Y=>q _ _ _ _ V h.2 (r.trans<|Sm.ht _ _ _) F3 Y
section
variable {Z:PX}{c:FC}
noncomputable def QY (g f:VT):VT:=fun b G P=>g b G fun a e=>match a with
 |.ref l=>(match e l with
  |some (.list _)=>(f b e fun i d=>match i with
   |.int k=>(match d l with
    |some (.list xs)=>(0<=k/\k<1000)/\(match xs[k.toNat]? with|some v=>P v d|none=>False)
    |_=>False)
   |_=>False)
  |_=>False)
 |_=>False
theorem mv11 {f:Int->Prop}{g:Prop}(e:match d with|MV.int a=>f a|_=>False) (i:∀ a,d=MV.int a->f a->g):g:=by
 generalize h:d=b at e;revert e h;exact MV.casesOn b fR (fun _ _=>False.elim) (fun j=>i _) (fun _ _=>False.elim) (fun _ _=>False.elim) (fun _ _=>False.elim) fun _ _=>False.elim
theorem mv12 {f:MV->Prop}{g:Prop}(e:match d with|some a=>f a|none=>False) (i:∀ a,d=some a->f a->g):g:=by
 generalize h:d=b at e;revert e h;exact Option.casesOn b fR fun j=>i _
theorem WJ {D:VT}(W:Ev Z c b D) (V:Ev Z c a C)
  (T:∀ l k u,subscripted a false (.ref l) (.int k u)=operate [.ref l,.int k u] (getItem (.ref l)<|.int k u)):Ev Z c (.Subscript b a j) (QY D C):=by
 refine fun A x L s m ls G P Q E B F w R t q=>Subscript_<|W B F w R t fun v mv G1 s1 r g i F1 X=>mv6 g ?_
 .refine fun _=>fun z=>?_;revert r;refine rE z fun r=>fun g=>have z:=VR.irf r;rE z<|mv8 g ?_
  .refine fun _ _ g=>V B F1 w X g fun v2 M Y K f d h F2 H=>mv11 d ?_
   .refine fun _=>fun z=>?_;revert f;refine rE z fun f=>fun d=>VR.kin f fun _ z=>rE z<|mv8 d ?_
    .refine fun xs e d=>bc fun n=>xP d<|xA2 fun I=>?_;revert I;exact xA2 fun O N=>fun d=>gG (H.isList e) fun vs y p=>n<|mv12 d (fun v S d=>bc fun n=>gG (p.some S) fun J o U=>n<|tail_any y.typeIs slot_list_getitem.lookup (wpAny_getItem_list y O (i63<|Int.le_of_lt N) (by simpa using o)<|q _ _ Y K U d (i.trans h) F2 H)<|T _ _ _)
noncomputable def MU (K:Frag) (C f:Addr):Bool:=(findIn K (.ref C) "__getitem__" == some (some<|.ref f))&&fnIn K f&&isFn K (.ref f)
noncomputable def YV (C:Addr) (f e:VT) (S:List MV->St->(MV->St->Prop)->Prop):VT:=fun b G P=>f b G fun a g=>match a with
 |.ref x=>e b g fun i d=>d.CA x C fun _ _ _=>S [.ref x,i] d P
 |_=>False
theorem WK {C:Addr}(g:MU Z.K C f=true) (h1:Ev Z c b B) (Y:Ev Z c a y) (W:Sp Z n f S) (V:n+1<=c.n)
  (T:∀ x i,subscripted a true (.ref x) i=runValue (.builtin "lifetime.subscript" ⟨[.ref x,i],[]⟩)):Ev Z c (.Subscript b a p) (YV C B y S):=by
 refine fun A w L s m ls G P Q E h F u R t q=>Subscript_<|h1 h F u R t fun v mv G1 s1 e k o F1 R1=>mv6 k ?_
 .refine fun _=>fun z=>?_;revert e;refine rE z fun e=>fun k=>have z:=VR.irf e;rE z<|Y h F1 u R1 k fun v2 O G2 s2 r j l H D=>bc fun N=>xE3 (St.B4 j) fun d kk fl=>xA3 fun e1 e2 j=>xE2 (D.inst e1 e2) fun es nn=>xA3 fun I hz hf=>N ?_;unfold MU at g;simp only[bV]at g;exact sub_K H h.X I (cD.mp g.1.1) g.1.2 g.2 (W.call (h.in1 V) H D (.cons (.ref _)<|.cons r .nil) j fun v mv G' M e U J F' R'=>q v mv G' M e U ((o.trans l).trans J) F' R')<|T _ _
noncomputable def VU (f:AT):VT:=fun e G P=>f e G fun b d=>b.length<=1000/\∀ a,d a=none->P (.ref a) (d.set a<|.list b)
theorem K6 (h:Ea Z c i j):Ev Z c (.List i d) (VU j):=by
 refine fun A f L s m x G P Q E p F n R t q=>List_<|h.1 p F n R t fun a l y w g e b v k=>wpAny_newObj_type ?_ (by refine(rE b8 (rE g.length<|rE cN ?_):(List.toArray a).size<=sizeLine);have:=e.1;exact dk this);exact have o:(MO.list l).Is (listOf (List.toArray a) 0):=⟨a,0,rfl,g⟩;xP (k.push v o)<|xA2 fun u r=>q _ _ _ _ (.ref _) (e.2 _ k.fresh) (b.trans<|Sm.h _ _) u r
noncomputable def YW:XT:=fun a G P=>P .next a G
noncomputable def Ik (g e:XT):XT:=fun d G P=>g d G fun f a b=>match f with
 |.next=>e a b P
 |f=>P f a b
theorem BJ:Ex Z c [] YW:=fun A a L s m b G P Q E e F d R t q=>wpAny_execs_nil<|q _ _ b G m s .next t (Sm.refl s) F d R
theorem Ae (J:Ss Z c u z) (I:Ex Z c e y):Ex Z c (u::e) (Ik z y):=by
 refine fun A w L s m O G P Q E x F D R t q=>cy<|J x F D R t fun f v b r l k p d g i a h=>?_;induction p with
 |next=>exact I x i a h d fun f v n M C B p d j N o K=>q f v n M C B p d (g.trans j) N o K
 |brk=>exact q _ _ b r l k .brk d g i a h
 |cont=>exact q _ _ b r l k .cont d g i a h
 |ret H=>exact q _ _ b r l k (.ret H) d g i a h
theorem CZ {e:LS}
  (n:c.vs[i]?=some x) (l:iK c) (h:iL c x) (F:Fr a L s.heap m) (g:LR c.vs e m) (R:SR a L s.heap G) (j:VR v mv)
  (q:∀ d b,Sm s b->Fr a L b.heap d->LR c.vs (e.set i<|some mv) d->SR a L b.heap G->Q () b):wpAny Z.md A (storeName (c.env L) x v) Q E s:=
 wpAny_storeName_local h F.ns (fun o k f=>q _ _ (Sm.ht _ _ _) (F.set k f) (g.set n j)<|R.same f) (by refine(rE l ?_:(c.scope.kind==.class ||(c.scope.kind==.module&&L != mainGlobals))=false);rfl)
noncomputable def YX (i:Nat) (T:VT):XT:=fun a G P=>T a G fun v b=>P .next (a.set i<|some v) b
theorem WL (i:Nat) (z:c.vs[i]?=some x) (y:iK c) (r:iL c x) (h:Ev Z c a T)
  (w:∀ g,swapsWith a (some<|.Name x b) d.line g=pure false):Ss Z c (.Assign [.Name x b] a d) (YX i T):=fun A k L s m M G P Q E B F j R t q=>wpAny_Assign_Name (h B F j R t fun v mv H K u l e I C=>CZ z y r I j C u fun p o n J f D=>q _ _ _ H p o .next l (e.trans n) J f D)<|w _
noncomputable def QZ (d:Operator) (a b:MV) (k:MV->Prop):Prop:=match a,b with
 |.int i,.int j=>(match d with|.Add=>k (.int<|i+j)|.Sub=>k (.int<|i-j)|_=>False)
 |_,_=>False
theorem OZ (f:VR i a) (e:VR g b) (h:QZ d a b k)
  (q:∀ v mv t,VR v mv->k mv->Q v {s with toks:=t}):wpAny Z.md A (inplaceOp d i g) Q E s:=by
 unfold QZ at h;refine mv1 h ?_
 .clear h;refine fun _ _=>fun z=>?_;revert f;refine rE z fun f=>fun z=>?_;revert e;refine rE z fun e=>fun h=>VR.kin f fun _ z=>rE z<|VR.kin e fun _ z=>rE z ?_;induction d with
  |Add=>exact iadd_int<|q _ _ _ (.int ..) h
  |Sub=>exact isub_int<|q _ _ _ (.int ..) h
  |_=>exact h.elim
noncomputable def TR (i:Nat) (d:Operator) (T:VT):XT:=fun b G P=>match(b[i]?).join with
 |some a=>T b G fun v e=>QZ d a v fun r=>P .next (b.set i<|some r) e
 |none=>False
theorem WM (i:Nat) (p:c.vs[i]?=some x) (o:iK c) (n:iL c x) (h:Ev Z c b T) :
  Ss Z c (.AugAssign (.Name x d) k b f) (TR i k T):=by
 intro A l L s m ls G P Q E O F j R t q;unfold TR at t;exact mv12 t (fun a K t=>bc fun C=>gG (j.get p K) fun Y N M=>C<|wpAny_AugAssign_Name<|wpAny_loadName_local o n F.ns N<|h O F j R t fun v mv V z H w e W S=>OZ M H w fun r mr u I J=>CZ (s:={z with toks:=u}) p o n W j S I fun D B y X g U=>q _ _ _ V D B .next J ((e.trans<|Sm.t _ _).trans y) X g U)
noncomputable def Cd (K:Frag) (C:Addr) (a:Str):Bool:=(findIn K (.ref C) "__setattr__" == some (some<|.builtin "object.__setattr__"))&&plainOver K C&&(takerIn K C a==some none)&&hasDictIn K C
noncomputable def upd (f:Str->Option MV) (a:Str) (v:MV):Str->Option MV:=fun y=>if y=a then some v else f y
noncomputable def IL (G:St) (x C:Addr) (a:Str) (v:MV) (k:St->Prop):Prop:=G.CA x C fun d n f=>n<=900/\k (G.set d<|.dict (if(f a).isSome then n else n+1)<|upd f a v)
theorem mv13 {d:Type}{i:DictEntry->Option d}{h:Option d}{r:d}{g:Prop}(e:(match b with|some a=>i a|none=>h)=some r) (l:∀ a,b=some a->i a=some r->g) (k:b=none->h=some r->g):g:=by
 generalize j:b=f at e;revert e j;exact Option.casesOn f k fun m=>l _
theorem MW 
  (J:Cd Z.K C a=true) (cx:Cx Z n A b L O) (F:Fr b L s.heap m) (R:SR b L s.heap G) (hv:VR v mv) (t:IL G x C a mv k)
  (q:∀ Y p,k Y->Sm s p->Fr b L p.heap m->SR b L p.heap Y->Q () p):wpAny Z.md A (setAttr (.ref x) a v) Q E s:=by
 refine bc fun o=>xE3 (St.B4 t) fun d S f=>xA3 fun e1 W U=>xE2 (R.inst e1 W) fun M nn=>xA3 fun I T V=>gG R fun P N r=>gG (r d _ W) fun od u hi=>o<|have D:od=dictOf M nn:=cw<|(N _ u).1.symm.trans I.dict;?_;revert u;refine rE D fun u=>?_;unfold Cd at J;simp only[bV,cD]at J;refine bc fun o=>xP J<|xA2 fun z0=>?_;revert z0;refine xA2 fun z1=>?_;revert z1;refine xA2 fun a1 a2=>fun a3=>fun a4=>gG (V a) fun ov g l=>o ?_;have j:(putL a (PyData.keyHash Z.w.params a) (.str a<|s.toks+1) v M).length<=if(f a).isSome then S else S+1:=by
  refine rE (MT ..) ?_;unfold getL at g;refine mv13 g ?_ ?_
  .clear g;refine fun e H g=>rE H ?_;simp only[Option.isSome_some,if_true];have z:=so g;clear g;subst z;refine oE (f a) (fun h=>?_) fun _ h=>?_
   .replace l:=h▸l;cases l
   .simpa using T
  .clear g;refine fun H g=>rE H ?_;simp only[Option.isSome_none,dD,if_false];split at g
   .exact xns g
   .have z:=so g;clear g;subst z;refine oE (f a) (fun h=>?_) fun _ h=>?_
    .simpa using T
    .replace l:=h▸l;cases l
 refine set_dict F cx.X (News.pull N u) I rfl a1 a2 a3 a4 (by refine rE g ?_;rfl) rfl (QQ _ _ _ _) (o11 j U.1) fun h' F' N'=>?_;refine q _ _ U.2 (Sm.ht _ _ _) F' ⟨_,N',r.upd ⟨_,_,rfl,j,fun y=>bc fun o=>gG (V y) fun oy hy B=>o ⟨_,MS M y oy hy,?_⟩⟩⟩;unfold upd;by_cases i:y=a
 .exact iP i<|iP i<|.some hv
 .exact iN i<|iN i B
noncomputable def C0 (C:Addr) (a:Str) (T d:VT):XT:=fun b G P=>T b G fun v g=>d b g fun o f=>match o with
 |.ref x=>IL f x C a v fun e=>P .next b e
 |_=>False
theorem NQ (M:Cd Z.K C b=true) (h:Ev Z c a T) (I:Ev Z c o u)
  (H:∀ n,swapsWith a (some<|.Attribute o b d) f.line n=pure false):Ss Z c (.Assign [.Attribute o b d] a f) (C0 C b T u):=by
 refine fun A r L s m B G P Q E p F l R t q=>plainObj_wpAny_Assign_Attribute (h p F l R t fun v mv G1 s1 D w k X S=>I p X l S w fun Y y G2 s2 e g j W O=>mv6 g ?_)<|H _
 .refine fun _=>fun z=>?_;revert e;exact rE z fun e=>fun g=>have z:=VR.irf e;rE z<|MW M p W O D g fun U x J i V N=>q _ _ B U m x .next J ((k.trans j).trans i) V l N
noncomputable def MY (C:Addr) (b:Str) (g:Operator) (T h:VT):XT:=fun d G P=>h d G fun o e=>match o with
 |.ref x=>e.CA x C fun _ _ f=>(match f b with|some a=>(∀ i,a≠.bi i)/\(T d e fun v k=>QZ g a v fun r=>IL k x C b r fun j=>P .next d j)|none=>False)
 |_=>False
theorem NR (hA:Cd Z.K C b=true) (hG:BS Z.K C b=true) (h:Ev Z c d T) (ho:Ev Z c o J) :
  Ss Z c (.AugAssign (.Attribute o b e) u d p) (MY C b u T J):=by
 refine fun A I L s m w G P Q E f F x R t q=>wpAny_AugAssign_AttributeAny<|ho f F x R t fun v mv G1 s1 D i n O M=>mv6 i ?_
 .refine fun _=>fun z=>?_;revert D;exact rE z fun D=>fun i=>have z:=VR.irf D;rE z<|Ij hG f O M (k:=fun a=>T w G1 fun v N=>QZ u a v fun r=>IL N _ C b r fun H=>P .next w H) i fun va ma S y W=>h (s:={s1 with toks:=S}) f O x M W fun v2 aa N Y B V l F2 R2=>OZ y B V fun r mr g hr U=>MW (s:={Y with toks:=g}) hA f F2 R2 hr U fun H X hk j F3 R3=>q _ _ w H m X .next hk ((((n.trans<|Sm.t _ _).trans l).trans<|Sm.t _ _).trans j) F3 x R3
noncomputable def K7 (T d e:VT):XT:=fun a G P=>T a G fun v g=>d a g fun o f=>match o with
 |.ref l=>e a f fun i b=>(match i with
   |.int k=>(match b l with|some (.list xs)=>(0<=k/\k<xs.length/\xs.length<=1000)/\P .next a (b.set l<|.list<|xs.set k.toNat v)|_=>False)
   |_=>False)
 |_=>False
theorem Pd {K:VT}(h:Ev Z c b T) (ho:Ev Z c o K) (hi:Ev Z c i M)
  (hs:∀ B,swapsWith b (some<|.Subscript o i d) l.line B=pure false):Ss Z c (.Assign [.Subscript o i d] b l) (K7 T K M):=by
 refine fun A I L s m ls G P Q E C F r R t q=>wpAny_Assign_Subscript (h C F r R t fun v mv G1 s1 hv V y F1 R1=>ho C F1 r R1 V fun v2 Y G2 s2 k u x F2 R2=>mv6 u ?_)<|hs _
 .refine fun _=>fun z=>?_;revert k;refine rE z fun k=>fun u=>have z:=VR.irf k;rE z<|hi C F2 r R2 u fun v3 X G3 s3 j g w F3 N=>mv11 g ?_
  .refine fun _=>fun z=>?_;revert j;refine rE z fun j=>fun g=>VR.kin j fun _ z=>rE z<|mv8 g ?_
   .refine fun xs e g=>bc fun W=>xP g<|xA2 fun O=>?_;revert O;refine xA3 fun H D k2=>fun g=>xE2 (N.D8 e) fun U n=>xA2 fun J p=>W<|ki_setAt J H (g63 ⟨H,D,k2⟩) (rE b8<|rE p.length D) ?_;obtain⟨F4,R4⟩:=N.EX F3 e J (f:=fun a=>a.setIfInBounds _ v) (vs':=U.set _ v) (List.setIfInBounds_toArray ..)<|p.set hv _;exact q _ _ ls _ m _ .next g (((y.trans x).trans w).trans<|Sm.h _ _) F4 r R4
noncomputable def Gi (K:Frag) (C f:Addr):Bool:=noSeq K C&&(findIn K (.ref C) "__setitem__" == some (some<|.ref f))&&isFn K (.ref f)
noncomputable def Oa (C:Addr) (T d e:VT) (S:List MV->St->(MV->St->Prop)->Prop):XT:=fun a G P=>T a G fun v h=>d a h fun o g=>match o with
 |.ref x=>e a g fun i b=>b.CA x C fun _ _ _=>S [.ref x,i,v] b fun _ f=>P .next a f
 |_=>False
theorem Pe {C f:Addr}(j:Gi Z.K C f=true) (h:Ev Z c a T) (ho:Ev Z c o J) (hi:Ev Z c i M)
  (hS:Sp Z n f S) (hn:n<=c.n)
  (hs:∀ B,swapsWith a (some<|.Subscript o i b) g.line B=pure false):Ss Z c (.Assign [.Subscript o i b] a g) (Oa C T J M S):=by
 refine fun A D L s m ls G P Q E k F l R t q=>wpAny_Assign_Subscript (h k F l R t fun v mv G1 s1 H U x F1 R1=>ho k F1 l R1 U fun v2 ab G2 s2 e r w F2 R2=>mv6 r ?_)<|hs _
 .refine fun _=>fun z=>?_;revert e;refine rE z fun e=>fun r=>have z:=VR.irf e;rE z<|hi k F2 l R2 r fun v3 aa G3 s3 y p u O N=>bc fun Y=>xE3 (St.B4 p) fun d kk fl=>xA3 fun e1 e2 p=>xE2 (N.inst e1 e2) fun es nn=>xA3 fun I hz hf=>Y ?_;unfold Gi at j;simp only[bV,cD]at j;exact ksp_setItem O k.X I j.1.1 j.1.2 j.2<|hS.call (k.less hn) O N (.cons (.ref _)<|.cons y<|.cons H .nil) p fun v mv G' W H hp V F' R'=>q _ _ ls G' m W .next hp (((x.trans w).trans u).trans V) F' l R'
noncomputable def Qa (T:VT):XT:=fun a G P=>T a G fun _ b=>P .next a b
theorem TS (h:Ev Z c e T) (n:∀ L,interactive (c.env L)=false) (l:∀ d,swapsWith e none a.line d=pure false):Ss Z c (.Expr e a) (Qa T):=fun A g L s m k G P Q E o F f R t q=>wpAny_Expr_any (h o F f R t fun v mv r j w i b u p=>q _ _ k r m j .next i b u f p) (n L)<|l _
noncomputable def xIf (T:BT) (f e:XT):XT:=fun a G P=>T a G fun b d=>match b with|true=>f a d P|false=>e a d P
theorem EY (h:Tt Z c d T) (M:Ex Z c e H) (K:Ex Z c a D):Ss Z c (.If d e a n) (xIf T H D):=by
 refine fun A C L s m O G P Q E w F r R t q=>wpAny_If<|h w F r R t fun b S N B k J I=>?_;induction b with
 |true=>exact M w J r I B fun f o i y p l v u g z j x=>q f o i y p l v u (k.trans g) z j x
 |false=>exact K w J r I B fun f o i y p l v u g z j x=>q f o i y p l v u (k.trans g) z j x
noncomputable def Zf (T:VT):XT:=fun a G P=>T a G fun v b=>P (.ret v) a b
theorem Il {T:VT}(h:Ev Z c e T):Ss Z c (.Return (some e) b) (Zf T):=fun A f L s m j G P Q E l F d R t q=>wpAny_Return_some<|h l F d R t fun v mv o i k g a p n=>q _ _ j o m i (.ret k) g a p d n
noncomputable def YY:XT:=fun a G P=>P (.ret .none) a G
theorem TU :Ss Z c (.Return none a) YY:=fun A b L s m d G P Q E f F e R t q=>wpAny_Return_none<|q _ _ d G m s (.ret .none) t (Sm.refl s) F e R
noncomputable def Zg:XT:=fun a G P=>P .brk a G
theorem WN :Ss Z c (.Break a) Zg:=fun A b L s m d G P Q E f F e R t q=>wpAny_Break<|q _ _ d G m s .brk t (Sm.refl s) F e R
noncomputable def YZ:XT:=fun a G P=>P .cont a G
theorem TV :Ss Z c (.Continue a) YZ:=fun A b L s m d G P Q E f F e R t q=>wpAny_Continue<|q _ _ d G m s .cont t (Sm.refl s) F e R
noncomputable def TX (T:BT):XT:=fun a G P=>T a G fun b d=>b=true/\P .next a d
theorem Pf (h:Tt Z c a T):Ss Z c (.Assert a none e) (TX T):=fun A i L s m k G P Q E l F g R t q=>wpAny_Assert_holds<|h l F g R t fun b o j f d p n=>⟨f.1,q _ _ k o m j .next f.2 d p g n⟩
noncomputable def WO (T:BT) (X:XT):XT:=fun d G P=>∃ I:Nat->LS->St->Prop,(∃ n,I n d G)/\∀ n d G,I n d G->T d G fun b h=>match b with
 |true=>X d h fun f a e=>(match f with
  |.brk=>P .next a e
  |.ret v=>P (.ret v) a e
  |_=>∃ g,g<n/\I g a e)
 |false=>P .next d h
theorem Qb (h:Tt Z c d T) (hb:Ex Z c e X):Ss Z c (.While d e [] J) (WO T X):=by
 refine fun A k L s m l G P Q E V F u R t q=>bc fun ng=>xE1 t fun I=>xA2 fun z0=>?_;revert z0;refine xF1 fun n=>fun N=>fun p=>ng<|cg (E:=fun _ _=>False) (whl_start n ?_) (fun _ _ x=>x) fun _ _ x=>x.elim;have go:∀ n a m l G,Sm s a->Fr k L a.heap m->LR c.vs l m->SR k L a.heap G->I n l G->WhlRest Z.prog Z.w A (fun _ _=>False) (c.env L) d e [] Q (n+1) a:=by
  intro n;induction n using Nat.strongRecOn with
  |ind n U=>
   refine fun a m l G S F u R N=>whl_turn PassesOwn.never<|h V F u R (p n l G N) fun b G1 s2 O r Y W=>?_;unfold WhlIf;induction b with
   |false=>
    simp only[dD,if_false];exact wpAny_execs_nil<|q _ _ l G1 m s2 .next O (S.trans r) Y u W
   |true=>
    simp only[if_true];refine hb V Y u W O fun f mf i C y v hf z H D j B=>?_;have g:=(S.trans r).trans H;induction hf with
    |next=>
     exact gG z fun K M o=>U K M v y i C g D j B o
    |cont=>
     exact gG z fun K M o=>U K M v y i C g D j B o
    |brk=>exact q _ _ i C y v .next z g D j B
    |ret hv=>exact q _ _ i C y v (.ret hv) z g D j B
 exact go n s m l G (Sm.refl s) F u R N
end
theorem FL:∀(b:List Str) (d:List Value) (i:Nat) (x:Str) (v:Value),b.Nodup->b[i]?=some x->d[i]?=some v->(b.zip d).lookup x=some v
 | [],_,i,x,v,_,h,_=>by simp at h
 |n::b,[],i,x,v,_,_,h=>by simp at h
 |n::b,w::d,0,x,v,j,c,f=>by
  simp at c f;subst c;subst f;simp[List.lookup]
 |n::b,w::d,i+1,x,v,j,c,f=>by
  have a:=bL.mp j;simp at c f;have g:x≠n:=by
   intro e;revert a;exact rS e fun a=>a.1<|ck c
  simp only[List.zip_cons_cons,List.lookup_cons];exact rE (b4.mpr g)<|FL b d i x v a.2 c f
theorem Dn {c d:Type} [BEq c] [LawfulBEq c] {l:List (c×d)}{x:c}(h:∀ p∈l,p.1≠x):l.lookup x=none:=by
 induction l with
 |nil=>rfl
 |cons p r e=>
  obtain⟨a,b⟩:=p;exact rE List.lookup_cons<|rE (b4.mpr<|cZ<|h (a,b)<|.head _)<|e fun q f=>h q<|.tail _ f
theorem lookup_reverse_of_nodup {d:Type}{l:List (Str×d)}(c:(l.map (·.1)).Nodup) (x:Str):l.reverse.lookup x=l.lookup x:=by
 induction l with
 |nil=>rfl
 |cons p r f=>
  obtain⟨a,b⟩:=p;rw[List.map_cons,bL]at c;refine rE List.reverse_cons<|rE List.lookup_append<|rE (f c.2) ?_;by_cases h:x=a
  .subst h;have:r.lookup x=none:=Dn fun p g e=>c.1<|List.mem_map.mpr ⟨p,g,e⟩;refine rE this ?_;simp[List.lookup]
  .simp [List.lookup,(b4.mpr h)]
theorem LR.start (f:(names++rest).Nodup) (g:vals.length=names.length) (m:VRs vals args) :
  LR (names++rest) (args.map some++List.replicate rest.length none) (fun y=>(names.zip vals).reverse.lookup y):=by
 have c:names.Nodup:=(SF.mp f).1;have b:args.length=names.length:=rS m.length<|rE g rfl;have q:((names.zip vals).map (·.1)).Nodup:=by
  have:(names.zip vals).map (·.1)=names:=by
   exact rE (List.map_fst_zip<|Nat.le_of_eq g.symm) rfl
  exact rE this c
 refine⟨f,by simp[b],fun i x a=>?_⟩;dsimp only;refine rE (lookup_reverse_of_nodup q ..)<|T1 (U1 i names.length) (fun h=>?_) fun h=>?_
 .replace a:=(List.getElem?_append_left h)▸a;have j:i<vals.length:=g▸h;have l:vals[i]?=some vals[i]:=cB j;refine rE (FL names vals i x _ c a l)<|rE (List.getElem?_append_left<|by simp;exact b▸h)<|rE List.getElem?_map ?_;have:=m.get i;replace this:=l▸this;generalize args[i]?=am at this;cases this with
  |some h=>exact .some h
 .replace a:=(List.getElem?_append_right h)▸a;have d:x∈rest:=ck a;have:(names.zip vals).lookup x=none:=Dn fun p o e=>by
   exact(SF.mp f).2.2 p.1 ((List.of_mem_zip o).1) x d e
  refine rE this<|rE (List.getElem?_append_right<|by simp;exact b▸h) ?_;simp only[b7,b];have n:i-names.length<rest.length:=by
   refine T1 (U1 (i-names.length) rest.length) (fun k=>k) fun k=>?_
   .exact have a:=(dG k)▸a;xns a
  exact rE (List.getElem?_replicate_of_lt n) .none
theorem Cx.deeper (x:Cx Z n A e L d) (i:f+1<=n)
  (B:Below A c (d::b) g) (X:Z.K.In g) (T:Top Z.p Z.loose Z.K3 Z.mg Z.mb g) (l:a.frame=some j) (k:a.scope.kind=.function) (m:a.code≠.ref 503):Cx Z f (A.deeper a) g j a:=
 ⟨x.hh,o12 i x.dep,o13 i x.un,X,T,⟨A,c,d::b,B,c0 B.stack⟩,l,k,fun h=>(m h).elim⟩
noncomputable def VV (P:MV->St->Prop):MF->LS->St->Prop:=fun a _ G=>match a with|.ret v=>P v G|_=>P .none G
theorem Ya 
  (ho:Z.K.lookup f=some ⟨oc,od,.func<|fnOf u h i l b dV kV M pm an k ct,aa⟩) (ag:codeIn Z.K k h=true)
  (hb:∀(s:Shared) (c:List Value),Z.K.In s.heap->c.length=Q->BindsTo s (fnOf u h i l b dV kV M pm an k ct) ⟨c,[]⟩ (a.zip<|c++j))
  (hd:VRs j dm) (ae:Q+j.length=a.length)
  (I:(a.all fun y=>decide<|b.names.lookup y=some .local)=true) (ab:(a++e).Nodup)
  (z:Ex Z ⟨h,b,f,k,[],a++e,n⟩ l X)
  (hk:b.kind=.function) (w:∀ x∈b.names,x.2≠.cell) (af:b.isCoroutine=false) (J:b.isGenerator=false) (hc:k≠.ref 503) :
  Sp Z (n+1) f (fun o G P=>o.length=Q/\X ((o++dm).map some++List.replicate e.length none) G (VV P)):=by
 intro A ah L aq s m G P R' c o v F R hv t q;refine bc fun ng=>xP t (xA2 fun t0 t=>have H:c.length=Q:=rE hv.length<|rE t0 rfl;xE3 v.bel fun aj ai Y=>xA2 fun B hA=>gG R fun D N r=>ng<|code_def B F v.X N v.T hA v.fr v.kf ho ag (Nat.lt_of_le_of_lt (Nat.le_add_right _ _) v.dep) (hb s c (v.X.keeps F.keep) H) (fun y hy=>?_) (fun g L' E FG F' N' B' X' T'=>?_) af J hk w)
 .have:y.1∈a:=(List.of_mem_zip hy).1;exact bU<|List.all_eq_true.mp I _ this
 .refine z (s:={s with heap:=E,toks:=s.toks+(a.zip<|c++j).length}) (v.deeper (To _) B' X' T' rfl hk hc) F' (LR.start (names:=a) (rest:=e) ab (rE cE<|rE H ae)<|hv.append hd) ⟨D,N',r⟩ t fun fl mf ak V m' C hf S sm F2 ao R2=>gG R2 fun d N2 O=>have p:Sm s C:=(Sm.ht s _ _).trans sm;leaveK_ F2 N2 fun W U=>?_;induction hf with
  |next=>exact q _ _ V C .none S p W ⟨d,U,O⟩
  |brk=>exact q _ _ V C .none S p W ⟨d,U,O⟩
  |cont=>exact q _ _ V C .none S p W ⟨d,U,O⟩
  |ret hr=>exact q _ _ V C hr S p W ⟨d,U,O⟩
theorem Cm (l:Dh o=false)(g:Pb args)(k:(apos.endLine==pos.line)=true)(b:Str)(a:Env)(j:autoParam (decide (args.length<30)=true) rf) :
  ∃ e,eval (.Call (.Attribute o b apos) args [] pos) a=(do
   let d <- eval o a;standAt apos.atName;let (f,first) <- holding [d] (getMethod d b e);callWith pos f first (backTo pos<|starEach args a) []):=by
 have h:methodCallForm (args.length+([]:List Keyword).length) (backTo pos<|starEach args a) (backToKw pos<|keywordEach [] a)=true:=by
  unfold methodCallForm;have i:(backTo pos<|starEach args a).all (!·.1)=true:=by
   refine rE List.all_eq_not_any_not ?_;simpa using (DG g pos a)
  refine rE i ?_;have:decide (args.length+([]:List Keyword).length+(if (backToKw pos<|keywordEach [] a).isEmpty=true then 0 else 1)<30)=true:=by
   apply Ti;exact (bU j)
  exact rE this rfl
 refine ⟨(do return (<- importBound o a).getD true),?_⟩;show (do
  let d <- attributeBase o b a (eval o a);standAt apos.atName;methodCall o b apos pos a d (args.length+([]:List Keyword).length) (backTo pos<|starEach args a)<|backToKw pos<|keywordEach [] a)=_
 refine rE (Cw l ..) ?_;unfold methodCall;refine rE h ?_;unfold calleeOf methodCallPos;exact rE k rfl
theorem BK (d:BS Z.K C a=true)(f:Ev Z c e T)(g:autoParam (Dh e=false) rf):Ev Z c (.Attribute e a b) (Cz C a T):=
 TK d f fun h=>rE (arm_eval_Attribute ..)<|rE (Cw g ..) rfl
theorem AS (g:Ev Z c e T)(f:Ea Z c a d)(h:autoParam (notStar e=true) rf):Ea Z c (e::a) (DC T d):=TM g f fun b=>Ck h a b
theorem C1 (p:Ak Z.K C a f=true)(q:Ev Z c o T)(h:Ea Z c b i)(m:Sp Z n f S)(k:n<=c.n)(j:(d.endLine==e.line)=true)(r:autoParam (Dh o=false) rf)(l:autoParam (decide (b.length<30)=true) rf) :
  Ev Z c (.Call (.Attribute o a d) b [] e) (KH C a T i S):=TN p q h m k fun g=>Cm r h.2 j a g l
theorem Im (j:Ev Z c o T) (i:Ev Z c e g) (k:Dh o=false) (f:notStar e=true) (h:(b.endLine==d.line)=true) :
  Ev Z c (.Call (.Attribute o "append" b) [e] [] d) (WI T g):=
 Pc j i (fun a=>Ck f [] a) fun a=>Cm k (DF DU fun a=>Ck f [] a) h _ a
theorem Qc (f:Ev Z c o T) (g:Dh o=false) (e:(b.endLine==d.line)=true) :
  Ev Z c (.Call (.Attribute o "pop" b) [.Constant (.int 0) k h] [] d) (QX T):=
 TQ f (fun a=>Ck rfl [] a) fun a=>Cm g (DF DU fun a=>Ck rfl [] a) e _ a
theorem IM (h:Ev Z c b f) (g:Ev Z c a e) (i:Cy a=true):Ev Z c (.Subscript b a d) (QY f e):=WJ h g fun _ _ _=>KG i _ _
theorem TY (i:MU Z.K C f=true) (l:Ev Z c b g) (k:Ev Z c a e) (j:Sp Z n f S) (h:n+1<=c.n)
  (m:Cy a=true):Ev Z c (.Subscript b a d) (YV C g e S):=WK i l k j h fun _ _=>NP m _ _
theorem Ob (h:Ev Z c l e) (g:Ev Z c r d) (f:Dc r=true):Ev Z c (.Compare l [b] [r] a) (YQ b e d):=WB h g<|CT f _
theorem DO (h:Ev Z c l e)(g:Ev Z c r d)(f:autoParam (Dc r=true) rf):Tt Z c (.Compare l [b] [r] a) (VP b e d):=WC h g<|CT f _
theorem HK (h:Ev Z c e T) (d:Fp e=true):Tt Z c e (tTr T):=QU h fun b a=>Ii d b a
theorem IP (j:c.vs[i]?=some x) (g:iK c) (f:iL c x) (h:Ev Z c a T)
  (k:CO a=true):Ss Z c (.Assign [.Name x b] a d) (YX i T):=WL i j g f h fun e=>Bn k _ _ e
theorem A1 (j:Cd Z.K C b=true) (h:Ev Z c a T) (i:Ev Z c o g) (k:CO a=true) :
  Ss Z c (.Assign [.Attribute o b d] a e) (C0 C b T g):=NQ j h i fun f=>Bn k _ _ f
theorem Em (h:Ev Z c a T) (j:Ev Z c o f) (k:Ev Z c i g) (l:CO a=true) :
  Ss Z c (.Assign [.Subscript o i b] a d) (K7 T f g):=Pd h j k fun e=>Bn l _ _ e
theorem NS (p:Gi Z.K C f=true) (h:Ev Z c a T) (k:Ev Z c o g) (m:Ev Z c i j)
  (q:Sp Z n f S) (l:n<=c.n) (r:CO a=true):Ss Z c (.Assign [.Subscript o i b] a d) (Oa C T g j S):=Pe p h k m q l fun e=>Bn r _ _ e
theorem Io (h:Ev Z c e T) (d:iK c) (f:CO e=true):Ss Z c (.Expr e a) (Qa T):=
 TS h (fun L=>by refine(rE d ?_:(c.scope.kind==.module&&_)=false);rfl) fun b=>Bn f _ _ b
noncomputable def NT:XT:=fun _ _ _=>False
theorem Dp :Ss Z c (.Raise a b d) NT:=fun A e L s m f G P Q E h F g R t q=>t.elim
noncomputable def nth:List Stmt->Nat->Stmt
 |s::_,0=>s
 |_::r,n+1=>nth r n
 | [],_=>.Pass default
noncomputable def dE:Expr:=.Constant .none 0 default
noncomputable def dA:Arguments:={posonlyargs:=[],args:=[],vararg:=none,kwonlyargs:=[],kw_defaults:=[],kwarg:=none,defaults:=[]}
def sPa:Stmt->List Stmt×List Stmt×Expr×Expr×Arguments×Scope×Pos
 |.FunctionDef (body:=b) (args:=a) (scope:=s) ..=>(b,[],dE,dE,a,s,default)
 |.ClassDef (body:=b) ..=>(b,[],dE,dE,dA,default,default)
 |.For (target:=t) (iter:=e) (body:=b) (pos:=p) ..=>(b,[],e,t,dA,default,p)
 |.If (test:=e) (body:=b) (orelse:=o) (pos:=p)=>(b,o,e,dE,dA,default,p)
 |.Expr e p=>([],[],e,dE,dA,default,p)
 |_=>([],[],dE,dE,dA,default,default)
noncomputable def ePa:Expr->Option Expr×Pos
 |.Name _ p=>(none,p)
 |.Yield e p=>(e,p)
 |_=>(none,default)
def Yb (s:Stmt):List Stmt:=(sPa s).1
def BO (s:Stmt):List Stmt:=(sPa s).1
def EO (s:Stmt):Arguments:=(sPa s).2.2.2.2.1
def Af (s:Stmt):Scope:=(sPa s).2.2.2.2.2.1
def top (i:Nat):Stmt:=nth PySem.Challenge.pw_kc0046_01.main.body i
def BP (i j:Nat):Stmt:=nth (Yb<|top i) j
noncomputable def VW (K:Frag) (f:Addr):Option FuncData:=(K.lookup f).bind fun o=>match o.data with|.func v=>some v|_=>none
theorem Qd {K:Frag}{x}(h:VW K c=some x):∃ o,K.lookup c=some o/\o.data=.func x:=
 gG (bQ.mp h) fun o a b=>⟨o,a,by generalize o.data=d at b ⊢;induction d<;>first|exact xns b|exact cT _ (so b)⟩
noncomputable def KO (K:Frag) (f:Addr) (b a:Str) (c:Stmt) (e:List<|Str×Addr) (d:Value):Prop:=
 (VW K f).map (fun r=>(r.name,r.qualname,r.params,r.body,r.scope,r.globals,r.closure,r.defaults,r.code,r.builtins))=some (b,a,EO c,.stmts<|BO c,Af c,mainGlobals,e,d,.ref<|f-1,builtinsNs)/\codeIn K (.ref<|f-1) a=true
theorem KO.ex {K:Frag}(h:KO K f e c g l k) :
  ∃ p n q j m z y i,K.lookup f=some ⟨p,n,.func<|fnX e c (EO g) (BO g) (Af g) l k q j m z (.ref<|f-1) y,i⟩/\codeIn K (.ref<|f-1) c=true:=by
 refine xP h<|xA2 fun x w=>gG (bP.mp x) fun r v u=>gG (Qd v) fun o a b=>?_;have s:r=fnX e c (EO g) (BO g) (Af g) l k r.kwdefaults r.doc r.pyModule r.annotations (.ref<|f-1) r.closureTuple:=
  cT (fun t=>(⟨t.1,t.2.1,t.2.2.1,t.2.2.2.1,t.2.2.2.2.1,t.2.2.2.2.2.1,t.2.2.2.2.2.2.1,t.2.2.2.2.2.2.2.1,r.kwdefaults,r.doc,r.pyModule,r.annotations,t.2.2.2.2.2.2.2.2.1,r.closureTuple,t.2.2.2.2.2.2.2.2.2⟩:FuncData)) u
 exact⟨o.cls,o.dict,r.kwdefaults,r.doc,r.pyModule,r.annotations,r.closureTuple,o.slots,a.trans<|cT (fun d=>some (⟨o.cls,o.dict,d,o.slots⟩:Obj))<|b.trans<|cT Data.func s,w⟩
noncomputable def FnAt (K:Frag) (f:Addr) (b a:Str) (c:Stmt) (d:Value):Prop:=KO K f b a c [] d
theorem FnAt.ex {K:Frag}(h:FnAt K f b a c g) :
  ∃ k j l e i n m d,K.lookup f=some ⟨k,j,.func<|fnOf b a (EO c) (BO c) (Af c) g l e i n (.ref<|f-1) m,d⟩/\codeIn K (.ref<|f-1) a=true:=KO.ex h
noncomputable abbrev CB:Addr:=183
noncomputable abbrev CQ:Addr:=467
def fc (f:Addr) (a:Str) (c:Stmt) (b:List Str) (n:Nat):FC:=⟨a,Af c,f,.ref<|f-1,[],b,n⟩
theorem D9 {f:Nat}(h:autoParam ((f-1==503)=false) rf):(Value.ref<|f-1)≠.ref 503:=fun e=>by injection e with e;rw[e]at h;exact xtf h
theorem En {dflt:List Value}(h:FnAt Z.K f d c b w)(H:∀(s:Shared) (a:List Value) (o j m:Value) (v:Option Addr) (u:Value),Z.K.In s.heap->a.length=na->BindsTo s (fnOf d c (EO b) (BO b) (Af b) w o j m v (.ref<|f-1) u) ⟨a,[]⟩ (names.zip<|a++dflt))(E:VRs dflt dm)(i:Ex Z (fc f c b (names++rest) n) (BO b) X)(q:autoParam (na+dflt.length=names.length) rf)(k:autoParam ((names.all fun y=>decide<|(Af b).names.lookup y=some .local)=true) rf)(p:autoParam ((names++rest).Nodup) dc)(D:autoParam ((Af b).kind=.function) rf)(g:autoParam (∀ x∈(Af b).names,x.2≠.cell) dc)(r:autoParam ((Af b).isCoroutine=false) rf)(l:autoParam ((Af b).isGenerator=false) rf)(F:(f-1==503)=false:=by rfl) :
  Sp Z (n+1) f (fun e G P=>e.length=na/\X ((e++dm).map some++List.replicate rest.length none) G (VV P)):=bc fun A=>xE8 h.ex fun L J o j m v u z=>xA2 fun B t=>A<|Ya B t (fun s a I C=>H s a o j m v u I C) E q k p i D g r l<|D9 F
structure QS where
 q:Nat
 cnt:Nat
 auto:Bool
 hf:Addr
 occ:Nat->Bool
 cont:Nat->Bool
 shf:Nat->Bool
 rem:Nat->Nat
noncomputable abbrev QS.n (S:QS):Nat:=2^S.q
noncomputable def Cn (f:Nat->Bool) (i:Nat) (v:Bool):Nat->Bool:=fun j=>if j=i then v else f j
noncomputable def FN (f:Nat->Nat) (i:Nat) (v:Nat):Nat->Nat:=fun j=>if j=i then v else f j
set_option genCtorIdx true in
inductive AV where
 |v (m:MV)
 |lst (xs:List MV)
 |tup (a b:MV)
 |ba (n:Nat) (bs:List Nat)
 |bv (n:Nat) (bits:Nat->Bool)
 |qf (S:QS)
 |B5 (c:Addr)
 |cel (c:Addr) (a:AV)
 |tab
noncomputable def AV.Gj:AV->Bool
 |.B5 _=>true
 |.cel _ _=>true
 |.tab=>true
 |_=>false
noncomputable def Dq (a:List Nat):List MV:=a.map fun(b:Nat)=>MV.int (b:Int)
def Ip (S:QS):List MV:=(List.range S.n).map fun j=>MV.int (S.rem j:Int)
noncomputable def look (l:List<|Str×MV):Str->Option MV:=fun y=>l.lookup y
noncomputable def baF (n:Nat) (a:List Nat) (l:Addr):List (Str×MV):=[("_size_bytes",.int a.length),("_bitarray",.ref l),("_size",.int n)]
noncomputable def codeOf (q:Nat):MV:=if 32-q<=8 then .str "B" else if 32-q<=16 then .str "I" else .str "L"
noncomputable def Qe (q:Nat):MV:=if 32-q<=8 then .int 8 else if 32-q<=16 then .int 16 else .int 32
def qfF (S:QS) (c b a l:Addr):List (Str×MV):=
 [("_q",.int S.q),("_r",.int (32-S.q:Nat)),("_size",.int S.n),("_QuotientFilter__mod_size",.int (S.n-1:Nat)),("_elements_added",.int S.cnt),("_auto_resize",.bool S.auto),
  ("_hash_func",.ref S.hf),("_int_type_code",codeOf S.q),("_bits_per_elm",Qe S.q),("_is_occupied",.ref c),("_is_continuation",.ref b),("_is_shifted",.ref a),("_filter",.ref l)]
noncomputable def K8 (n:Nat) (c:List Nat) (a:Nat->Bool):Prop:=n<=8*c.length/\c.length<=100/\(∀ b∈c,b<256)/\∀ i,i<n->a i=(c.getD (i/8) 0).testBit (i%8)
structure H0 (G:St) (x d l:Addr) (n:Nat) (bs:List Nat):Prop where
 ix:G x=some (.inst CB d)
 id:∃ k,k<=800/\G d=some (.dict k<|look<|baF n bs l)
 il:G l=some (.list<|Dq bs)
structure EZ (G:St) (x d l:Addr) (n:Nat) (bits:Nat->Bool):Prop where
 is:∃ bs,H0 G x d l n bs/\K8 n bs bits
structure QD where
 x:Addr
 d:Addr
 l:Addr
 b1:Addr
 d1:Addr
 l1:Addr
 b2:Addr
 d2:Addr
 l2:Addr
 b3:Addr
 d3:Addr
 l3:Addr
noncomputable def QD.foot (D:QD):List Addr:=[D.x,D.d,D.l,D.b1,D.d1,D.l1,D.b2,D.d2,D.l2,D.b3,D.d3,D.l3]
structure Bz (G:St) (D:QD) (S:QS):Prop where
 ix:G D.x=some (.inst CQ D.d)
 id:∃ k,k<=800/\G D.d=some (.dict k<|look<|qfF S D.b1 D.b2 D.b3 D.l)
 il:G D.l=some (.list<|Ip S)
 o:EZ G D.b1 D.d1 D.l1 S.n S.occ
 c:EZ G D.b2 D.d2 D.l2 S.n S.cont
 s:EZ G D.b3 D.d3 D.l3 S.n S.shf
inductive Own (G:St):List Addr->AV->MV->Prop
 |v (m):Own G [] (.v m) m
 |lst {l xs}:G l=some (.list xs)->Own G [l] (.lst xs) (.ref l)
 |tup {t a b}:G t=some (.tup [a,b])->Own G [t] (.tup a b) (.ref t)
 |ba {x d l n bs}:H0 G x d l n bs->Own G [x,d,l] (.ba n bs) (.ref x)
 |bv {x d l n bits}:EZ G x d l n bits->Own G [x,d,l] (.bv n bits) (.ref x)
 |qf {D S}:Bz G D S->Own G D.foot (.qf S) (.ref D.x)
theorem Own.kv {G f m mv}{g:Prop}(h:Own G f (.v m) mv) (k:f=[]->mv=m->g):g:=by cases h;exact k rfl rfl
theorem H0.mono {x d l n bs}(h:H0 G x d l n bs) (e:∀ a∈[x,d,l],b a=G a):H0 b x d l n bs:=by
 refine bc fun c=>?_;obtain⟨j,⟨k,f,i⟩,g⟩:=h;exact c ⟨(e x<|by simp).trans j,⟨k,f,(e d<|by simp).trans i⟩,(e l<|by simp).trans g⟩
theorem EZ.mono {x d l n bits}(h:EZ G x d l n bits) (e:∀ a∈[x,d,l],b a=G a):EZ b x d l n bits:=by
 refine bc fun c=>?_;obtain⟨g,h,f⟩:=h;exact c ⟨g,h.mono e,f⟩
theorem Bz.mono {c:St}{D S}(h:Bz G D S) (e:∀ a∈D.foot,c a=G a):Bz c D S:=by
 have b:∀{l:List Addr},(∀ a∈l,a∈D.foot)->∀ a∈l,c a=G a:=fun d a g=>e a<|d a g;obtain⟨o,⟨k,f,n⟩,m,h4,j,i⟩:=h;exact⟨(e _<|by simp[QD.foot]).trans o,⟨k,f,(e _<|by simp[QD.foot]).trans n⟩,(e _<|by simp[QD.foot]).trans m,
  h4.mono<|b<|by simp[QD.foot],j.mono<|b<|by simp[QD.foot],i.mono<|b<|by simp[QD.foot]⟩
theorem Own.mono {f a mv}(h:Own G f a mv) (e:∀ b∈f,c b=G b):Own c f a mv:=by
 induction h with
 |v=>exact .v _
 |lst h=>exact .lst<|(e _<|.head _).trans h
 |tup h=>exact .tup<|(e _<|.head _).trans h
 |ba h=>exact .ba<|h.mono e
 |bv h=>exact .bv<|h.mono e
 |qf h=>exact .qf<|h.mono e
theorem H0.dom {x d l n bs}(h:H0 G x d l n bs):∀ a∈[x,d,l],G a≠none:=by
 obtain⟨f,⟨k,g,e⟩,c⟩:=h;intro a b;simp only[bM,List.not_mem_nil,or_false]at b;rcases b with rfl|rfl|rfl
 .exact rE f<|L0 _
 .exact rE e<|L0 _
 .exact rE c<|L0 _
theorem Own.dom {f a mv}(h:Own G f a mv):∀ b∈f,G b≠none:=by
 cases h with
 |v=>intro b d;cases d
 |lst h=>intro b d;exact rE (bO.mp d)<|rE h<|L0 _
 |tup h=>intro b d;exact rE (bO.mp d)<|rE h<|L0 _
 |ba h=>exact h.dom
 |bv h=>refine bc fun e=>?_;obtain⟨o,h,_⟩:=h;refine e ?_;exact h.dom
 |qf h=>
  refine bc fun e=>?_;obtain⟨m,⟨k,n,l⟩,j,⟨_,h4,_⟩,⟨_,i,_⟩,⟨_,g,_⟩⟩:=h;refine e fun a c=>?_;simp only[QD.foot,bM,List.not_mem_nil,or_false]at c;rcases c with rfl|rfl|rfl|c
  .exact rE m<|L0 _
  .exact rE l<|L0 _
  .exact rE j<|L0 _
  .rcases c with c|c|c|c|c|c|c|c|c
   .exact h4.dom a (by simp[c])
   .exact h4.dom a (by simp[c])
   .exact h4.dom a (by simp[c])
   .exact i.dom a (by simp[c])
   .exact i.dom a (by simp[c])
   .exact i.dom a (by simp[c])
   .exact g.dom a (by simp[c])
   .exact g.dom a (by simp[c])
   .exact g.dom a (by simp[c])
noncomputable abbrev PL:=List<|Option AV
noncomputable def AL:PL->Nat->Option AV
 |a::_,0=>a
 |_::r,i+1=>AL r i
 | [],_=>none
noncomputable def AY:PL->Nat->AV->PL
 |_::r,0,a=>some a::r
 |x::r,i+1,a=>x::AY r i a
 | [],_,_=>[]
noncomputable abbrev FS:=List<|List Addr
structure Jq (G:St) (f:List Addr):Prop where
 dom:∀ b∈f,G b≠none
 tab:∃ ps,501∈f/\G 501=some (.obj<|tabObj ps)/\TriplesOk ps.toList/\∀ pos v,codeAmong pos ps.toList=some v->∃ c' oc vs t,v=.ref c'/\c'∈f/\G c'=some (.obj oc)/\oc.data=.fields vs/\vs[1]?=some (.str "law.<locals>.<lambda>" t)
theorem Jq.mono {f}(h:Jq G f) (e:∀ b∈f,j b=G b):Jq j f:=by
 refine bc fun c=>?_;obtain⟨r,l,g,q,p,o⟩:=h;exact c ⟨fun b d=>rE (e b d)<|r b d,l,g,(e _ g).trans q,p,fun a v n=>bc fun c=>xE4 (o a v n) fun s m k t=>xA5 fun y i x w u=>c ⟨s,m,k,t,y,i,(e _ i).trans x,w,u⟩⟩
inductive Loc (G:St):FS->PL->LS->Prop
 |nil:Loc G [] [] []
 |free {fs pl ls} (o:Option MV):Loc G fs pl ls->Loc G ([]::fs) (none::pl) (o::ls)
 |own {f a mv fs pl ls}:Own G f a mv->Loc G fs pl ls->Loc G (f::fs) (some a::pl) (some mv::ls)
 |B5 {c fs pl ls}:G c=some (.cell none)->Loc G fs pl ls->Loc G ([c]::fs) (some (.B5 c)::pl) (none::ls)
 |cel {c f a mv fs pl ls}:G c=some (.cell<|some mv)->Own G f a mv->Loc G fs pl ls->Loc G ((c::f)::fs) (some (.cel c a)::pl) (none::ls)
 |tab {f fs pl ls}:Jq G f->Loc G fs pl ls->Loc G (f::fs) (some .tab::pl) (none::ls)
theorem Loc.Pg {G i a e ls}{g:Prop}(h:Loc G i (some a::e) ls) (d:a.Gj=false) (k:∀ f c mv b,i=f::c->ls=some mv::b->Own G f a mv->Loc G c e b->g):g:=by
 cases h with
 |own l j=>exact k _ _ _ _ rfl rfl l j
 |B5=>exact xtf d
 |cel=>exact xtf d
 |tab=>exact xtf d
theorem Loc.mono {d f ls}(h:Loc G d f ls) (e:∀ b∈d.flatten,g b=G b):Loc g d f ls:=by
 induction h with
 |nil=>exact .nil
 |free o _ c=>exact .free o<|c fun b a=>e b<|by simpa using a
 |own h _ c=>exact .own (h.mono fun b a=>e b<|by simp[a])<|c fun b a=>e b<|rE D4<|Bl _ a
 |B5 h _ c=>exact .B5 ((e _<|by simp).trans h)<|c fun b a=>e b<|rE D4<|Bl _ a
 |cel h i _ c=>exact .cel ((e _<|by simp).trans h) (i.mono fun b a=>e b<|by simp[a])<|c fun b a=>e b<|rE D4<|Bl _ a
 |tab h _ c=>exact .tab (h.mono fun b a=>e b<|by simp[a])<|c fun b a=>e b<|rE D4<|Bl _ a
theorem Loc.dom {d e ls}(h:Loc G d e ls):∀ b∈d.flatten,G b≠none:=by
 induction h with
 |nil=>intro b a;simp at a
 |free o _ c=>intro b a;exact c b (by simpa using a)
 |own h _ c=>
  intro b a;rw[D4]at a;exact T1 (X1.mp a) (fun a=>h.dom b a) fun a=>c b a
 |B5 h _ c=>
  intro b a;rw[D4]at a;exact T1 (X1.mp a) (fun a=>rE (bO.mp a)<|rE h<|L0 _) fun a=>c b a
 |cel h f _ c=>
  intro b a;rw[D4]at a;exact T1 (X1.mp a) (fun a=>mC a (rE h<|L0 _) fun a=>f.dom b a) fun a=>c b a
 |tab h _ c=>
  intro b a;rw[D4]at a;exact T1 (X1.mp a) (fun a=>h.dom b a) fun a=>c b a
noncomputable def B0:FS->Nat->List Addr
 |f::_,0=>f
 |_::r,i+1=>B0 r i
 | [],_=>[]
noncomputable def BD:FS->Nat->List Addr->FS
 |_::r,0,f=>f::r
 |x::r,i+1,f=>x::BD r i f
 | [],_,_=>[]
theorem Loc.get' {f d ls}(h:Loc G f d ls):∀{i a},AL d i=some a->a.Gj=false->∃ mv,(ls[i]?).join=some mv/\Own G (B0 f i) a mv:=by
 induction h with
 |nil=>intro i a e;exact xns e
 |free o _ c=>
  intro i a e b;induction i with
  |zero=>exact xns e
  |succ i=>simpa [B0]using c (i:=i) e b
 |own h _ c=>
  intro i a e b;induction i with
  |zero=>(have z:=so e;refine rS z ?_);exact⟨_,rfl,h⟩
  |succ i=>simpa [B0]using c (i:=i) e b
 |B5 h _ c=>
  intro i a e b;induction i with
  |zero=>(have z:=so e;clear e;revert b;refine rS z ?_;intro b);exact xtf b
  |succ i=>simpa [B0]using c (i:=i) e b
 |cel h _ _ c=>
  intro i a e b;induction i with
  |zero=>(have z:=so e;clear e;revert b;refine rS z ?_;intro b);exact xtf b
  |succ i=>simpa [B0]using c (i:=i) e b
 |tab h _ c=>
  intro i a e b;induction i with
  |zero=>(have z:=so e;clear e;revert b;refine rS z ?_;intro b);exact xtf b
  |succ i=>simpa [B0]using c (i:=i) e b
theorem Loc.get {c b ls}(h:Loc G c b ls){i a}(e:AL b i=some a) (d:a.Gj=false:=by rfl):∃ mv,(ls[i]?).join=some mv/\Own G (B0 c i) a mv:=h.get' e d
theorem Ad :∀{i b},b∈B0 a i->b∈a.flatten:=by
 induction a with
 |nil=>intro i b h;cases h
 |cons f r c=>
  intro i b h;induction i with
  |zero=>exact rE D4<|Lf _ h
  |succ i=>exact rE D4<|Bl _<|c h
theorem Bs :∀{i b},b∈(BD a i f).flatten->b∈f\/(b∈a.flatten):=by
 induction a with
 |nil=>intro i b h;simp[BD]at h
 |cons g r c=>
  intro i b h;induction i with
  |zero=>
   simp only[BD,D4,X1]at h ⊢;exact h.imp id Or.inr
  |succ i=>
   simp only[BD,D4,X1]at h ⊢;exact T1 h (fun h=>.inr<|.inl h) fun h=>(c h).imp id Or.inr
theorem Bb (l:j.flatten.Nodup) (o:f.Nodup):∀{i},(∀ b∈f,b∈B0 j i\/b∉j.flatten)->(BD j i f).flatten.Nodup:=by
 induction j with
 |nil=>intro i h;simp[BD]
 |cons g r n=>
  intro i h;rw[D4,SF]at l;refine xP l<|xA3 fun p m k=>?_;induction i with
  |zero=>
   simp only[BD,D4,SF];refine⟨o,m,fun a d b c e=>?_⟩;subst e;exact T1 (h a d) (fun h=>k a h a c rfl) fun h=>h<|rE D4<|Bl _ c
  |succ i=>
   simp only[BD,D4,SF];refine⟨p,n m fun b c=>T1 (h b c) (fun h=>.inl h) fun h=>.inr fun q=>h<|rE D4<|Bl _ q,fun a d b c e=>?_⟩
   .subst e;exact T1 (Bs c) (fun c=>T1 (h a c) (fun h=>k a d a (Ad h) rfl) fun h=>h<|rE D4<|Lf _ d) fun c=>k a d a c rfl
theorem Loc.set {e d ls}(h:Loc G e d ls):∀{i f a mv},Own G f a mv->Loc G (BD e i f) (AY d i a) (ls.set i<|some mv):=by
 induction h with
 |nil=>intro i f a mv b;exact .nil
 |free o h c=>
  intro i f a mv b;induction i with
  |zero=>exact .own b h
  |succ i=>exact .free o<|c b
 |own h0 h c=>
  intro i f a mv b;induction i with
  |zero=>exact .own b h
  |succ i=>exact .own h0<|c b
 |B5 h0 h c=>
  intro i f a mv b;induction i with
  |zero=>exact .own b h
  |succ i=>exact .B5 h0<|c b
 |cel h0 g h c=>
  intro i f a mv b;induction i with
  |zero=>exact .own b h
  |succ i=>exact .cel h0 g<|c b
 |tab h0 h c=>
  intro i f a mv b;induction i with
  |zero=>exact .own b h
  |succ i=>exact .tab h0<|c b
theorem Loc.turn {t u ls}(h:Loc G t u ls) (n:t.flatten.Nodup):∀{i a a' f' mv},AL u i=some a->(∀ b∈t.flatten,b∉B0 t i->x b=G b)->(ls[i]?).join=some mv->Own x f' a' mv->
  Loc x (BD t i f') (AY u i a') ls:=by
 induction h with
 |nil=>intro i a a' f' mv e;exact xns e
 | @free q k l o h m=>
  intro i a a' f' mv e f g j;induction i with
  |zero=>exact xns e
  |succ i=>exact .free o<|m (by simpa using n) e (fun b d c=>f b (by simpa using d) c) g j
 | @own f0 z s q k l h0 h m=>
  intro i a a' f' mv e f g j;rw[D4,SF]at n;refine xP n<|xA3 fun v r p=>?_;induction i with
  |zero=>
   have:s=mv:=by simpa using g
   revert j;exact rS this fun j=>.own j<|h.mono fun b d=>f b (rE D4<|Bl _ d) fun c=>p b c b d rfl
  |succ i=>
   refine .own (h0.mono fun b d=>f b (rE D4<|Lf _ d) fun c=>p b d b (Ad c) rfl)<|m r e (fun b d c=>f b (rE D4<|Bl _ d) c) (by simpa using g) j
 | @B5 y q k l h0 h m=>
  intro i a a' f' mv e f g j;rw[D4,SF]at n;refine xP n<|xA3 fun v r p=>?_;induction i with
  |zero=>exact xns g
  |succ i=>
   exact .B5 ((f _ (by simp) fun c=>p _ (.head _) _ (Ad c) rfl).trans h0)<|m r e (fun b d c=>f b (rE D4<|Bl _ d) c) (by simpa using g) j
 | @cel y f0 z s q k l h0 w h m=>
  intro i a a' f' mv e f g j;rw[D4,SF]at n;refine xP n<|xA3 fun v r p=>?_;induction i with
  |zero=>exact xns g
  |succ i=>
   exact .cel ((f _ (by simp) fun c=>p _ (.head _) _ (Ad c) rfl).trans h0) (w.mono fun b d=>f b (by simp[d]) fun c=>p b (.tail _ d) b (Ad c) rfl)<|m r e (fun b d c=>f b (rE D4<|Bl _ d) c) (by simpa using g) j
 | @tab f0 q k l h0 h m=>
  intro i a a' f' mv e f g j;rw[D4,SF]at n;refine xP n<|xA3 fun v r p=>?_;induction i with
  |zero=>exact xns g
  |succ i=>
   exact .tab (h0.mono fun b d=>f b (by simp[d]) fun c=>p b d b (Ad c) rfl)<|m r e (fun b d c=>f b (rE D4<|Bl _ d) c) (by simpa using g) j
structure Fm (F:List Addr) (G:St) (F':List Addr) (G':St):Prop where
 keep:∀ a,G a≠none->a∉F->G' a=G a
 sub:∀ a∈F',a∈F\/G a=none
 dom:∀ a,G a≠none->a∉F->G' a≠none
theorem Fm.refl (F:List Addr) (G:St):Fm F G F G:=⟨fun _ _ _=>rfl,fun _ h=>.inl h,fun _ h _=>h⟩
theorem Fm.trans {F G F1 G1 j f}(a:Fm F G F1 G1) (b:Fm F1 G1 j f):Fm F G j f:=by
 have g:∀ x,G x≠none->x∉F->f x=G x:=fun x c d=>by
  exact have i:=a.keep x c d;(b.keep x (rE i c) fun h=>(a.sub x h).elim d c).trans i
 refine⟨g,fun x c=>T1 (b.sub x c) (fun h=>a.sub x h) fun h=>?_,fun x c d=>rE (g x c d) c⟩
 .by_cases d:x∈F
  .exact .inl d
  .by_cases e:G x=none
   .exact .inr e
   .rw [a.keep x e d]at h;exact(e h).elim
theorem Fm.mono {F G d b c}(a:Fm F G d c) (h:∀ x∈b,x∈d):Fm F G b c:=⟨a.keep,fun x e=>a.sub x<|h x e,a.dom⟩
theorem Ev.weaken (h:Ev Z c e T) (g:∀ a G P,d a G P->T a G P):Ev Z c e d:=fun A b L s m a G P Q E i F f R t q=>h i F f R (g _ _ _ t) q
theorem Tt.weaken (h:Tt Z c e T) (g:∀ a G P,d a G P->T a G P):Tt Z c e d:=fun A b L s m a G P Q E i F f R t q=>h i F f R (g _ _ _ t) q
theorem Ss.weaken (h:Ss Z c e T) (g:∀ a G P,d a G P->T a G P):Ss Z c e d:=fun A b L s m a G P Q E i F f R t q=>h i F f R (g _ _ _ t) q
theorem Ex.weaken (h:Ex Z c e T) (g:∀ a G P,d a G P->T a G P):Ex Z c e d:=fun A b L s m a G P Q E i F f R t q=>h i F f R (g _ _ _ t) q
theorem Own.val (h:Own G f (.v m) mv):mv=m:=by
 refine Own.kv h fun z a=>?_;clear h;subst z;subst a;rfl
noncomputable def DH:Operator->Int->Int->Option Int
 |.Add,i,j=>some<|i+j
 |.Sub,i,j=>some<|i-j
 |.Mult,i,j=>if i.natAbs<2^64\/j.natAbs<2^64 then some (i*j)else none
 |.FloorDiv,i,j=>if j≠0/\j.natAbs<1073741824 then some (i.fdiv j)else none
 |.Mod,i,j=>if j≠0 then some (i.fmod j)else none
 |.LShift,i,j=>if 0<=j/\j<=1000/\i.natAbs<2^64 then some (i*2^j.toNat)else none
 |.RShift,i,j=>if 0<=j then some (i.fdiv<|2^j.toNat)else none
 |.BitAnd,i,j=>some<|Builtin.bitAnd i j
 |.BitOr,i,j=>some<|Builtin.bitOr i j
 |_,_,_=>none
theorem BL {b:Type} [Decidable p] {x y:b}(h:(if p then some x else none)=some y):p/\x=y:=by
 by_cases a:p
 .rw [cA a]at h;exact⟨a,cw h⟩
 .rw [b5 a]at h;exact xns h
theorem TZ (h:DH e i j=some r) (a:k<|.int r):YN e i j k:=by
 induction e with
 |Add=>(have z:=so h;clear h;subst z);exact a
 |Sub=>(have z:=so h;clear h;subst z);exact a
 |BitAnd=>(have z:=so h;clear h;subst z);exact a
 |BitOr=>(have z:=so h;clear h;subst z);exact a
 |Mult=>
  refine xP (BL h)<|xA2 fun b=>fun d=>?_;revert a;exact rS d fun a=>⟨T1 b (fun b=>.of_left<|intBits_le_64 (o28 b)<|o29 b) fun b=>.of_right<|intBits_le_64 (o28 b)<|o29 b,a⟩
 |FloorDiv=>refine xP (BL h)<|xA2 fun b=>?_;intro d;revert a;refine rS d ?_;intro a;exact⟨b,a⟩
 |Mod=>refine xP (BL h)<|xA2 fun b=>?_;intro d;revert a;refine rS d ?_;intro a;exact⟨b,a⟩
 |LShift=>refine xP (BL h)<|xA2 fun b=>?_;intro d;revert a;refine rS d ?_;intro a;exact⟨⟨b.1,Int.le_trans b.2.1<|by decide,b.2.2⟩,a⟩
 |RShift=>refine xP (BL h)<|xA2 fun b=>?_;intro d;revert a;refine rS d ?_;intro a;exact⟨b,a⟩
 |_=>exact xns h
noncomputable def mI:Option MV->Option Int
 |some (.int i)=>some i
 |_=>none
theorem mv15 {f:Type}{h:Int->Option f}{r:f}{g:Prop}(e:(match d with|some (MV.int a)=>h a|_=>none)=some r) (k:∀ a,d=some (MV.int a)->h a=some r->g):g:=by
 generalize i:d=b at e;revert e i;exact Option.casesOn b (fun _=>xns) fun j=>MV.casesOn j (fun _=>xns) (fun _ _=>xns) (fun l=>k _) (fun _ _=>xns) (fun _ _=>xns) (fun _ _=>xns) fun _ _=>xns
theorem BA (h:mI o=some i):o=some (.int i):=by
 unfold mI at h;exact mv15 h (fun _=>fun z=>rE z fun h=>soE h rfl)
noncomputable def mT:MV->Option Bool
 |.bool b=>some b
 |.int i=>some<|i != 0
 |.none=>some false
 |_=>none
theorem mv16 {d:Type}{j:Bool->Option d}{i:Int->Option d}{h:Option d}{r:d}{g:Prop}(e:(match b with|MV.bool a=>j a|MV.int a=>i a|MV.none=>h|_=>none)=some r) (n:∀ a,b=MV.bool a->j a=some r->g) (m:∀ a,b=MV.int a->i a=some r->g) (l:b=MV.none->h=some r->g):g:=by
 generalize k:b=f at e;revert e k;exact MV.casesOn f l (fun p=>n _) (fun o=>m _) (fun _ _=>xns) (fun _ _=>xns) (fun _ _=>xns) fun _ _=>xns
theorem KP (h:mT a=some b) (d:k b):mtr a k:=by
 unfold mT at h;refine mv16 h ?_ ?_ ?_
 .clear h;refine fun _=>fun z=>rE z fun h=>have z:=so h;?_;clear h;subst z;exact d
 .clear h;refine fun _=>fun z=>rE z fun h=>have z:=so h;?_;clear h;subst z;exact d
 .clear h;refine fun z=>rE z fun h=>have z:=so h;?_;clear h;subst z;exact d
noncomputable abbrev PE:=PL->Option MV
noncomputable abbrev PB:=PL->Option Bool
inductive lP (f:PE) (ls:LS) (G:St) (P:MV->St->Prop):Prop
 |mk (fs:FS) (pl:PL) (r:MV) (lo:Loc G fs pl ls) (e:f pl=some r) (hp:P r G)
inductive lPB (f:PB) (ls:LS) (G:St) (P:Bool->St->Prop):Prop
 |mk (fs:FS) (pl:PL) (r:Bool) (lo:Loc G fs pl ls) (e:f pl=some r) (hp:P r G)
noncomputable def Pu (Z:PX) (c:FC) (e:Expr) (f:PE):Prop:=Ev Z c e<|lP f
noncomputable def PuB (Z:PX) (c:FC) (e:Expr) (f:PB):Prop:=Tt Z c e<|lPB f
def AM (i:Nat):PE:=fun a=>match AL a i with|some (.v m)=>some m|_=>none
theorem mv17 {f:Type}{h:MV->Option f}{r:f}{g:Prop}(e:(match d with|some (AV.v a)=>h a|_=>none)=some r) (k:∀ a,d=some (AV.v a)->h a=some r->g):g:=by
 generalize i:d=b at e;revert e i;exact Option.casesOn b (fun _=>xns) fun j=>AV.casesOn j (fun l=>k _) (fun _ _=>xns) (fun _ _ _=>xns) (fun _ _ _=>xns) (fun _ _ _=>xns) (fun _ _=>xns) (fun _ _=>xns) (fun _ _ _=>xns) fun _=>xns
theorem AB (i:Nat)(j:autoParam (c.vs[i]?=some x) rf)(h:autoParam (iK c) rf)(g:autoParam (iL c x) rf)(k:autoParam (jD x) rf):Pu Z c (.Name x a) (AM i):=by
 refine(AQ i j h g k).weaken ?_;rintro q G P ⟨s,p,r,f,e,b⟩;unfold AM at e;refine mv17 e ?_
 .refine fun m o e=>bc fun d=>?_;revert b;refine soE e fun b=>gG (f.get o) fun mv n l=>d ?_;unfold B3;exact rE n<|rE l.val b
noncomputable def AP (m:MV):PE:=fun _=>some m
theorem AD (h:Ev Z c e<|Br m):Pu Z c e (AP m):=by
 refine h.weaken ?_;rintro d G P ⟨g,b,r,f,e,a⟩;revert a;exact soE e fun a=>a
def Aj (b:Operator) (f g:PE):PE:=fun a=>match mI (f a),mI (g a)with
 |some i,some j=>(match DH b i j with|some r=>some (.int r)|none=>none)
 |_,_=>none
theorem mv18 {j:Type}{k:Int->Int->Option j}{r:j}{g:Prop}(e:(match i,h with|some b,some a=>k b a|_,_=>none)=some r) (n:∀ b a,i=some b->h=some a->k b a=some r->g):g:=by
 generalize m:i=f at e;generalize l:h=d at e;revert e m l;exact Option.casesOn f eT fun p=>Option.casesOn d eT fun o=>n _ _
theorem mv19 {f:Type}{h:Int->Option f}{r:f}{g:Prop}(e:(match d with|some a=>h a|none=>none)=some r) (j:∀ a,d=some a->h a=some r->g):g:=by
 generalize i:d=b at e;revert e i;exact Option.casesOn b eS fun k=>j _
theorem AJ (p:Pu Z c l f) (o:Pu Z c r g):Pu Z c (.BinOp l h r a) (Aj h f g):=by
 refine(Ih p o).weaken ?_;rintro u G P ⟨n,d,r,m,e,b⟩;unfold Aj at e;refine mv18 e ?_
 .refine fun i j t s e=>mv19 e ?_
  .intro r q e;revert b;exact soE e fun b=>⟨n,d,_,m,BA t,n,d,_,m,BA s,TZ (k:=fun v=>P v G) q b⟩
def pUn (b:PySem.UnaryOp) (f:PE):PE:=fun a=>match mI (f a),b with
 |some i,.USub=>some<|.int<|-i
 |some i,.Invert=>some<|.int<|Builtin.bitNot i
 |_,_=>none
theorem mv4002 {h:Type}{a:PySem.UnaryOp}{j i:Int->Option h}{r:h}{g:Prop}(e:(match b,a with|some y,.USub=>j y|some y,.Invert=>i y|_,_=>none)=some r) (n:∀ y,b=some y->a=.USub->j y=some r->g) (m:∀ y,b=some y->a=.Invert->i y=some r->g):g:=by
 generalize l:b=f at e;generalize k:a=d at e;revert e l k;exact Option.casesOn f (fun _ _=>xns) fun y=>UnaryOp.casesOn d (m y) (fun _ _=>xns) (fun _ _=>xns)<|n y
theorem GG (h:Pu Z c x f):Pu Z c (.UnaryOp j x b) (pUn j f):=by
 refine(QT h).weaken ?_;rintro m G P ⟨l,g,r,k,e,a⟩;unfold pUn at e;refine mv4002 e (fun i d z e=>?_) fun i d z e=>?_
 .refine rE z ?_;revert a;exact soE e fun a=>⟨l,g,_,k,BA d,a⟩
 .refine rE z ?_;revert a;exact soE e fun a=>⟨l,g,_,k,BA d,a⟩
def CF (d:CmpOp):Option MV->Option MV->Option Bool
 |some a,some b=>D5 d a b
 |_,_=>none
theorem mv21 {j:Type}{k:MV->MV->Option j}{r:j}{g:Prop}(e:(match i,h with|some b,some a=>k b a|_,_=>none)=some r) (n:∀ b a,i=some b->h=some a->k b a=some r->g):g:=by
 generalize m:i=f at e;generalize l:h=d at e;revert e m l;exact Option.casesOn f eT fun p=>Option.casesOn d eT fun o=>n _ _
theorem KQ (h:CF d x y=some r):∃ a b,x=some a/\y=some b/\D5 d a b=some r:=by
 unfold CF at h;refine mv21 h ?_
 .clear h;intro _ _;intro z;subst z;intro z;subst z;intro h;exact⟨_,_,rfl,rfl,h⟩
theorem Gk (h:D5 d a b=some r) (e:k r):OU d a b k:=⟨r,h,e⟩
def Aw (b:CmpOp) (f g:PE):PB:=fun a=>CF b (f a)<|g a
noncomputable def K9 (f:PB):PE:=fun a=>match f a with|some b=>some (.bool b)|none=>none
theorem mv22 {f:Type}{h:Bool->Option f}{r:f}{g:Prop}(e:(match d with|some a=>h a|none=>none)=some r) (j:∀ a,d=some a->h a=some r->g):g:=by
 generalize i:d=b at e;revert e i;exact Option.casesOn b eS fun k=>j _
theorem Ph (h:K9 f a=some r):∃ b,f a=some b/\r=.bool b:=by
 unfold K9 at h;exact mv22 h (fun _ _ h=>soE h ⟨_,‹_›,rfl⟩)
theorem AW (p:Pu Z c l f)(o:Pu Z c r g)(n:autoParam (Dc r=true) rf):PuB Z c (.Compare l [i] [r] d) (Aw i f g):=by
 refine(DO p o n).weaken ?_;rintro u G P ⟨k,h,r,j,e,m⟩;exact xE2 (KQ e) fun a b=>xA3 fun t s q=>⟨k,h,_,j,t,k,h,_,j,s,Gk q m⟩
theorem EP (s:Pu Z c l f)(q:Pu Z c r g)(p:autoParam (Dc r=true) rf):Pu Z c (.Compare l [j] [r] d) (K9<|Aw j f g):=by
 refine(Ob s q p).weaken ?_;rintro x G P ⟨m,i,r,k,e,h⟩;refine bc fun o=>xE1 (Ph e) fun b=>xA2 fun w=>fun n=>?_;revert h;exact rE n fun h=>xE2 (KQ w) fun a b=>xA3 fun v u t=>o ⟨m,i,_,k,v,m,i,_,k,u,Gk t h⟩
def pTr (f:PE):PB:=fun a=>match f a with|some m=>mT m|none=>none
theorem mv23 {f:Type}{h:MV->Option f}{r:f}{g:Prop}(e:(match d with|some a=>h a|none=>none)=some r) (j:∀ a,d=some a->h a=some r->g):g:=by
 generalize i:d=b at e;revert e i;exact Option.casesOn b eS fun k=>j _
theorem A3 (h:Pu Z c e f)(g:autoParam (Fp e=true) rf):PuB Z c e (pTr f):=by
 refine(HK h g).weaken ?_;rintro k G P ⟨i,a,r,b,e,d⟩;unfold pTr at e;exact mv23 e (fun m j e=>⟨i,a,_,b,j,KP e d⟩)
noncomputable def pIf (t:PB) (f g:PE):PE:=fun a=>match t a with|some true=>f a|some false=>g a|none=>none
theorem mv4001 {f:Type}{i h:Option f}{r:f}{g:Prop}(e:(match a with|some true=>i|some false=>h|none=>none)=some r) (l:a=some true->i=some r->g) (k:a=some false->h=some r->g):g:=by
 generalize j:a=d at e;revert e j;exact Option.casesOn d eS fun b=>Bool.casesOn b k l
theorem MZ {f:PE}(h:PuB Z c b t) (p:Pu Z c d f) (o:Pu Z c a g):Pu Z c (.IfExp b d a l) (pIf t f g):=by
 refine(VQ h p o).weaken ?_;rintro q G P ⟨k,i,r,j,e,n⟩;unfold pIf at e;exact mv4001 e (fun m e=>⟨k,i,_,j,m,k,i,_,j,e,n⟩) fun m e=>⟨k,i,_,j,m,k,i,_,j,e,n⟩
noncomputable def GH:PB:=fun _=>some true
noncomputable def C3:PB:=fun _=>some false
noncomputable def Ec (t u:PB):PB:=fun a=>match t a with|some true=>u a|some false=>some false|none=>none
noncomputable def pOr (t u:PB):PB:=fun a=>match t a with|some true=>some true|some false=>u a|none=>none
theorem Bt :PuB Z c (.BoolOp .And [] a) GH:=NO.weaken (by rintro f G P ⟨h,d,r,g,e,b⟩;(revert b;refine soE e ?_;intro b);exact b)
theorem BU :PuB Z c (.BoolOp .Or [] a) C3:=HI.weaken (by rintro f G P ⟨h,d,r,g,e,b⟩;(revert b;refine soE e ?_;intro b);exact b)
theorem BW {t u:PB}(k:PuB Z c x t) (j:PuB Z c (.BoolOp .And a b) u):PuB Z c (.BoolOp .And (x::a) b) (Ec t u):=by
 refine(QV k j).weaken ?_;rintro l G P ⟨h,f,r,g,e,d⟩;unfold Ec at e;refine mv4001 e (fun i e=>⟨h,f,_,g,i,h,f,_,g,e,d⟩) fun i e=>?_
 .revert d;exact soE e fun d=>⟨h,f,_,g,i,d⟩
theorem CL {t u:PB}(k:PuB Z c x t) (j:PuB Z c (.BoolOp .Or a b) u):PuB Z c (.BoolOp .Or (x::a) b) (pOr t u):=by
 refine(KD k j).weaken ?_;rintro l G P ⟨h,f,r,g,e,d⟩;unfold pOr at e;refine mv4001 e (fun i e=>?_) fun i e=>⟨h,f,_,g,i,h,f,_,g,e,d⟩
 .revert d;exact soE e fun d=>⟨h,f,_,g,i,d⟩
noncomputable def IA (t:PB):PB:=fun a=>match t a with|some b=>some (!b)|none=>none
theorem Iq (h:PuB Z c x t):PuB Z c (.UnaryOp .Not x a) (IA t):=by
 refine(NN h).weaken ?_;rintro k G P ⟨i,f,r,g,e,d⟩;unfold IA at e;refine mv22 e fun b j e=>?_;revert d;exact soE e fun d=>⟨i,f,_,g,j,d⟩
noncomputable abbrev ME:=Nat->PL->Option (MV×PL)
noncomputable abbrev MB:=Nat->PL->Option (Bool×PL)
set_option genCtorIdx true in
inductive AF where
 |next|brk|cont
 |ret (a:AV)
noncomputable abbrev MX:=Nat->PL->Option (AF×PL)
inductive DI (G:St):List Addr->AF->MF->Prop
 |next:DI G [] .next .next
 |brk:DI G [] .brk .brk
 |cont:DI G [] .cont .cont
 |ret {f a mv}:Own G f a mv->DI G f (.ret a) (.ret mv)
theorem DI.kne {G f a}{g:Prop}(h:DI G f .next a) (k:f=[]->a=.next->g):g:=by cases h;exact k rfl rfl
theorem DI.kcn {G f a}{g:Prop}(h:DI G f .cont a) (k:f=[]->a=.cont->g):g:=by cases h;exact k rfl rfl
theorem DI.kbr {G f a}{g:Prop}(h:DI G f .brk a) (k:f=[]->a=.brk->g):g:=by cases h;exact k rfl rfl
theorem DI.kre {G f a b}{g:Prop}(h:DI G f (.ret a) b) (k:∀ mv,b=.ret mv->Own G f a mv->g):g:=by
 cases h with
 |ret h=>exact k _ rfl h
structure LN (G:St) (fs:FS) (pl:PL) (ls:LS):Prop where
 lo:Loc G fs pl ls
 nd:fs.flatten.Nodup
structure FmN (fs:FS) (G:St) (fs':FS) (G':St):Prop where
 fm:Fm fs.flatten G fs'.flatten G'
theorem FmN.refl :FmN fs G fs G:=⟨.refl _ _⟩
theorem FmN.trans {e G d G1 c f}(a:FmN e G d G1) (b:FmN d G1 c f):FmN e G c f:=⟨a.fm.trans b.fm⟩
inductive lE (M:ME) (ls:LS) (G:St) (P:MV->St->Prop):Prop
 |mk (n:Nat) (fs:FS) (pl:PL) (r:MV) (pl':PL) (lo:LN G fs pl ls) (e:M n pl=some (r,pl')) (hp:∀ fs' G',LN G' fs' pl' ls->FmN fs G fs' G'->P r G')
inductive lB (M:MB) (ls:LS) (G:St) (P:Bool->St->Prop):Prop
 |mk (n:Nat) (fs:FS) (pl:PL) (r:Bool) (pl':PL) (lo:LN G fs pl ls) (e:M n pl=some (r,pl')) (hp:∀ fs' G',LN G' fs' pl' ls->FmN fs G fs' G'->P r G')
inductive lX (M:MX) (ls:LS) (G:St) (P:MF->LS->St->Prop):Prop
 |mk (n:Nat) (fs:FS) (pl:PL) (r:AF) (pl':PL) (lo:LN G fs pl ls) (e:M n pl=some (r,pl'))
  (hp:∀ fs' G' ls' f mf,LN G' fs' pl' ls'->DI G' f r mf->(f++fs'.flatten).Nodup->FmN fs G (f::fs') G'->ls'.head?=ls.head?->P mf ls' G')
variable {Z:PX}{c:FC}
noncomputable def Ee (Z:PX) (c:FC) (e:Expr) (M:ME):Prop:=Ev Z c e<|lE M
noncomputable def Eb (Z:PX) (c:FC) (e:Expr) (M:MB):Prop:=Tt Z c e<|lB M
noncomputable def Sx (Z:PX) (c:FC) (e:Stmt) (M:MX):Prop:=Ss Z c e<|lX M
noncomputable def Bx (Z:PX) (c:FC) (e:List Stmt) (M:MX):Prop:=Ex Z c e<|lX M
noncomputable def wPl {a:Type}(o:Option a) (b:PL):Option (a×PL):=match o with|some r=>some (r,b)|none=>none
def up (f:PE):ME:=fun _ a=>wPl (f a) a
def upB (f:PB):MB:=fun _ a=>wPl (f a) a
theorem IQ (h:wPl o d=some (r,a)):o=some r/\a=d:=by
 induction o with
 |none=>exact xns h
 |some x=>(refine BH h ?_;clear h);exact⟨rfl,rfl⟩
theorem Ac (h:Pu Z c e f):Ee Z c e (up f):=by
 refine Ev.weaken h ?_;rintro k G P ⟨n,i,j,r,d,a,e,g⟩;refine xP (IQ e)<|xA2 fun e=>fun b=>?_;revert a e;exact rS b fun a e=>⟨i,_,r,a.lo,e,g _ _ a .refl⟩
theorem Al (h:PuB Z c e f):Eb Z c e (upB f):=by
 refine Tt.weaken h ?_;rintro k G P ⟨n,i,j,r,d,a,e,g⟩;refine xP (IQ e)<|xA2 fun e=>fun b=>?_;revert a e;exact rS b fun a e=>⟨i,_,r,a.lo,e,g _ _ a .refl⟩
def Gl (i:CmpOp) (f g:ME):MB:=fun n h=>match f n h with
 |some (a,e)=>(match g n e with
  |some (b,d)=>wPl (D5 i a b) d
  |none=>none)
 |none=>none
theorem mv25 {h:Type}{i:MV->PL->Option h}{r:h}{g:Prop}(e:(match f with|some (b,a)=>i b a|none=>none)=some r) (l:∀ b a,f=some (b,a)->i b a=some r->g):g:=by
 generalize j:f=d at e;revert e j;exact Option.casesOn d eS fun k=>Prod.casesOn k fun n m=>l _ _
theorem KS (h:Gl k f g n j=some (r,e)):∃ a d b,f n j=some (a,d)/\g n d=some (b,e)/\D5 k a b=some r:=by
 unfold Gl at h;refine mv25 h ?_
 .refine fun a d p h=>mv25 h ?_
  .refine fun b m i h=>xP (IQ h)<|xA2 fun o=>fun l=>?_;revert i;exact rS l fun i=>⟨a,d,b,p,i,o⟩
theorem FO (v:Ee Z c l f)(u:Ee Z c r g)(t:autoParam (Dc r=true) rf):Eb Z c (.Compare l [o] [r] h) (Gl o f g):=by
 refine(DO v u t).weaken ?_;rintro D G P ⟨n,x,p,r,i,q,e,s⟩;exact xE3 (KS e) fun a d b=>xA3 fun A z y=>⟨n,x,p,a,d,q,A,fun m F k C=>⟨n,m,d,b,i,k,z,fun w E j B=>Gk y<|s _ _ j<|C.trans B⟩⟩
noncomputable def ofB (M:MB):ME:=fun n d=>match M n d with|some (b,a)=>some (.bool b,a)|none=>none
theorem mv26 {h:Type}{i:Bool->PL->Option h}{r:h}{g:Prop}(e:(match f with|some (b,a)=>i b a|none=>none)=some r) (l:∀ b a,f=some (b,a)->i b a=some r->g):g:=by
 generalize j:f=d at e;revert e j;exact Option.casesOn d eS fun k=>Prod.casesOn k fun n m=>l _ _
theorem Qf {r:MV}(h:ofB M n d=some (r,a)):∃ b,M n d=some (b,a)/\r=.bool b:=by
 unfold ofB at h;exact mv26 h (fun _ _ _ h=>BH h ⟨_,‹_›,rfl⟩)
theorem WQ (y:Ee Z c l f) (w:Ee Z c r g) (v:Dc r=true):Ee Z c (.Compare l [p] [r] h) (ofB<|Gl p f g):=by
 refine(Ob y w v).weaken ?_;rintro I G P ⟨n,A,s,r,i,u,e,m⟩;refine bc fun t=>xE1 (Qf e) fun x=>xA2 fun E=>fun q=>?_;revert m;exact rE q fun m=>xE3 (KS E) fun a d b=>xA3 fun D C B=>t ⟨n,A,s,a,d,u,D,fun o K k H=>⟨n,o,d,b,i,k,C,fun z J j F=>Gk B<|m _ _ j<|H.trans F⟩⟩
def mTr (M:ME):MB:=fun n b=>match M n b with|some (m,a)=>wPl (mT m) a|none=>none
theorem FQ (h:Ee Z c e M)(l:autoParam (Fp e=true) rf):Eb Z c e (mTr M):=by
 refine(HK h l).weaken ?_;rintro t G P ⟨n,p,i,r,g,j,e,k⟩;unfold mTr at e;refine mv25 e ?_
 .refine fun m f b e=>xP (IQ e)<|xA2 fun q=>fun d=>?_;revert b;exact rS d fun b=>⟨n,p,i,m,_,j,b,fun o u a s=>KP q<|k _ _ a s⟩
noncomputable def Ta (M:MB):MB:=fun n d=>match M n d with|some (b,a)=>some (!b,a)|none=>none
theorem LD {M:MB}(j:Eb Z c x M):Eb Z c (.UnaryOp .Not x a) (Ta M):=by
 refine(NN j).weaken ?_;rintro m G P ⟨n,k,h,r,g,i,e,d⟩;unfold Ta at e;refine mv26 e fun b f l e=>?_;revert d;exact BH e fun d=>⟨n,k,h,b,_,i,l,d⟩
noncomputable def Pj (M N:MB):MB:=fun n b=>match M n b with|some (true,a)=>N n a|some (false,a)=>some (false,a)|none=>none
noncomputable def mOr (M N:MB):MB:=fun n b=>match M n b with|some (true,a)=>some (true,a)|some (false,a)=>N n a|none=>none
theorem mv4003 {f:Type}{i h:PL->Option f}{r:f}{g:Prop}(e:(match a with|some (true,y)=>i y|some (false,y)=>h y|none=>none)=some r) (l:∀ y,a=some (true,y)->i y=some r->g) (k:∀ y,a=some (false,y)->h y=some r->g):g:=by
 generalize j:a=d at e;revert e j;exact Option.casesOn d eS fun p=>Prod.casesOn p fun b y=>Bool.casesOn b (k y)<|l y
theorem Qg (q:Eb Z c x M) (p:Eb Z c (.BoolOp .And a d) N):Eb Z c (.BoolOp .And (x::a) d) (Pj M N):=by
 refine(QV q p).weaken ?_;rintro v G P ⟨n,o,l,r,g,m,e,f⟩;unfold Pj at e;refine mv4003 e (fun b k e=>⟨n,o,l,true,b,m,k,fun j y i u=>⟨n,j,b,r,g,i,e,fun s w h t=>f _ _ h<|u.trans t⟩⟩) fun b k e=>?_
 .revert f;exact BH e fun f=>⟨n,o,l,false,_,m,k,f⟩
theorem KV (q:Eb Z c x M) (p:Eb Z c (.BoolOp .Or a d) N):Eb Z c (.BoolOp .Or (x::a) d) (mOr M N):=by
 refine(KD q p).weaken ?_;rintro v G P ⟨n,o,l,r,g,m,e,f⟩;unfold mOr at e;refine mv4003 e (fun b k e=>?_) fun b k e=>⟨n,o,l,false,b,m,k,fun j y i u=>⟨n,j,b,r,g,i,e,fun s w h t=>f _ _ h<|u.trans t⟩⟩
 .revert f;exact BH e fun f=>⟨n,o,l,true,_,m,k,f⟩
theorem LN.nd' {a b ls}(h:LN G a b ls):(([]:List Addr)++a.flatten).Nodup:=h.nd
theorem FmN.cons {b G a d}(h:FmN b G a d):FmN b G ([]::a) d:=⟨h.fm⟩
noncomputable def Ar:MX:=fun _ a=>some (.next,a)
theorem AI:Bx Z c [] Ar:=BJ.weaken (by
 rintro g G P ⟨n,h,f,r,d,b,e,a⟩;(revert a;refine BH e ?_;intro a);exact a _ _ _ _ _ b .next b.nd' FmN.refl.cons rfl)
noncomputable def Ag (M N:MX):MX:=fun n b=>match M n b with
 |some (.next,a)=>N n a
 |o=>o
theorem BE {a:FS}(h:FmN b G (f::a) d):FmN b G a d:=⟨h.fm.mono fun x e=>rE D4<|Bl _ e⟩
theorem mv4004 {i:PL->Option (AF×PL)}{g:Prop}(e:(match b with|some (.next,y)=>i y|o=>o)=some r) (k:∀ y,b=some (.next,y)->i y=some r->g) (f:(∀ y,b=some (.next,y)->False)->b=some r->g):g:=by
 generalize j:b=d at e;revert e j;exact Option.casesOn d eS fun p=>Prod.casesOn p fun a y=>AF.casesOn a (k y) (fun z e=>f (fun _ h=>nomatch z.symm.trans h)<|z.trans e) (fun z e=>f (fun _ h=>nomatch z.symm.trans h)<|z.trans e) fun _ z e=>f (fun _ h=>nomatch z.symm.trans h)<|z.trans e
theorem AA {M:MX}(d:Sx Z c v M) (t:Bx Z c g N):Bx Z c (v::g) (Ag M N):=by
 refine(Ae d t).weaken ?_;rintro I G P ⟨n,A,w,r,i,y,e,l⟩;unfold Ag at e;refine mv4004 e (fun h u e=>⟨n,A,w,_,h,y,u,fun j F q f x a m b k d=>DI.kne m fun z B=>rE B ⟨n,j,h,r,i,a,e,fun E J D f x s C p H t=>l _ _ _ _ _ s C p ((BE k).trans H)<|t.trans d⟩⟩) fun u e=>?_
 .refine ⟨n,A,w,r,i,y,e,fun j F q f x a m b k d=>?_⟩;induction m with
  |next=>exact(u _ e).elim
  |brk=>exact l _ _ _ _ _ a .brk b k d
  |cont=>exact l _ _ _ _ _ a .cont b k d
  |ret o=>exact l _ _ _ _ _ a (.ret o) b k d
theorem BM :∀ x∈(BD a i []).flatten,x∈a.flatten:=fun x b=>(Bs b).elim (fun h=>nomatch h) id
theorem DV {a:LS}:(a.set (i+1) v).head?=a.head?:=by induction a<;>rfl
theorem LN.Gm {d a ls}(h:LN G d a ls) (i:Nat) (m:MV):LN G (BD d i []) (AY a i<|.v m) (ls.set i<|some m):=
 ⟨h.lo.set<|.v m,Bb h.nd dC fun b e=>nomatch e⟩
theorem FmN.set {b G}(i:Nat):FmN b G ([]::BD b i []) G:=⟨⟨fun _ _ _=>rfl,fun a d=>.inl<|BM a d,fun _ h _=>h⟩⟩
def BX (i:Nat) (M:ME):MX:=fun n b=>match M n b with|some (m,a)=>some (.next,AY a i<|.v m)|none=>none
theorem Ab {M:ME}(i:Nat)(h:Ee Z c a M)(s:autoParam (c.vs[i+1]?=some x) rf)(q:autoParam (iK c) rf)(p:autoParam (iL c x) rf)(t:autoParam (CO a=true) rf):Sx Z c (.Assign [.Name x b] a f) (BX (i+1) M):=by
 refine(IP s q p h t).weaken ?_;rintro z G P ⟨n,v,l,r,k,o,e,j⟩;unfold BX at e;refine mv25 e ?_
 .intro m g w e;revert j;exact BH e fun j=>⟨n,v,l,m,g,o,w,fun u A d y=>j _ _ _ _ _ (d.Gm _ m) .next (d.Gm (i+1) m).nd' (y.trans<|FmN.set _) DV⟩
def Jr (i:Nat) (e:Operator) (f:PE):MX:=fun _ d=>match mI (AM i d),mI<|f d,e with
 |some a,some b,.Add=>some (.next,AY d i<|.v<|.int<|a+b)
 |some a,some b,.Sub=>some (.next,AY d i<|.v<|.int<|a-b)
 |_,_,_=>none
theorem KW {f a ls}{m:MV}(b:Loc G f a ls) (h:AM i a=some m):(ls[i]?).join=some m:=by
 unfold AM at h;exact mv17 h (fun m g h=>soE h<|gG (b.get g) fun mv e d=>rE e<|rE d.val rfl)
theorem mv28 {i:Type}{h:Option Int}{f:Option Int}{k:Int->Int->Option i}{j:Int->Int->Option i}{r:i}{g:Prop}(e:(match h,f,d with|some b,some a,Operator.Add=>k b a|some b,some a,Operator.Sub=>j b a|_,_,_=>none)=some r) (m:∀ b a,h=some b->f=some a->d=Operator.Add->k b a=some r->g) (l:∀ b a,h=some b->f=some a->d=Operator.Sub->j b a=some r->g):g:=by
 induction h with
 |some o=>induction f with
  |some n=>induction d with
   |Add=>exact m _ _ rfl rfl rfl e
   |Sub=>exact l _ _ rfl rfl rfl e
   |_=>exact xns e
  |_=>exact xns e
 |_=>exact xns e
theorem Ir (i:Nat)(h:Pu Z c d f)(w:autoParam (c.vs[i+1]?=some x) rf)(v:autoParam (iK c) rf)(u:autoParam (iL c x) rf) :
  Sx Z c (.AugAssign (.Name x k) q d l) (Jr (i+1) q f):=by
 refine(WM (i+1) w v u h).weaken ?_;rintro y G P ⟨n,s,p,r,t,g,e,j⟩;unfold Jr at e;refine mv28 e ?_ ?_
 .refine fun a b=>fun o=>fun m=>fun z=>rE z fun e=>?_;revert j;refine BH e fun j=>?_;unfold TR;exact rE (KW g.lo<|BA o) ⟨s,p,_,g.lo,BA m,j _ _ _ _ _ (g.Gm _ _) .next (g.Gm (i+1)<|.int<|a+b).nd' (FmN.set _) DV⟩
 .refine fun a b=>fun o=>fun m=>fun z=>rE z fun e=>?_;revert j;refine BH e ?_;clear e;intro j;unfold TR;exact rE (KW g.lo<|BA o) ⟨s,p,_,g.lo,BA m,j _ _ _ _ _ (g.Gm _ _) .next (g.Gm (i+1)<|.int<|a-b).nd' (FmN.set _) DV⟩
noncomputable def mIf (T:MB) (M N:MX):MX:=fun n b=>match T n b with|some (true,a)=>M n a|some (false,a)=>N n a|none=>none
theorem Ao {M N:MX}(h:Eb Z c d T) (C:Bx Z c g M) (o:Bx Z c a N):Sx Z c (.If d g a p) (mIf T M N):=by
 refine(EY h C o).weaken ?_;rintro F G P ⟨n,A,x,r,m,y,e,z⟩;unfold mIf at e;exact mv4003 e (fun b u e=>⟨n,A,x,true,b,y,u,fun l E k w=>⟨n,l,b,r,m,k,e,fun t D s f B j q i v o=>z _ _ _ _ _ j q i (w.trans v) o⟩⟩) (fun b u e=>⟨n,A,x,false,b,y,u,fun l E k w=>⟨n,l,b,r,m,k,e,fun t D s f B j q i v o=>z _ _ _ _ _ j q i (w.trans v) o⟩⟩)
noncomputable def It (M:ME):MX:=fun n b=>match M n b with|some (m,a)=>some (.ret<|.v m,a)|none=>none
theorem CC {M:ME}(h:Ee Z c e M):Sx Z c (.Return (some e) b) (It M):=by
 refine(Il h).weaken ?_;rintro q G P ⟨n,l,i,r,g,j,e,d⟩;unfold It at e;refine mv25 e ?_
 .intro m f o e;revert d;exact BH e fun d=>⟨n,l,i,m,_,j,o,fun k s a p=>d _ _ _ _ _ a (.ret<|.v m) a.nd' p.cons rfl⟩
noncomputable def Gn (f:AF):MX:=fun _ a=>some (f,a)
theorem Oc :Sx Z c (.Return none a) (Gn<|.ret<|.v .none):=TU.weaken (by
 rintro h G P ⟨n,i,g,r,f,d,e,b⟩;(revert b;refine BH e ?_;intro b);exact b _ _ _ _ _ d (.ret<|.v _) d.nd' FmN.refl.cons rfl)
theorem LF :Sx Z c (.Break a) (Gn .brk):=WN.weaken (by
 rintro h G P ⟨n,i,g,r,f,d,e,b⟩;(revert b;refine BH e ?_;intro b);exact b _ _ _ _ _ d .brk d.nd' FmN.refl.cons rfl)
theorem Tb :Sx Z c (.Continue a) (Gn .cont):=TV.weaken (by
 rintro h G P ⟨n,i,g,r,f,d,e,b⟩;(revert b;refine BH e ?_;intro b);exact b _ _ _ _ _ d .cont d.nd' FmN.refl.cons rfl)
noncomputable def Od (T:MB):MX:=fun n b=>match T n b with|some (true,a)=>some (.next,a)|_=>none
theorem mv29 {f:Type}{h:PL->Option f}{r:f}{g:Prop}(e:(match d with|some (true,a)=>h a|_=>none)=some r) (l:∀ a,d=some (true,a)->h a=some r->g):g:=by
 generalize i:d=b at e;revert e i;exact Option.casesOn b eS fun k=>Prod.casesOn k fun j m=>Bool.casesOn j eS<|l _
theorem Pk {T:MB}(h:Eb Z c a T):Sx Z c (.Assert a none d) (Od T):=by
 refine(Pf h).weaken ?_;rintro q G P ⟨n,m,j,r,i,k,e,f⟩;unfold Od at e;refine mv29 e ?_
 .intro g o e;revert f;exact BH e fun f=>⟨n,m,j,true,_,k,o,fun l s b p=>⟨rfl,f _ _ _ _ _ b .next b.nd' p.cons rfl⟩⟩
noncomputable def C4 (M:ME):MX:=fun n b=>match M n b with|some (m,a)=>some (.next,a)|none=>none
theorem Ax {M:ME}(h:Ee Z c e M)(k:autoParam (iK c) rf)(l:autoParam (CO e=true) rf):Sx Z c (.Expr e b) (C4 M):=by
 refine(Io h k l).weaken ?_;rintro t G P ⟨n,p,i,r,g,j,e,d⟩;unfold C4 at e;refine mv25 e ?_
 .intro m f q e;revert d;exact BH e fun d=>⟨n,p,i,m,_,j,q,fun o u a s=>d _ _ _ _ _ a .next a.nd' s.cons rfl⟩
noncomputable def WR:MX:=fun _ _=>none
theorem Iu :Sx Z c d WR:=by
 refine fun A b L s m i G P Q E p F j R a q=>bc fun g=>?_;obtain⟨n,o,h,r,f,k,e,l⟩:=a;exact g<|xns e
noncomputable def wGo (T:MB) (X:MX) (n:Nat):Nat->PL->Option (AF×PL)
 |0,_=>none
 |k+1,e=>match T n e with
  |some (true,d)=>(match X n d with
   |some (.next,b)=>wGo T X n k b
   |some (.cont,b)=>wGo T X n k b
   |some (.brk,b)=>some (.next,b)
   |some (.ret a,b)=>some (.ret a,b)
   |none=>none)
  |some (false,d)=>some (.next,d)
  |none=>none
def NU (T:MB) (X:MX):MX:=fun n a=>wGo T X n n a
theorem mv30 {d:Type}{l:PL->Option d}{k:PL->Option d}{j:PL->Option d}{i:AV->PL->Option d}{r:d}{g:Prop}(e:(match b with|some (AF.next,a)=>l a|some (AF.cont,a)=>k a|some (AF.brk,a)=>j a|some (AF.ret a,f)=>i a f|none=>none)=some r) (t:∀ a,b=some (AF.next,a)->l a=some r->g) (s:∀ a,b=some (AF.cont,a)->k a=some r->g) (q:∀ a,b=some (AF.brk,a)->j a=some r->g) (p:∀ a f,b=some (AF.ret a,f)->i a f=some r->g):g:=by
 generalize m:b=h at e;revert e m;exact Option.casesOn h eS fun o=>Prod.casesOn o fun n v=>AF.casesOn n (t _) (q _) (s _) fun u=>p _ _
theorem C5 {T:MB}{X:MX}(h:Eb Z c v T) (V:Bx Z c w X):Sx Z c (.While v w [] H) (NU T X):=by
 refine(Qb h V).weaken ?_;rintro S G P ⟨n,O,R,r,I,U,e,t⟩;refine⟨fun k y M=>∃ q l,LN M q l y/\wGo T X n k l=some (r,I)/\FmN O G q M/\y.head?=S.head?,⟨n,O,R,U,e,.refl,rfl⟩,fun k y M=>xF2 fun q l=>xA4 fun E d Q F=>?_⟩;cases k with
 |zero=>exact xns d
 |succ k=>
  conv at d=>lhs;whnf
  refine mv4003 d ?_ ?_
  .refine fun j K d=>⟨n,q,l,true,j,E,K,fun p W i N=>have u:=Q.trans N;mv30 d ?_ ?_ ?_ ?_⟩
   .refine fun g B d=>⟨n,p,j,_,g,i,B,fun o L x f J b m s C A=>DI.kne m fun z D=>?_⟩;clear m;subst z;exact rE D ⟨k,dB k,o,g,b,d,u.trans<|BE C,A.trans F⟩
   .refine fun g B d=>⟨n,p,j,_,g,i,B,fun o L x f J b m s C A=>DI.kcn m fun z D=>?_⟩;clear m;subst z;exact rE D ⟨k,dB k,o,g,b,d,u.trans<|BE C,A.trans F⟩
   .clear d;intro g B d;revert t;exact BH d fun t=>⟨n,p,j,_,_,i,B,fun o L x f J b m s C A=>DI.kbr m fun z D=>rE D<|t _ _ _ _ _ b .next b.nd' (u.trans<|BE C).cons<|A.trans F⟩
   .intro a g B d;revert t;refine BH d fun t=>⟨n,p,j,_,_,i,B,fun o L x f J b m s C A=>?_⟩;cases m with
    |ret m=>exact t _ _ _ _ _ b (.ret m) s (u.trans C)<|A.trans F
  .intro j K d;revert t;exact BH d fun t=>⟨n,q,l,false,_,E,K,fun p W i N=>t _ _ _ _ _ i .next i.nd' (Q.trans N).cons F⟩
end QF
namespace QF
section
variable {Z:PX}{c:FC}
theorem FR {G:St}(h:G.CA x C k) (b:∀ d n f,k d n f->a d n f):G.CA x C a:=by
 refine xE3 (St.B4 h) fun d n f=>xA3 fun i g e=>?_;unfold St.CA;exact rE i ⟨rfl,rE g<|b _ _ _ e⟩
theorem Aq {G:St}(e:G x=some (.inst C d)) (b:G d=some (.dict n f)) (a:k d n f):G.CA x C k:=by
 unfold St.CA;exact rE e ⟨rfl,rE b a⟩
theorem Own.qfD (h:Own G f (.qf S) mv):∃ D:QD,f=D.foot/\mv=.ref D.x/\Bz G D S:=by
 cases h with
 |qf h=>exact⟨_,rfl,rfl,h⟩
theorem Own.baD (h:Own G f (.ba n a) mv):∃ x d l,f=[x,d,l]/\mv=.ref x/\H0 G x d l n a:=by
 cases h with
 |ba h=>exact⟨_,_,_,rfl,rfl,h⟩
noncomputable def aQ (a:QS->MV):AV->Option MV
 |.qf S=>some<|a S
 |_=>none
noncomputable def IS:AV->Option MV
 |.ba n _=>some<|.int n
 |_=>none
noncomputable def Js (C:Addr) (b:Str) (d:AV->Option MV):Prop:=(∀ a,a.Gj=true->d a=none)/\∀{G:St} {f:List Addr} {a:AV} {mv m:MV},Own G f a mv->d a=some m->(∀ i,m≠.bi i)/\∃ x,mv=.ref x/\G.CA x C fun _ _ e=>e b=some m
theorem Ep (o:∀ S t s r l,look (qfF S t s r l) b=some (d S)) (q:∀ S i,d S≠.bi i):Js CQ b (aQ d):=by
 refine⟨fun a h=>(by induction a<;>first|rfl|(exact xft h;done)),?_⟩;intro G f a mv m n e;induction a with
 |qf S=>
  refine bc fun g=>have z:=so e;?_;clear e;subst z;refine xE1 n.qfD fun D=>xA2 fun u=>xA2 fun j=>?_;revert g;exact rE j fun g=>fun h=>gG h.id fun k v p=>g ⟨q S,D.x,rfl,Aq h.ix p<|o ..⟩
 |_=>exact xns e
theorem FT:Js CB "_size" IS:=by
 refine⟨fun a h=>(by induction a<;>first|rfl|(exact xft h;done)),?_⟩;intro G f a mv m j e;induction a with
 |ba n bs=>
  refine bc fun b=>have z:=so e;?_;clear e;subst z;refine xE3 j.baD fun x d l=>xA2 fun p=>xA2 fun g=>?_;revert b;exact rE g fun b=>fun h=>gG h.id fun k q o=>b ⟨(fun i e=>nomatch e),x,rfl,Aq h.ix o rfl⟩
 |_=>exact xns e
def Bq (i:Nat) (b:AV->Option MV):PE:=fun d=>match AL d i with|some a=>b a|none=>none
theorem mv31 {f:Type}{h:AV->Option f}{r:f}{g:Prop}(e:(match d with|some a=>h a|none=>none)=some r) (j:∀ a,d=some a->h a=some r->g):g:=by
 generalize i:d=b at e;revert e i;exact Option.casesOn b eS fun k=>j _
theorem An (i:Nat)(y:BS Z.K C b=true)(l:Js C b f)(t:autoParam (c.vs[i]?=some x) rf)(s:autoParam (iK c) rf)(p:autoParam (iL c x) rf)(u:autoParam (jD x) rf):Pu Z c (.Attribute (.Name x d) b j) (Bq i f):=by
 refine(BK y<|AQ i t s p u).weaken ?_;rintro D G P ⟨E,B,r,o,e,q⟩;unfold Bq at e;refine mv31 e ?_
 .intro a A e;have g:a.Gj=false:=by
   refine bE a.Gj (fun g=>?_) fun g=>?_
   .rfl
   .rw [l.1 a g]at e;exact xns e
  refine bc fun n=>gG (o.get A g) fun mv k z=>xP (l.2 z e)<|xA2 fun v=>xF1 fun x=>xA2 fun m=>?_;revert k;refine rE m fun k=>fun w=>n ?_;unfold Cz B3;exact rE k<|FR w fun _ _ F h=>rE h ⟨v,q⟩
set_option genCtorIdx true in
inductive W where
 |o|c|s
noncomputable def W.name:W->Str
 |.o=>"_is_occupied"
 |.c=>"_is_continuation"
 |.s=>"_is_shifted"
noncomputable def W.b (D:QD):W->Addr
 |.o=>D.b1
 |.c=>D.b2
 |.s=>D.b3
noncomputable def W.d (D:QD):W->Addr
 |.o=>D.d1
 |.c=>D.d2
 |.s=>D.d3
noncomputable def W.l (D:QD):W->Addr
 |.o=>D.l1
 |.c=>D.l2
 |.s=>D.l3
noncomputable def QS.bit (S:QS):W->Nat->Bool
 |.o=>S.occ
 |.c=>S.cont
 |.s=>S.shf
def QS.AZ (S:QS) (w:W) (k:Nat) (v:Bool):QS:=match w with
 |.o=>{S with occ:=Cn S.occ k v}
 |.c=>{S with cont:=Cn S.cont k v}
 |.s=>{S with shf:=Cn S.shf k v}
theorem Bz.w {G D S}(h:Bz G D S) (w:W):EZ G (w.b D) (w.d D) (w.l D) S.n (S.bit w):=by
 induction w
 .exact h.o
 .exact h.c
 .exact h.s
theorem WS (S:QS) (D:QD) (w:W):look (qfF S D.b1 D.b2 D.b3 D.l) w.name=some (.ref<|w.b D):=by
 induction w<;>rfl
noncomputable def b2i (b:Bool):Int:=if b then 1 else 0
inductive Tc (args:List MV) (G:St) (P:MV->St->Prop):Prop
 |mk (b d l:Addr) (n:Nat) (bits:Nat->Bool) (k:Int) (h:EZ G b d l n bits) (ha:args=[.ref b,.int k]) (h0:0<=k/\k<n) (hp:P (.int<|b2i<|bits k.toNat) G)
def Qh (w:W) (a:Option AV) (k:Option Int):Option MV:=match a,k with
 |some (.qf S),some k=>if 0<=k/\k<S.n then some (.int<|b2i<|S.bit w k.toNat)else none
 |_,_=>none
def pBit (i:Nat) (w:W) (f:PE):PE:=fun a=>Qh w (AL a i)<|mI<|f a
theorem mv32 {j:Type}{k:QS->Int->Option j}{r:j}{g:Prop}(e:(match i,h with|some (AV.qf b),some a=>k b a|_,_=>none)=some r) (o:∀ b a,i=some (AV.qf b)->h=some a->k b a=some r->g):g:=by
 generalize m:i=f at e;generalize l:h=d at e;revert e m l;exact Option.casesOn f (fun _ _=>xns) fun n=>AV.casesOn n (fun _ _ _=>xns) (fun _ _ _=>xns) (fun _ _ _ _=>xns) (fun _ _ _ _=>xns) (fun _ _ _ _=>xns) (fun q=>Option.casesOn d (fun _ _=>xns) fun p=>o _ _) (fun _ _ _=>xns) (fun _ _ _ _=>xns) fun _ _=>xns
theorem KZ (h:Qh w a k=some r):∃ S j,a=some (.qf S)/\k=some j/\(0<=j/\j<S.n)/\r=.int (b2i<|S.bit w j.toNat):=by
 unfold Qh at h;exact mv32 h (fun _ _=>fun z=>rE z fun z=>rE z fun h=>xP (BL h)<|xA2 fun d=>fun b=>rS b ⟨_,_,rfl,rfl,d,rfl⟩)
theorem Loc.qf {d b ls}(h:Loc G d b ls) (e:AL b i=some (.qf S)):∃ D:QD,B0 d i=D.foot/\(ls[i]?).join=some (.ref D.x)/\Bz G D S:=by
 refine bc fun g=>gG (h.get e) fun mv a l=>xE1 l.qfD fun D=>xA3 fun k f=>?_;revert a;exact rE f fun a=>fun j=>g ⟨D,k,a,j⟩
theorem Bz.Cz {G D S}(h:Bz G D S)(f:(a[i]?).join=some (.ref D.x)) (w:W){P:MV->St->Prop}(d:P (.ref<|w.b D) G):Cz CQ w.name (B3 i) a G P:=by
 refine gG h.id fun k j g=>?_;unfold QF.Cz B3;exact rE f<|Aq h.ix g<|rE (WS ..) ⟨(fun i e=>nomatch e),d⟩
theorem Bg (i:Nat)(w:W)(C:BS Z.K CQ w.name=true)(A:MU Z.K CB 124=true)(B:Sp Z n 124 Tc)(h:Pu Z c e f)(y:autoParam (n+1<=c.n) dc)(z:autoParam (c.vs[i]?=some x) rf)(m:autoParam (iK c) rf)(v:autoParam (iL c x) rf)(d:autoParam (jD x) rf)(F:autoParam (Cy e=true) rf) :
  Pu Z c (.Subscript (.Attribute (.Name x u) w.name t) e s) (pBit i w f):=by
 refine(TY A (BK C<|AQ i z m v d) h B y F).weaken ?_;rintro M G P ⟨H,q,r,l,e,b⟩;refine bc fun a=>xE2 (KZ e) fun S j=>xA4 fun L J I=>fun p=>?_;revert b;refine rE p fun b=>gH (l.qf L) fun D O E g=>a<|g.Cz E w ⟨H,q,_,l,BA J,bc fun a=>?_⟩;obtain⟨Q,o,N⟩:=g.w w;exact gG o.id fun k m d=>a<|Aq o.ix d ⟨_,_,_,_,_,_,g.w w,rfl,I,b⟩
theorem Di {f:PE}(i:Nat)(w:W)(E:BS Z.K CQ w.name=true)(C:Ak Z.K CB "check_bit" 138=true)(B:Sp Z n 138 Tc)(h:Pu Z c e f)(z:autoParam (n<=c.n) dc)(A:autoParam (c.vs[i]?=some x) rf)(p:autoParam (iK c) rf)(y:autoParam (iL c x) rf)(d:autoParam (jD x) rf)(H:autoParam (notStar e=true) rf)(a:autoParam ((m.endLine==l.line)=true) rf) :
  Pu Z c (.Call (.Attribute (.Attribute (.Name x v) w.name u) "check_bit" m) [e] [] l) (pBit i w f):=by
 refine(C1 C (BK E<|AQ i A p y d) (AS h Az H) B z a).weaken ?_;rintro N G P ⟨I,t,r,o,e,a⟩;refine bc fun b=>xE2 (KZ e) fun S j=>xA4 fun M L J=>fun s=>?_;revert a;refine rE s fun a=>gH (o.qf M) fun D Q F g=>b<|g.Cz F w<|bc fun b=>?_;obtain⟨R,q,O⟩:=g.w w;exact gG q.id fun k p d=>b<|Aq q.ix d ⟨rfl,I,t,_,o,BA L,_,_,_,_,_,_,g.w w,rfl,J,a⟩
noncomputable def WT (C:Addr) (b:Str) (d:AV->Int->Option MV):Prop:=(∀ a k,a.Gj=true->d a k=none)/\∀{G:St} {f:List Addr} {a:AV} {mv m:MV} {k:Int},Own G f a mv->d a k=some m->
 (0<=k/\k<1000)/\∃ x l e,mv=.ref x/\G l=some (.list e)/\e[k.toNat]?=some m/\G.CA x C fun _ _ g=>g b=some (.ref l)
def Iv:AV->Int->Option MV
 |.qf S,k=>if 0<=k/\k<S.n/\k<1000 then some (.int<|S.rem k.toNat)else none
 |_,_=>none
theorem Iw (h:k<S.n):(Ip S)[k]?=some (.int<|S.rem k):=by
 unfold Ip;refine rE List.getElem?_map<|rE (List.getElem?_range h) ?_;rfl
theorem Cp:WT CQ "_filter" Iv:=by
 refine⟨fun a k h=>(by induction a<;>first|rfl|(exact xft h;done)),?_⟩;intro G f a mv m k j e;induction a with
 |qf S=>
  refine bc fun b=>xP (BL e)<|xA2 fun g=>?_;revert g;refine xA3 fun i p o=>fun d=>?_;revert b;refine rS d fun b=>xE1 j.qfD fun D=>xA2 fun g=>xA2 fun d=>?_;revert b;exact rE d fun b=>fun h=>gG h.id fun q r n=>b ⟨⟨i,o⟩,D.x,D.l,_,rfl,h.il,Iw<|eG i p<|tnk _,Aq h.ix n rfl⟩
 |_=>exact xns e
noncomputable def VX:AV->Int->Option MV
 |.ba n bs,k=>if 0<=k/\k<bs.length/\k<1000 then some (.int (bs.getD k.toNat 0:Nat))else none
 |_,_=>none
theorem NV {i:Nat}(h:i<a.length):(Dq a)[i]?=some (.int ((a.getD i 0:Nat):Int)):=by
 unfold Dq;refine rE List.getElem?_map<|rE (cB h) ?_;simp[List.getD,cB h]
theorem Fq:WT CB "_bitarray" VX:=by
 refine⟨fun a k h=>(by induction a<;>first|rfl|(exact xft h;done)),?_⟩;intro G f a mv m k o e;induction a with
 |ba n bs=>
  refine bc fun b=>xP (BL e)<|xA2 fun i=>?_;revert i;refine xA3 fun j r q=>fun g=>?_;revert b;refine rS g fun b=>xE3 o.baD fun x d l=>xA2 fun i=>xA2 fun g=>?_;revert b;exact rE g fun b=>fun h=>gG h.id fun s t p=>b ⟨⟨j,q⟩,x,l,_,rfl,h.il,NV<|eG j r<|tnk _,Aq h.ix p rfl⟩
 |_=>exact xns e
def DD (i:Nat) (b:AV->Int->Option MV) (f:PE):PE:=fun d=>match AL d i,mI (f d)with
 |some a,some k=>b a k
 |_,_=>none
theorem mv33 {j:Type}{k:AV->Int->Option j}{r:j}{g:Prop}(e:(match i,h with|some b,some a=>k b a|_,_=>none)=some r) (n:∀ b a,i=some b->h=some a->k b a=some r->g):g:=by
 generalize m:i=f at e;generalize l:h=d at e;revert e m l;exact Option.casesOn f (fun _ _=>xns) fun p=>Option.casesOn d (fun _ _=>xns) fun o=>n _ _
theorem Cj (i:Nat)(E:BS Z.K C b=true)(o:WT C b d)(h:Pu Z c e f)(B:autoParam (c.vs[i]?=some x) rf)(A:autoParam (iK c) rf)(y:autoParam (iL c x) rf)(D:autoParam (jD x) rf)(m:autoParam (Cy e=true) rf) :
  Pu Z c (.Subscript (.Attribute (.Name x v) b u) e t) (DD i d f):=by
 refine(IM (BK E<|AQ i B A y D) h m).weaken ?_;rintro O G P ⟨J,s,r,n,e,z⟩;unfold DD at e;refine mv33 e ?_
 .intro a k M L e;have g:a.Gj=false:=by
   refine bE a.Gj (fun g=>?_) fun g=>?_
   .rfl
   .rw [o.1 a k g]at e;exact xns e
  refine bc fun w=>gG (n.get M g) fun mv j I=>xP (o.2 I e)<|xA2 fun m=>xF3 fun x l N=>xA2 fun q=>?_;revert j;refine rE q fun j=>xA3 fun p H F=>w ?_;unfold QY Cz B3;refine rE j<|FR F fun _ _ Q h=>rE h ⟨(fun i e=>nomatch e),?_⟩;dsimp only;refine rE p ⟨J,s,_,n,BA L,?_⟩;dsimp only;exact rE p ⟨m,rE H z⟩
inductive lPA (f:PL->Option (List MV)) (ls:LS) (G:St) (P:List MV->St->Prop):Prop
 |mk (fs:FS) (pl:PL) (r:List MV) (lo:Loc G fs pl ls) (e:f pl=some r) (hp:P r G)
theorem Ea.weaken (h:Ea Z c d T) (i:∀ a G P,e a G P->T a G P):Ea Z c d e:=⟨fun A b L s m a G P Q E f j F g R t q=>h.1 j F g R (i _ _ _ t) q,h.2⟩
noncomputable def Pa (Z:PX) (c:FC) (a:List Expr) (f:PL->Option (List MV)):Prop:=Ea Z c a<|lPA f
noncomputable def BY:PL->Option (List MV):=fun _=>some []
noncomputable def Ai (f:PE) (g:PL->Option (List MV)):PL->Option (List MV):=fun a=>match f a,g a with
 |some m,some ms=>some<|m::ms
 |_,_=>none
theorem Aa:Pa Z c [] BY:=Az.weaken (by rintro d G P ⟨g,b,r,f,e,a⟩;(revert a;refine soE e ?_;intro a);exact a)
theorem mv4005 {j:Type}{k:MV->List MV->Option j}{r:j}{g:Prop}(e:(match i,h with|some b,some a=>k b a|_,_=>none)=some r) (n:∀ b a,i=some b->h=some a->k b a=some r->g):g:=by
 generalize m:i=f at e;generalize l:h=d at e;revert e m l;exact Option.casesOn f (fun _ _=>xns) fun p=>Option.casesOn d (fun _ _=>xns) fun o=>n _ _
theorem AN (k:Pu Z c e f)(j:Pa Z c i g)(l:autoParam (notStar e=true) rf):Pa Z c (e::i) (Ai f g):=by
 refine(AS k j l).weaken ?_;rintro o G P ⟨h,b,r,d,e,a⟩;unfold Ai at e;refine mv4005 e fun _ _ n m e=>?_;revert a;exact soE e fun a=>⟨h,b,_,d,n,h,b,_,d,m,a⟩
inductive sR (M:QS->List MV->Option MV) (args:List MV) (G:St) (P:MV->St->Prop):Prop
 |mk (D:QD) (S:QS) (as:List MV) (r:MV) (h:Bz G D S) (ha:args=.ref D.x::as) (e:M S as=some r) (hp:P r G)
inductive sQ (M:Nat->QS->List MV->Option (AV×QS)) (args:List MV) (G:St) (P:MV->St->Prop):Prop
 |mk (n:Nat) (D:QD) (S:QS) (as:List MV) (r:AV) (S':QS) (h:Bz G D S) (nd:D.foot.Nodup) (ha:args=.ref D.x::as) (e:M n S as=some (r,S'))
  (hp:∀ D' G' f mv,Bz G' D' S'->D'.x=D.x->(f++D'.foot).Nodup->Own G' f r mv->Fm D.foot G (f++D'.foot) G'->P mv G')
theorem Ay (h:a.flatten.Nodup):∀ i,(B0 a i).Nodup:=by
 induction a with
 |nil=>intro i;exact dC
 |cons f r b=>
  intro i;rw[D4,SF]at h;induction i with
  |zero=>exact h.1
  |succ i=>exact b h.2.1 i
theorem Pl {D:QD}(h:((qfF S D.b1 D.b2 D.b3 D.l).all fun p=>!(p.1==a))=true):look (qfF S D.b1 D.b2 D.b3 D.l) a=none:=by
 refine Dn fun p b e=>?_;have:=List.all_eq_true.mp h p b;simp[e]at this
noncomputable def Iy (a:Str):Bool:=[("_q":Str),"_r","_size","_QuotientFilter__mod_size","_elements_added","_auto_resize","_hash_func","_int_type_code","_bits_per_elm","_is_occupied","_is_continuation","_is_shifted","_filter"].all fun p=>!(p==a)
theorem Bz.free {G D S}(h:Bz G D S){name:Str}(d:Iy name=true){k:Prop}(b:k):G.CA D.x CQ fun _ _ f=>f name=none/\k:=bc fun a=>gG h.id fun g _ e=>a<|Aq h.ix e ⟨Pl d,b⟩
def BZ (i:Nat) (M:QS->List MV->Option MV) (g:PL->Option (List MV)):PE:=fun a=>match AL a i,g a with
 |some (.qf S),some as=>M S as
 |_,_=>none
theorem mv35 {j:Type}{k:QS->(List MV)->Option j}{r:j}{g:Prop}(e:(match i,h with|some (AV.qf b),some a=>k b a|_,_=>none)=some r) (o:∀ b a,i=some (AV.qf b)->h=some a->k b a=some r->g):g:=by
 generalize m:i=f at e;generalize l:h=d at e;revert e m l;exact Option.casesOn f (fun _ _=>xns) fun n=>AV.casesOn n (fun _ _ _=>xns) (fun _ _ _=>xns) (fun _ _ _ _=>xns) (fun _ _ _ _=>xns) (fun _ _ _ _=>xns) (fun q=>Option.casesOn d (fun _ _=>xns) fun p=>o _ _) (fun _ _ _=>xns) (fun _ _ _ _=>xns) fun _ _=>xns
theorem By (i:Nat)(B:Ak Z.K CQ a f=true)(A:Sp Z n f<|sR M)(k:Pa Z c b g)(t:autoParam (n<=c.n) dc)(y:autoParam (Iy a=true) rf)(w:autoParam (c.vs[i]?=some x) rf)(v:autoParam (iK c) rf)(s:autoParam (iL c x) rf)(z:autoParam (jD x) rf)(j:autoParam ((d.endLine==h.line)=true) rf)(u:autoParam (decide (b.length<30)=true) rf) :
  Pu Z c (.Call (.Attribute (.Name x o) a d) b [] h) (BZ i M g):=by
 refine(C1 B (AQ i w v s z) k A t j rfl u).weaken ?_;rintro I G P ⟨C,p,r,l,e,j⟩;unfold BZ at e;refine mv35 e ?_
 .refine fun S H F E e=>bc fun q=>gH (l.qf F) fun D J k m=>q ?_;unfold KH B3;exact rE k<|m.free y ⟨C,p,_,l,E,D,S,H,r,m,rfl,e,j⟩
end
theorem Cq (d:e.flatten.Nodup):∀{i b},b∈(BD e i f').flatten->b∈B0 e i->b∈f':=by
 induction e with
 |nil=>intro i b h a;cases a
 |cons g r f=>
  intro i b h a;rw[D4,SF]at d;induction i with
  |zero=>
   simp only[BD,D4,X1]at h;exact h.elim id fun h=>(d.2.2 b a b h rfl).elim
  |succ i=>
   simp only[BD,D4,X1]at h;exact T1 h (fun h=>(d.2.2 b h b (Ad a) rfl).elim) fun h=>f d.2.1 h a
theorem LN.turn {m p ls}{f f':List Addr}(h:LN G m p ls) (e:AL p i=some a) (w:(ls[i]?).join=some mv) (t:Own o f' a' mv)
  (s:(f++f').Nodup) (F:Fm (B0 m i) G (f++f') o):LN o (BD m i f') (AY p i a') ls/\(f++(BD m i f').flatten).Nodup/\FmN m G (f::BD m i f') o:=by
 have q:=h.lo.dom;have g:=SF.mp s;have l:∀ b∈f',b∈B0 m i\/b∉m.flatten:=fun b d=>(F.sub b<|Bl _ d).imp id fun u v=>q b v u;refine⟨⟨h.lo.turn h.nd e (fun b d k=>F.keep b (q b d) k) w t,Bb h.nd g.2.1 l⟩,?_,⟨⟨fun b j n=>F.keep b j fun r=>n<|Ad r,fun b d=>?_,fun b j n=>F.dom b j fun r=>n<|Ad r⟩⟩⟩
 .rw [SF];refine⟨g.1,Bb h.nd g.2.1 l,fun b d x k e=>?_⟩;subst e;exact T1 (Bs k) (fun j=>g.2.2 b d b j rfl) fun j=>T1 (F.sub b<|Lf _ d) (fun n=>g.2.2 b d b (Cq h.nd k n) rfl) fun n=>q b j n
 .rw [D4]at d;exact T1 (X1.mp d) (fun d=>(F.sub b<|Lf _ d).imp Ad id) fun d=>T1 (Bs d) (fun j=>(F.sub b<|Bl _ j).imp Ad id) fun j=>.inl j
def Ka (M:Nat->QS->List MV->Option (AV×QS)) (n:Nat) (i:Nat) (b:PL) (a:Option<|List MV):Option (AV×PL):=match AL b i,a with
 |some (.qf S),some a=>(match M n S a with|some (r,d)=>some (r,AY b i<|.qf d)|none=>none)
 |_,_=>none
theorem mv4006 {h:Type}{i:AV->QS->Option h}{r:h}{g:Prop}(e:(match f with|some (b,a)=>i b a|none=>none)=some r) (k:∀ b a,f=some (b,a)->i b a=some r->g):g:=by
 generalize j:f=d at e;revert e j;exact Option.casesOn d eS fun p=>Prod.casesOn p fun _ _=>k _ _
theorem NW (h:Ka M n i d f=some (r,b)) :
  ∃ S a e,AL d i=some (.qf S)/\f=some a/\M n S a=some (r,e)/\b=AY d i (.qf e):=by
 unfold Ka at h;exact mv35 h (fun S a=>fun j=>fun z=>rE z fun h=>mv4006 h fun r e g h=>BH h ⟨_,_,_,j,rfl,g,rfl⟩)
inductive lO (M:Nat->PL->Option (AV×PL)) (ls:LS) (G:St) (P:MV->St->Prop):Prop
 |mk (n:Nat) (fs:FS) (pl:PL) (r:AV) (pl':PL) (lo:LN G fs pl ls) (e:M n pl=some (r,pl'))
  (hp:∀ fs' G' f mv,LN G' fs' pl' ls->Own G' f r mv->(f++fs'.flatten).Nodup->FmN fs G (f::fs') G'->P mv G')
noncomputable def Eo (Z:PX) (c:FC) (e:Expr) (M:Nat->PL->Option (AV×PL)):Prop:=Ev Z c e<|lO M
def LG (i:Nat) (M:Nat->QS->List MV->Option (AV×QS)) (g:PL->Option (List MV)):Nat->PL->Option (AV×PL):=fun n a=>Ka M n i a<|g a
theorem Gp (i:Nat)(U:Ak Z.K CQ a f=true)(T:Sp Z n f<|sQ M)(Q:Iy a=true)(O:c.vs[i]?=some x)(N:iK c)(I:iL c x)(R:jD x)(l:Pa Z c b g)(j:(d.endLine==h.line)=true)(L:decide (b.length<30)=true)(J:autoParam (n<=c.n) dc) :
  Eo Z c (.Call (.Attribute (.Name x s) a d) b [] h) (LG i M g):=by
 refine(C1 U (AQ i O N I R) l T J j rfl L).weaken ?_;rintro ls G P ⟨n,V,F,r,E,k,e,j⟩;refine bc fun H=>xE3 (NW e) fun S Y S'=>xA4 fun p X W=>fun q=>?_;revert j;refine rE q fun j=>gH (k.lo.qf p) fun D o l m=>H ?_;unfold KH B3;exact rE l<|m.free Q ⟨V,F,_,k.lo,X,n,D,S,Y,r,S',m,(o▸Ay k.nd i),rfl,W,fun D' G' f mv C B A y w=>xP (k.turn p (l.trans<|cT (fun z=>some<|MV.ref z) B.symm) (.qf C) A<|o▸w)<|xA3 fun v u t=>j _ _ _ _ v y u t⟩
def C6 (i:Nat) (M:Nat->QS->List MV->Option (AV×QS)) (g:PL->Option (List MV)):ME:=fun n b=>match Ka M n i b (g b)with
 |some (.v m,a)=>some (m,a)
 |_=>none
theorem mv37 {h:Type}{i:MV->PL->Option h}{r:h}{g:Prop}(e:(match f with|some (AV.v b,a)=>i b a|_=>none)=some r) (m:∀ b a,f=some (AV.v b,a)->i b a=some r->g):g:=by
 generalize j:f=d at e;revert e j;exact Option.casesOn d (fun _=>xns) fun l=>Prod.casesOn l fun k o=>AV.casesOn k (fun n=>m _ _) (fun _ _=>xns) (fun _ _ _=>xns) (fun _ _ _=>xns) (fun _ _ _=>xns) (fun _ _=>xns) (fun _ _=>xns) (fun _ _ _=>xns) fun _=>xns
theorem BF (i:Nat)(E:Ak Z.K CQ a f=true)(D:Sp Z n f<|sQ M)(F:Pa Z c b g)(w:autoParam (n<=c.n) dc)(B:autoParam (Iy a=true) rf)(A:autoParam (c.vs[i]?=some x) rf)(z:autoParam (iK c) rf)(v:autoParam (iL c x) rf)(C:autoParam (jD x) rf)(j:autoParam ((d.endLine==h.line)=true) rf)(y:autoParam (decide (b.length<30)=true) rf) :
  Ee Z c (.Call (.Attribute (.Name x k) a d) b [] h) (C6 i M g):=by
 refine(Gp i E D B A z v C F j y w).weaken ?_;rintro N G P ⟨n,I,t,r,s,u,e,j⟩;unfold C6 at e;refine mv37 e ?_
 .intro m q J e;revert j;exact BH e fun j=>⟨n,I,t,_,_,u,J,fun H O f mv p o L l=>rE o.val<|j _ _ p<|BE l⟩
def Hr (i:Nat) (M:Nat->PL->Option (AV×PL)):MX:=fun n d=>match M n d with|some (a,b)=>some (.next,AY b i a)|none=>none
theorem LN.Qi {g j ls}(h:LN G g j ls) (i:Nat)(k:Own G f a mv) (l:(f++g.flatten).Nodup):LN G (BD g i f) (AY j i a) (ls.set i<|some mv):=
 have d:=SF.mp l;⟨h.lo.set k,Bb h.nd d.1 fun b m=>.inr fun e=>d.2.2 b m b e rfl⟩
theorem mv38 {h:Type}{i:AV->PL->Option h}{r:h}{g:Prop}(e:(match f with|some (b,a)=>i b a|none=>none)=some r) (l:∀ b a,f=some (b,a)->i b a=some r->g):g:=by
 generalize j:f=d at e;revert e j;exact Option.casesOn d eS fun k=>Prod.casesOn k fun n m=>l _ _
theorem Fs {M:Nat->PL->Option (AV×PL)}(i:Nat)(h:Eo Z c b M)(v:autoParam (c.vs[i+1]?=some x) rf)(u:autoParam (iK c) rf)(g:autoParam (iL c x) rf)(w:autoParam (CO b=true) rf):Sx Z c (.Assign [.Name x d] b j) (Hr (i+1) M):=by
 refine(IP v u g h w).weaken ?_;rintro C G P ⟨n,z,q,r,p,t,e,o⟩;unfold Hr at e;refine mv38 e ?_
 .intro a k A e;revert o;refine BH e fun o=>⟨n,z,q,a,k,t,A,fun y D f mv m s l B=>have:=m.Qi (i+1) s l;o _ _ _ _ _ this .next this.nd' ⟨B.fm.mono fun x g=>?_⟩ DV⟩;rw[D4,c7]at g;exact rE D4<|(Bs g).elim (Lf _)<|Bl _
noncomputable def Qj (M:Nat->PL->Option (AV×PL)):MX:=fun n d=>match M n d with|some (a,b)=>some (.ret a,b)|none=>none
theorem LH {M:Nat->PL->Option (AV×PL)}(h:Eo Z c e M):Sx Z c (.Return (some e) a) (Qj M):=by
 refine(Il h).weaken ?_;rintro u G P ⟨n,q,k,r,j,o,e,g⟩;unfold Qj at e;refine mv38 e ?_
 .intro m i s e;revert g;exact BH e fun g=>⟨n,q,k,m,_,o,s,fun p v f mv d l b t=>g _ _ _ _ _ d (.ret l) b t rfl⟩
theorem QD.ne {D:QD}(b:D.foot.Nodup) (i j:Nat) (hi:i<12) (hj:j<12) (h:i≠j):D.foot[i]'hi≠D.foot[j]'hj:=fun e=>
 h<|(List.getElem_inj (h₀:=hi) (h₁:=hj) b).mp e
noncomputable def W.ix:W->Nat
 |.o=>5
 |.c=>8
 |.s=>11
theorem W.VY (w:W):w.ix<12:=by induction w<;>decide
theorem W.Zh (D:QD) (w:W):D.foot[w.ix]'(w.VY)=w.l D:=by induction w<;>rfl
theorem QD.neL (a:D.foot.Nodup) (w:W) (i:Nat) (hi:i<12) (h:i≠w.ix):D.foot[i]'hi≠w.l D:=rS (w.Zh D)<|D.ne a i _ hi w.VY h
theorem Bz.set {D:QD}{S:QS}(h:Bz G D S) (nd:D.foot.Nodup) (w:W) (k:Nat) (v:Bool) (hb:EZ G' (w.b D) (w.d D) (w.l D) S.n<|Cn (S.bit w) k v)
  (hG:∀ a,a≠w.l D->G' a=G a):Bz G' D (S.AZ w k v):=by
 have ix:=(hG _<|D.neL nd w 0 (by decide)<|by induction w<;>decide).trans h.ix;have id:∃ k,k<=800/\G' D.d=some (.dict k<|look<|qfF S D.b1 D.b2 D.b3 D.l):=by
  exact gG h.id fun k hk hd=>⟨k,hk,(hG _<|D.neL nd w 1 (by decide)<|by cases w<;>decide).trans hd⟩
 have il:=(hG _<|D.neL nd w 2 (by decide)<|by induction w<;>decide).trans h.il;have other:∀ i,(hi:i+2<12)->i≠w.ix->i+1≠w.ix->i+2≠w.ix->∀ a∈[D.foot[i]'(cq<|cq hi),D.foot[i+1]'(cq hi),D.foot[i+2]'hi],G' a=G a:=by
  intro i hi h0 h1 h2 a ha;simp only[bM,List.not_mem_nil,or_false]at ha;rcases ha with rfl|rfl|rfl
  .exact hG _<|D.neL nd w _ _ h0
  .exact hG _<|D.neL nd w _ _ h1
  .exact hG _<|D.neL nd w _ _ h2
 cases w with
 |o=>exact⟨ix,id,il,hb,h.c.mono<|other 6 (by decide) (by decide) (by decide)<|by decide,h.s.mono<|other 9 (by decide) (by decide) (by decide)<|by decide⟩
 |c=>exact⟨ix,id,il,h.o.mono<|other 3 (by decide) (by decide) (by decide)<|by decide,hb,h.s.mono<|other 9 (by decide) (by decide) (by decide)<|by decide⟩
 |s=>exact⟨ix,id,il,h.o.mono<|other 3 (by decide) (by decide) (by decide)<|by decide,h.c.mono<|other 6 (by decide) (by decide) (by decide)<|by decide,hb⟩
inductive Yc (args:List MV) (G:St) (P:MV->St->Prop):Prop
 |mk (b d l:Addr) (n:Nat) (bits:Nat->Bool) (k v:Int) (h:EZ G b d l n bits) (hn:b≠l/\d≠l) (ha:args=[.ref b,.int k,.int v]) (h0:0<=k/\k<n) (hv:v=0\/v=1)
  (hp:∀ G',EZ G' b d l n (Cn bits k.toNat<|v==1)->(∀ a,a≠l->G' a=G a)->P .none G')
theorem LN.Oe {b g ls}(h:LN G b g ls) (e:AL g i=some (.qf S)) (k:B0 b i=D.foot) (s:(ls[i]?).join=some (.ref D.x)) (r:Bz d D m)
  (q:l∈D.foot) (j:∀ a,a≠l->d a=G a) (p:d l≠none):LN d (BD b i D.foot) (AY g i<|.qf m) ls/\FmN b G ([]::BD b i D.foot) d:=by
 have F:Fm (B0 b i) G ([]++D.foot) d:=by
  refine rE k ⟨fun a _ f=>j a fun e=>f<|e▸q,fun a f=>.inl f,fun a f _=>?_⟩;by_cases e:a=l
  .exact rE e p
  .exact rE (j a e) f
 exact xP (h.turn e s (.qf r) (k▸Ay h.nd i) F)<|xA3 fun o _ n=>⟨o,n⟩
def NX (S:QS) (w:W) (k v:Option Int):Option QS:=match k,v with
 |some k,some v=>if(0<=k/\k<S.n)/\(v=0\/v=1)then some (S.AZ w k.toNat<|v==1)else none
 |_,_=>none
theorem Kb {k v:Option Int}(h:NX S w k v=some a):∃ i j,k=some i/\v=some j/\(0<=i/\i<S.n)/\(j=0\/j=1)/\a=S.AZ w i.toNat (j==1):=by
 unfold NX at h;refine mv18 h ?_
 .clear h;refine fun _ _=>fun z=>?_;subst z;intro z;subst z;refine fun h=>xP (BL h)<|xA2 fun d=>?_;revert d;exact xA2 fun f e=>fun b=>rS b ⟨_,_,rfl,rfl,f,e,rfl⟩
def onQ (a:PL) (i:Nat) (k:QS->Option QS):Option PL:=match AL a i with
 |some (.qf S)=>(match k S with|some b=>some (AY a i<|.qf b)|none=>none)
 |_=>none
theorem mv39 {f:Type}{h:QS->Option f}{r:f}{g:Prop}(e:(match d with|some (AV.qf a)=>h a|_=>none)=some r) (k:∀ a,d=some (AV.qf a)->h a=some r->g):g:=by
 generalize i:d=b at e;revert e i;exact Option.casesOn b (fun _=>xns) fun j=>AV.casesOn j (fun _ _=>xns) (fun _ _=>xns) (fun _ _ _=>xns) (fun _ _ _=>xns) (fun _ _ _=>xns) (fun l=>k _) (fun _ _=>xns) (fun _ _ _=>xns) fun _=>xns
theorem mv4007 {f:Type}{h:QS->Option f}{r:f}{g:Prop}(e:(match d with|some a=>h a|none=>none)=some r) (j:∀ a,d=some a->h a=some r->g):g:=by
 generalize i:d=b at e;revert e i;exact Option.casesOn b eS fun _=>j _
theorem Gq (h:onQ b i k=some a):∃ S d,AL b i=some (.qf S)/\k S=some d/\a=AY b i (.qf d):=by
 unfold onQ at h;exact mv39 h (fun S f h=>mv4007 h fun d e h=>soE h ⟨_,_,f,e,rfl⟩)
noncomputable def nx (o:Option PL):Option (AF×PL):=match o with|some a=>some (.next,a)|none=>none
theorem mv41 {f:Type}{h:PL->Option f}{r:f}{g:Prop}(e:(match d with|some a=>h a|none=>none)=some r) (j:∀ a,d=some a->h a=some r->g):g:=by
 generalize i:d=b at e;revert e i;exact Option.casesOn b eS fun k=>j _
theorem Ft (h:nx o=some (f,a)):o=some a/\f=.next:=by
 unfold nx at h;exact mv41 h (fun _=>fun z=>rE z fun h=>BH h ⟨rfl,rfl⟩)
def Bh (i:Nat) (w:W) (f g:PE):MX:=fun _ a=>nx<|onQ a i fun S=>NX S w (mI<|f a)<|mI<|g a
theorem W.mem (D:QD) (w:W):w.l D∈D.foot:=by induction w<;>simp[W.l,QD.foot]
theorem EZ.Yd {x d l n bits}(h:EZ G x d l n bits):G l≠none:=by
 refine bc fun a=>?_;obtain⟨b,h,_⟩:=h;exact a<|rE h.il<|L0 _
theorem QD.bl (a:D.foot.Nodup) (w:W):w.b D≠w.l D/\w.d D≠w.l D:=by
 induction w
 .exact ⟨D.ne a 3 5 (by decide) (by decide)<|by decide,D.ne a 4 5 (by decide) (by decide)<|by decide⟩
 .exact ⟨D.ne a 6 8 (by decide) (by decide)<|by decide,D.ne a 7 8 (by decide) (by decide)<|by decide⟩
 .exact ⟨D.ne a 9 11 (by decide) (by decide)<|by decide,D.ne a 10 11 (by decide) (by decide)<|by decide⟩
theorem As (i:Nat)(w:W)(hA:BS Z.K CQ w.name=true)(X:Gi Z.K CB 131=true)(hS:Sp Z n 131 Yc)(h:Pu Z c e f)(N:Pu Z c v g)(Q:autoParam (n<=c.n) dc)(V:autoParam (c.vs[i]?=some x) rf)(T:autoParam (iK c) rf)(M:autoParam (iL c x) rf)(Y:autoParam (jD x) rf)(h0:autoParam (CO v=true) rf) :
  Sx Z c (.Assign [.Subscript (.Attribute (.Name x L) w.name J) e I] v H) (Bh i w f g):=by
 refine(NS X N (BK hA<|AQ i V T M Y) h hS Q h0).weaken ?_;rintro ls G P ⟨n,B,t,r,F,d,e,a⟩;refine bc fun m=>xP (Ft e)<|xA2 fun e'=>fun b=>?_;revert a;refine rE b fun a=>xE2 (Gq e') fun S S'=>xA3 fun C e2=>fun b=>?_;revert a;refine rE b fun a=>xE2 (Kb e2) fun k j=>xA5 fun e3 e4 O U=>fun b=>?_;revert a;refine rE b fun a=>gH (d.lo.qf C) fun D A z l=>m<|have u:D.foot.Nodup:=A▸Ay d.nd i;⟨B,t,_,d.lo,BA e4,l.Cz z w ⟨B,t,_,d.lo,BA e3,bc fun m=>?_⟩⟩;obtain⟨bs,y,h5⟩:=l.w w;exact gG y.id fun kk R o=>m<|Aq y.ix o ⟨_,_,_,_,_,_,_,l.w w,D.bl u w,rfl,O,U,fun G' s q=>xP (d.Oe C A z (l.set u w _ _ s q) (w.mem D) q s.Yd)<|xA2 fun p E=>a _ _ _ _ _ p .next p.nd' E rfl⟩
def Qk (i:Nat) (w:W) (f:PE):MX:=fun _ a=>nx<|onQ a i fun S=>NX S w (mI<|f a)<|some 0
inductive Ye (args:List MV) (G:St) (P:MV->St->Prop):Prop
 |mk (b d l:Addr) (n:Nat) (bits:Nat->Bool) (k:Int) (h:EZ G b d l n bits) (hn:b≠l/\d≠l) (ha:args=[.ref b,.int k]) (h0:0<=k/\k<n)
  (hp:∀ G',EZ G' b d l n (Cn bits k.toNat false)->(∀ a,a≠l->G' a=G a)->P .none G')
theorem NY (i:Nat)(w:W)(V:BS Z.K CQ w.name=true)(U:Ak Z.K CB "clear_bit" 159=true)(T:Sp Z n 159 Ye)(Q:c.vs[i]?=some x)(v:iK c)(L:iL c x)(R:jD x)(h:Pu Z c e f)(X:notStar e=true)(a:(t.endLine==s.line)=true)(N:autoParam (n<=c.n) dc) :
  Sx Z c (.Expr (.Call (.Attribute (.Attribute (.Name x J) w.name I) "clear_bit" t) [e] [] s) H) (Qk i w f):=by
 refine(Io (C1 U (BK V<|AQ i Q v L R) (AS h Az X) T N a) v rfl).weaken ?_;rintro ls G P ⟨n,Y,F,r,E,d,e,a⟩;refine bc fun l=>xP (Ft e)<|xA2 fun e'=>fun b=>?_;revert a;refine rE b fun a=>xE2 (Gq e') fun S S'=>xA3 fun B e2=>fun b=>?_;revert a;refine rE b fun a=>xE2 (Kb e2) fun k j=>xA5 fun e3 e4 M hj=>fun b=>?_;revert a;refine rE b fun a=>gH (d.lo.qf B) fun D A z g=>have u:D.foot.Nodup:=A▸Ay d.nd i;?_;revert a;refine soE e4 fun a=>l ?_;unfold Qa KH;refine g.Cz z w<|bc fun l=>?_;obtain⟨bs,y,h5⟩:=g.w w;exact gG y.id fun kk O m=>l<|Aq y.ix m ⟨rfl,Y,F,_,d.lo,BA e3,_,_,_,_,_,_,g.w w,D.bl u w,rfl,M,fun G' q p=>xP (d.Oe B A z (g.set u w _ _ q p) (w.mem D) p q.Yd)<|xA2 fun o C=>a _ _ _ _ _ o .next o.nd' C rfl⟩
def Iz (S:QS) (k v:Option Int):Option QS:=match k,v with
 |some k,some v=>if 0<=k/\k<S.n/\S.n<=1000/\0<=v then some {S with rem:=FN S.rem k.toNat v.toNat}else none
 |_,_=>none
theorem NZ {k v:Option Int}(h:Iz S k v=some a):∃ i j,k=some i/\v=some j/\(0<=i/\i<S.n/\S.n<=1000/\0<=j)/\a = {S with rem:=FN S.rem i.toNat j.toNat}:=by
 unfold Iz at h;refine mv18 h ?_
 .clear h;refine fun _ _=>fun z=>?_;subst z;intro z;subst z;exact fun h=>xP (BL h)<|xA2 fun d=>fun b=>rS b ⟨_,_,rfl,rfl,d,rfl⟩
theorem FU (S:QS):(Ip S).length=S.n:=by simp[Ip]
theorem Ql (S:QS) (k v:Nat):(Ip S).set k (.int (v:Int))=Ip {S with rem:=FN S.rem k v}:=by
 refine List.ext_getElem? fun j=>T1 (U1 j S.n) (fun h=>?_) fun h=>?_
 .refine rE2 (Iw (S:={S with rem:=FN S.rem k v}) h) List.getElem?_set<|rE (FU ..) ?_;unfold FN;by_cases e:k=j
  .subst e;simp[h]
  .have a:¬ j=k:=fun x=>e x.symm;simp[e,a,Iw h]
 .rw [dG<|by rw[List.length_set,FU];exact h,dG<|by rw[FU];exact h]
theorem Bz.Zi (h:Bz G D S) (m:D.foot.Nodup) (r:Nat->Nat):Bz (G.set D.l<|.list<|Ip {S with rem:=r}) D {S with rem:=r}:=by
 generalize g:MO.list (Ip {S with rem:=r})=xs;have d:∀ i,(hi:i<12)->i≠2->(G.set D.l xs) (D.foot[i]'hi)=G (D.foot[i]'hi):=fun i hi j=>St.AG _ _<|D.ne m i 2 hi (by decide) j;have f:∀ i,(hi:i+2<12)->2<i->∀ a∈[D.foot[i]'(cq<|cq hi),D.foot[i+1]'(cq hi),D.foot[i+2]'hi],(G.set D.l xs) a=G a:=by
  intro i hi e a k;simp only[bM,List.not_mem_nil,or_false]at k;rcases k with rfl|rfl|rfl
  .exact d _ _<|(la1 0x18230200444880261) e
  .exact d _ _<|(la1 0x608c080111222402261) e
  .exact d _ _<|(la1 0x608c080111224402261) e
 obtain⟨s,⟨n,o,e⟩,t,h4,q,p⟩:=h;exact⟨(d 0 (by decide)<|by decide).trans s,⟨n,o,(d 1 (by decide)<|by decide).trans e⟩,(St.AH ..).trans<|cT some g.symm,h4.mono<|f 3 (by decide)<|by decide,q.mono<|f 6 (by decide)<|by decide,
  p.mono<|f 9 (by decide)<|by decide⟩
def B7 (i:Nat) (f g:PE):MX:=fun _ a=>nx<|onQ a i fun S=>Iz S (mI<|f a)<|mI<|g a
theorem B8 {f g:PE}(i:Nat)(U:BS Z.K CQ "_filter" = true)(h:Pu Z c e f)(L:Pu Z c v g)(Q:autoParam (c.vs[i]?=some x) rf)(N:autoParam (iK c) rf)(J:autoParam (iL c x) rf)(R:autoParam (jD x) rf)(V:autoParam (CO v=true) rf) :
  Sx Z c (.Assign [.Subscript (.Attribute (.Name x I) "_filter" H) e F] v E) (B7 i f g):=by
 refine(Em L (BK U<|AQ i Q N J R) h V).weaken ?_;rintro ls G P ⟨n,z,u,r,C,m,e,b⟩;refine bc fun q=>xP (Ft e)<|xA2 fun e'=>fun d=>?_;revert b;refine rE d fun b=>xE2 (Gq e') fun S S'=>xA3 fun A Y=>fun d=>?_;revert b;refine rE d fun b=>xE2 (NZ Y) fun k j=>xA4 fun X W o=>fun d=>?_;revert b;refine rE d fun b=>gH (m.lo.qf A) fun D y w p=>q ⟨z,u,_,m.lo,BA W,bc fun q=>gG p.id fun kk M s=>q ?_⟩;unfold QF.Cz B3;refine rE w<|Aq p.ix s ⟨(fun i e=>nomatch e),⟨z,u,_,m.lo,BA X,?_⟩⟩;dsimp only;exact rE p.il ⟨⟨o.1,rE (FU ..) o.2.1,rE (FU ..) o.2.2.1⟩,have O:MV.int j=MV.int ((j.toNat:Nat):Int):=rE (Int.toNat_of_nonneg o.2.2.2) rfl;rE O<|rE (Ql ..)<|xP (m.Oe A y w (p.Zi (y▸Ay m.nd i)<|FN S.rem k.toNat j.toNat) (l:=D.l) (by simp[QD.foot]) (fun a T=>St.AG _ _ T)<|rE (St.AH ..)<|L0 _)<|xA2 fun t B=>b _ _ _ _ _ t .next t.nd' B rfl⟩
def Ma (f g:PE):PE:=fun b=>match f b with
 |some a=>(match mT a with|some true=>g b|some false=>some a|none=>none)
 |none=>none
theorem Gs (h:Pu Z c e f):Pu Z c (.BoolOp b [e] a) f:=QW h
theorem LJ (p:Pu Z c h f) (o:Pu Z c (.BoolOp .And (d::b) i) g):Pu Z c (.BoolOp .And (h::d::b) i) (Ma f g):=by
 refine(WE p o).weaken ?_;rintro s G P ⟨n,l,r,m,e,j⟩;unfold Ma at e;refine mv23 e fun a q e=>⟨n,l,_,m,q,mv4001 e (fun k e=>KP k ⟨n,l,_,m,e,j⟩) fun k e=>?_⟩
 .revert j;exact soE e fun j=>KP k j
def WU (f g:PE):PE:=fun b=>match f b with
 |some a=>(match mT a with|some true=>some a|some false=>g b|none=>none)
 |none=>none
theorem Yf (p:Pu Z c h f) (o:Pu Z c (.BoolOp .Or (d::b) i) g):Pu Z c (.BoolOp .Or (h::d::b) i) (WU f g):=by
 refine(YT p o).weaken ?_;rintro s G P ⟨n,l,r,m,e,j⟩;unfold WU at e;refine mv23 e ?_
 .refine fun a q e=>⟨n,l,_,m,q,mv4001 e (fun k e=>?_) fun k e=>KP k ⟨n,l,_,m,e,j⟩⟩
  .revert j;exact soE e fun j=>KP k j
noncomputable def mB:Option MV->Option MV
 |some (.bool b)=>some<|.bool b
 |_=>none
def Na (f:PE):PE:=fun a=>mB<|f a
theorem mv4008 {f:Type}{d:Option MV}{h:Bool->Option f}{r:f}{g:Prop}(e:(match d with|some (.bool a)=>h a|_=>none)=some r) (j:∀ a,d=some (.bool a)->h a=some r->g):g:=by
 generalize i:d=b at e;revert e i;exact Option.casesOn b (fun _=>xns) fun m=>MV.casesOn m (fun _=>xns) (fun _=>j _) (fun _ _=>xns) (fun _ _=>xns) (fun _ _=>xns) (fun _ _=>xns) fun _ _=>xns
theorem Qm {f:PE}(k:Ev Z c (.Name "bool" g)<|Br<|.ty "bool") (h:Pu Z c e f) (l:notStar e=true):Pu Z c (.Call (.Name "bool" g) [e] [] a) (Na f):=by
 refine(Gh k (AS h Az l) TP<|cO _).weaken ?_;rintro o G P ⟨m,i,r,j,e,d⟩;unfold Na mB at e;refine mv4008 e fun b n e=>?_;revert d;exact soE e fun d=>⟨m,i,_,j,n,d⟩
noncomputable abbrev PX1:=PL->Option (Option MV)
noncomputable def WV:Option MV->MF
 |none=>.next
 |some m=>.ret m
inductive lPX (M:PX1) (ls:LS) (G:St) (P:MF->LS->St->Prop):Prop
 |mk (fs:FS) (pl:PL) (r:Option MV) (lo:Loc G fs pl ls) (e:M pl=some r) (hp:P (WV r) ls G)
noncomputable def Px (Z:PX) (c:FC) (a:List Stmt) (M:PX1):Prop:=Ex Z c a<|lPX M
noncomputable def Ps (Z:PX) (c:FC) (a:Stmt) (M:PX1):Prop:=Ss Z c a<|lPX M
noncomputable def Jt:PX1:=fun _=>some none
theorem C7:Px Z c [] Jt:=BJ.weaken (by rintro d G P ⟨g,b,r,f,e,a⟩;(revert a;refine soE e ?_;intro a);exact a)
noncomputable def JA (M N:PX1):PX1:=fun a=>match M a with
 |some none=>N a
 |o=>o
theorem mv4009 {r:Option MV}{g:Prop}(e:(match a with|some none=>d|o=>o)=some r) (i:a=some none->d=some r->g) (h:∀ m,r=some m->a=some r->g):g:=by
 generalize f:a=b at e;revert e f;exact Option.casesOn b eS fun p=>Option.casesOn p i fun m z e=>h m (so e).symm<|z.trans e
theorem CP {M:PX1}(j:Ps Z c g M) (i:Px Z c a N):Px Z c (g::a) (JA M N):=by
 refine(Ae j i).weaken ?_;rintro l G P ⟨f,b,r,d,e,h⟩;unfold JA at e;refine mv4009 e (fun k e=>⟨f,b,_,d,k,f,b,_,d,e,h⟩) fun m z e=>?_
 .subst z;exact⟨f,b,_,d,e,h⟩
noncomputable def JB (f:PE):PX1:=fun a=>match f a with|some m=>some (some m)|none=>none
theorem Dr {f:PE}(h:Pu Z c e f):Ps Z c (.Return (some e) a) (JB f):=by
 refine(Il h).weaken ?_;rintro k G P ⟨i,d,r,g,e,b⟩;unfold JB at e;refine mv23 e fun m j e=>?_;revert b;exact soE e fun b=>⟨i,d,_,g,j,b⟩
noncomputable def qIf (t:PB) (M N:PX1):PX1:=fun a=>match t a with|some true=>M a|some false=>N a|none=>none
theorem VZ {M:PX1}(h:PuB Z c b t) (n:Px Z c d M) (m:Px Z c a N):Ps Z c (.If b d a j) (qIf t M N):=by
 refine(EY h n m).weaken ?_;rintro o G P ⟨i,f,r,g,e,l⟩;unfold qIf at e;exact mv4001 e (fun k e=>⟨i,f,_,g,k,i,f,_,g,e,l⟩) fun k e=>⟨i,f,_,g,k,i,f,_,g,e,l⟩
noncomputable def Zj:PX1:=fun _=>none
theorem WW :Ps Z c d Zj:=by
 refine fun A b L s m h G P Q E n F i R a q=>bc fun f=>?_;obtain⟨l,g,r,j,e,k⟩:=a;exact f<|xns e
theorem Au {b:Type} [Decidable p] {o:Option b}{y:b}(h:(if p then o else none)=some y):p/\o=some y:=by
 by_cases a:p
 .rw [cA a]at h;exact⟨a,h⟩
 .rw [b5 a]at h;exact xns h
noncomputable def B1:Nat->PL
 |0=>[]
 |k+1=>none::B1 k
noncomputable def vals:List MV->PL->PL
 | [],r=>r
 |m::ms,r=>some (.v m)::vals ms r
def start (a:AV) (d b:List MV) (k:Nat):PL:=some a::vals d (vals b<|B1 k)
noncomputable def HL (f:List Addr) (n k:Nat):FS:=f::(List.replicate n []++List.replicate k [])
theorem DW (f:List Addr) (n k:Nat):(HL f n k).flatten=f:=by simp[HL]
theorem Loc.start (h:Own G f a mv) (e d:List MV) (k:Nat) :
  Loc G (HL f (e++d).length k) (start a e d k) ((mv::e++d).map some++List.replicate k none):=by
 have o:Loc G (List.replicate k []) (B1 k) (List.replicate k none):=by
  induction k with
  |zero=>exact .nil
  |succ k j=>exact .free none j
 have l:∀(b:List MV) (n:Nat) (g:PL) (i:LS),Loc G (List.replicate n []++List.replicate k []) g i->Loc G (List.replicate (b.length+n) []++List.replicate k []) (vals b g) (b.map some++i):=by
  intro b n g i h;induction b with
  |nil=>simpa [QF.vals]using h
  |cons m b j=>
   have:(m::b).length+n=(b.length+n)+1:=rE cJ<|la2 0x610408488009081201220;exact rE this<|.own (.v m) j
 have:=Loc.own h<|l e d.length _ _<|l d 0 _ _ o;simpa [HL,QF.start]using this
def LK (M:PX1) (d:Nat) (e:List MV) (k:Nat) (a:AV) (b:List MV):Option MV:=if b.length+1=d then(match M (start a b e k)with
 |some (some m)=>some m
 |some none=>some .none
 |none=>none)else none
inductive sP (M:AV->List MV->Option MV) (args:List MV) (G:St) (P:MV->St->Prop):Prop
 |mk (f:List Addr) (a:AV) (mv:MV) (as:List MV) (r:MV) (h:Own G f a mv) (ha:args=mv::as) (e:M a as=some r) (hp:P r G)
theorem DP {dflt:List Value}(h:FnAt Z.K f i g d B)(N:∀(s:Shared) (b:List Value) (F z E:Value) (R:Option Addr) (Q:Value),Z.K.In s.heap->b.length=na->BindsTo s (fnOf i g (EO d) (BO d) (Af d) B F z E R (.ref<|f-1) Q) ⟨b,[]⟩ (names.zip<|b++dflt))(J:VRs dflt dm)(k:Px Z (fc f g d (names++rest) n) (BO d) M)(u:autoParam (na+dflt.length=names.length) rf)(o:autoParam ((names.all fun y=>decide<|(Af d).names.lookup y=some .local)=true) rf)(t:autoParam ((names++rest).Nodup) dc)(I:autoParam ((Af d).kind=.function) rf)(j:autoParam (∀ x∈(Af d).names,x.2≠.cell) dc)(v:autoParam ((Af d).isCoroutine=false) rf)(p:autoParam ((Af d).isGenerator=false) rf)(L:(f-1==503)=false:=by rfl) :
  Sp Z (n+1) f (sP<|LK M na dm rest.length):=by
 refine Sp.weaken (En h N J k u o t I j v p L) ?_;rintro D G P ⟨S,a,mv,C,r,H,q,e,l⟩;refine rE q ?_;obtain⟨O,e⟩:C.length+1=na/\_:=Au e;refine⟨O,?_⟩;have A:=Loc.start H C dm rest.length;split at e
 .rename_i m w;(revert l;refine soE e ?_;intro l);exact⟨_,_,_,A,w,l⟩
 .rename_i w;(revert l;refine soE e ?_;intro l);exact⟨_,_,_,A,w,l⟩
 .exact xns e
def Qn (M:MX) (d:Nat) (e:List MV) (k:Nat) (n:Nat) (a:AV) (b:List MV):Option (AV×AV):=if b.length+1=d then(match M n (start a b e k)with
 |some (.ret r,some a'::_)=>some (r,a')
 |some (.next,some a'::_)=>some (.v .none,a')
 |_=>none)else none
inductive sG (M:Nat->AV->List MV->Option (AV×AV)) (args:List MV) (G:St) (P:MV->St->Prop):Prop
 |mk (n:Nat) (f0:List Addr) (a:AV) (x:MV) (as:List MV) (r a':AV) (h:Own G f0 a x) (nd:f0.Nodup) (ha:args=x::as) (e:M n a as=some (r,a'))
  (hp:∀ f' G' f mv,Own G' f' a' x->(f++f').Nodup->Own G' f r mv->Fm f0 G (f++f') G'->P mv G')
theorem mv44 {h:Type}{f:Option (AF×PL)}{l:AV->AV->(List<|Option AV)->Option h}{k:AV->(List<|Option AV)->Option h}{r:h}{g:Prop}(e:(match f with|some (AF.ret b,some a::d)=>l b a d|some (AF.next,some b::a)=>k b a|_=>none)=some r) (t:∀ b a d,f=some (AF.ret b,some a::d)->l b a d=some r->g) (s:∀ b a,f=some (AF.next,some b::a)->k b a=some r->g):g:=by
 generalize m:f=i at e;revert e m;exact Option.casesOn i (fun _=>xns) fun q=>Prod.casesOn q fun p j=>AF.casesOn p (List.casesOn j (fun _=>xns) fun n v=>Option.casesOn n (fun _=>xns) fun u=>s _ _) (fun _=>xns) (fun _=>xns) fun y=>List.casesOn j (fun _=>xns) fun o x=>Option.casesOn o (fun _=>xns) fun w=>t _ _ _
theorem D6 {dflt:List Value}{dm:List MV}(h:FnAt Z.K f m i g dV)(hb:∀(s:Shared) (d:List Value) (kV T pm:Value) (an:Option Addr) (ct:Value),Z.K.In s.heap->d.length=na->BindsTo s (fnOf m i (EO g) (BO g) (Af g) dV kV T pm an (.ref<|f-1) ct) ⟨d,[]⟩ (names.zip<|d++dflt))(hd:VRs dflt dm)(t:Bx Z (fc f i g (names++rest) n) (BO g) M)(Q:autoParam (na+dflt.length=names.length) rf)(E:autoParam ((names.all fun y=>decide<|(Af g).names.lookup y=some .local)=true) rf)(O:autoParam ((names++rest).Nodup) dc)(hk:autoParam ((Af g).kind=.function) rf)(q:autoParam (∀ x∈(Af g).names,x.2≠.cell) dc)(R:autoParam ((Af g).isCoroutine=false) rf)(F:autoParam ((Af g).isGenerator=false) rf)(hc:(f-1==503)=false:=by rfl) :
  Sp Z (n+1) f (sG<|Qn M na dm rest.length):=by
 refine Sp.weaken (En h hb hd t Q E O hk q R F hc) ?_;rintro aa G P ⟨o,Y,a,x,V,r,a',ho,nd,L,e,J⟩;refine rE L ?_;obtain⟨h1,e⟩:V.length+1=na/\_:=Au e;refine⟨h1,?_⟩;have X:LN G _ _ _:=⟨Loc.start ho V dm rest.length,rE (DW ..) nd⟩;have C:∀{B:PL} {k:St} {b j f},LN k b (some a'::B) j->(f++b.flatten).Nodup->FmN (HL Y (V++dm).length rest.length) G (f::b) k->
   j.head?=some (some x)->∃ f',Own k f' a' x/\(f++f').Nodup/\Fm Y G (f++f') k:=by
  intro B k b j f p u w l;obtain⟨p,_⟩:=p;cases p with
  |B5 _ _=>cases l
  |cel _ _ _=>cases l
  |tab _ _=>cases l
  |own qo ql=>
   cases l;refine⟨_,qo,?_,?_⟩
   .rw [D4,<- c6]at u;exact(SF.mp u).1
   .have W:=w.fm;rw[DW]at W;exact W.mono fun x D=>rE D4<|rE D4<|T1 (X1.mp D) (fun D=>Lf _ D) fun D=>Bl _<|Lf _ D
 refine mv44 e ?_ ?_
 .clear e;refine fun r1 a1 N S e=>xA2 ?_<|so2 e;clear e;intro z;revert J;refine rS z fun J=>fun z=>?_;subst z;refine⟨o,_,_,_,_,X,S,fun b k j f mf p A u w l=>gH (C p u w l) fun f' U I H=>?_⟩;cases A with
  |ret A=>exact J f' k f _ U I A H
 .clear e;refine fun a1 N S e=>xA2 ?_<|so2 e;clear e;intro z;subst z;intro z;subst z;refine⟨o,_,_,_,_,X,S,fun b k j f mf p A u w l=>gH (C p u w l) fun f' U I H=>DI.kne A fun z z'=>?_⟩;revert I H;exact rE z fun I H=>rE z'<|J f' k [] _ U I (.v .none) H
theorem sG.toQ (u:∀ n S b r d,k n S b=some (r,d)->M n (.qf S) b=some (r,.qf d))(h:sQ k a G P):sG M a G P:=by
 obtain⟨n,D,S,b,r,d,h,q,t,e,s⟩:=h;refine⟨n,D.foot,.qf S,.ref D.x,b,r,.qf d,.qf h,q,t,u _ _ _ _ _ e,fun f' v f mv p j o i=>xE1 p.qfD fun w=>xA2 fun l=>?_⟩;revert j i;refine rE l fun j i=>xA2 fun g m=>?_;injection g with g;exact s w v f mv m g.symm j o i
theorem Sp.toQ (h:Sp Z n f<|sG M) (e:∀ n S a r b,d n S a=some (r,b)->M n (.qf S) a=some (r,.qf b)):Sp Z n f (sQ d):=
 h.weaken fun _ _ _=>sG.toQ e
theorem Sp.toR (h:Sp Z n f<|sP M) (j:∀ S a r,d S a=some r->M (.qf S) a=some r):Sp Z n f (sR d):=by
 refine h.weaken ?_;rintro b G P ⟨D,S,a,r,h,i,e,g⟩;exact⟨D.foot,.qf S,.ref D.x,a,r,.qf h,i,j _ _ _ e,g⟩
def JC (j:Nat) (f:PE):ME:=fun _ a=>match AL a j,f a with
 |some (.lst xs),some m=>if xs.length<=1000 then some (.none,AY a j<|.lst<|xs++[m])else none
 |_,_=>none
theorem Loc.lst {a b ls}{xs:List MV}(h:Loc G a b ls) (e:AL b i=some (.lst xs)):∃ l,B0 a i=[l]/\(ls[i]?).join=some (.ref l)/\G l=some (.list xs):=by
 refine bc fun g=>gG (h.get e) fun mv j d=>g ?_;generalize B0 a i=f at d;cases d with
 |lst h=>exact⟨_,rfl,j,h⟩
theorem LN.Va {b f ls}(h:LN G b f ls) (e:AL f i=some (.lst g)) (n:B0 b i=[l]) (m:(ls[i]?).join=some (.ref l)) :
  LN (G.set l<|.list ys) (BD b i [l]) (AY f i<|.lst ys) ls/\FmN b G ([]::BD b i [l]) (G.set l<|.list ys):=by
 have F:Fm (B0 b i) G ([]++[l]) (G.set l<|.list ys):=by
  refine rE n ⟨fun a _ d=>St.AG _ _ fun e=>d<|e▸List.mem_singleton_self _,fun a d=>.inl d,fun a d _=>?_⟩;by_cases e:a=l
  .exact rE e<|rE (St.AH ..)<|L0 _
  .exact rE (St.AG _ _ e) d
 exact xP (h.turn e m (.lst<|St.AH ..) (by simp) F)<|xA3 fun k _ j=>⟨k,j⟩
theorem mv45 {j:Type}{k:(List MV)->MV->Option j}{r:j}{g:Prop}(e:(match i,h with|some (AV.lst b),some a=>k b a|_,_=>none)=some r) (o:∀ b a,i=some (AV.lst b)->h=some a->k b a=some r->g):g:=by
 generalize m:i=f at e;generalize l:h=d at e;revert e m l;exact Option.casesOn f (fun _ _=>xns) fun n=>AV.casesOn n (fun _ _ _=>xns) (fun q=>Option.casesOn d (fun _ _=>xns) fun p=>o _ _) (fun _ _ _ _=>xns) (fun _ _ _ _=>xns) (fun _ _ _ _=>xns) (fun _ _ _=>xns) (fun _ _ _=>xns) (fun _ _ _ _=>xns) fun _ _=>xns
theorem JD (j:Nat)(h:Pu Z c e f)(B:autoParam (c.vs[j]?=some x) rf)(A:autoParam (iK c) rf)(y:autoParam (iL c x) rf)(C:autoParam (jD x) rf)(z:autoParam (notStar e=true) rf)(d:autoParam ((a.endLine==b.line)=true) rf):Ee Z c (.Call (.Attribute (.Name x q) "append" a) [e] [] b) (JC j f):=by
 refine(Im (AQ j B A y C) h rfl z d).weaken ?_;rintro J G P ⟨n,F,v,r,u,g,e,d⟩;unfold JC at e;refine mv45 e ?_
 .refine fun p m o H e=>bc fun w=>xP (Au e)<|xA2 fun E e=>?_;revert d;refine BH e fun d=>gH (g.lo.lst o) fun l D k i=>w ?_;unfold WI B3;refine rE k (rE i ?_:(match G l with|some (.list _)=>_|_=>False));exact⟨F,v,_,g.lo,H,rE i<|xP (g.Va (ys:=p++[m]) o D k)<|xA2 fun t s=>⟨E,d _ _ t<|BE s⟩⟩
def Qo (j:Nat):ME:=fun _ b=>match AL b j with
 |some (.lst<|y::a)=>if a.length<=1000 then some (y,AY b j<|.lst a)else none
 |_=>none
theorem mv46 {h:Type}{i:MV->(List MV)->Option h}{r:h}{g:Prop}(e:(match f with|some (AV.lst<|b::a)=>i b a|_=>none)=some r) (m:∀ b a,f=some (AV.lst<|b::a)->i b a=some r->g):g:=by
 generalize j:f=d at e;revert e j;exact Option.casesOn d (fun _=>xns) fun l=>AV.casesOn l (fun _ _=>xns) (fun k=>List.casesOn k (fun _=>xns) fun o n=>m _ _) (fun _ _ _=>xns) (fun _ _ _=>xns) (fun _ _ _=>xns) (fun _ _=>xns) (fun _ _=>xns) (fun _ _ _=>xns) fun _=>xns
theorem Qp (j:Nat) (v:c.vs[j]?=some x) (u:iK c) (t:iL c x) (w:jD x)
  (f:(a.endLine==d.line)=true):Ee Z c (.Call (.Attribute (.Name x m) "pop" a) [.Constant (.int 0) k C] [] d) (Qo j):=by
 refine(Qc (AQ j v u t w) rfl f).weaken ?_;rintro E G P ⟨n,F,D,r,q,g,e,f⟩;unfold Qo at e;refine mv46 e ?_
 .refine fun y b i e=>bc fun s=>xP (Au e)<|xA2 fun B e=>?_;revert f;refine BH e fun f=>gH (g.lo.lst i) fun l A h z=>s ?_;unfold QX B3;refine rE h (rE z ?_:(match G l with|some (.list<|y::b)=>b.length<=1000/\P y (G.set l<|.list b)|_=>False));exact xP (g.Va (ys:=b) i A h)<|xA2 fun p o=>⟨B,f _ _ p<|BE o⟩
noncomputable def Td (g:PL->Option (List MV)):Nat->PL->Option (AV×PL):=fun _ a=>match g a with
 |some ms=>if ms.length<=1000 then some (.lst ms,a)else none
 |none=>none
theorem LN.new {f i ls}(h:LN G f i ls) (g:G a=none):LN (G.set a o) f i ls/\([a]++f.flatten).Nodup/\FmN f G ([a]::f) (G.set a o):=by
 have j:a∉f.flatten:=fun k=>h.lo.dom a k g;refine⟨⟨h.lo.mono fun b d=>St.AG _ _ fun e=>j<|e▸d,h.nd⟩,bL.mpr ⟨j,h.nd⟩,⟨fun b d _=>St.AG _ _ fun e=>d<|e▸g,fun b d=>?_,fun b d _=>?_⟩⟩
 .rw [D4]at d;exact T1 (X1.mp d) (fun d=>.inr<|bO.mp d▸g) fun d=>.inl d
 .by_cases e:b=a
  .exact rE e<|rE (St.AH ..)<|L0 _
  .exact rE (St.AG _ _ e) d
theorem mv47 {f:Type}{h:(List MV)->Option f}{r:f}{g:Prop}(e:(match d with|some a=>h a|none=>none)=some r) (j:∀ a,d=some a->h a=some r->g):g:=by
 generalize i:d=b at e;revert e i;exact Option.casesOn b eS fun k=>j _
theorem Et (h:Pa Z c i g):Eo Z c (.List i b) (Td g):=by
 refine(K6 h).weaken ?_;rintro w G P ⟨n,u,p,r,m,f,e,d⟩;unfold Td at e;refine mv47 e ?_
 .refine fun q v e=>xP (Au e)<|xA2 fun t e=>?_;revert d;exact BH e fun d=>⟨u,p,_,f.lo,v,t,fun a s=>xP (f.new (o:=.list q) s)<|xA3 fun l k j=>d _ _ [a] _ l (.lst<|St.AH ..) k j⟩
theorem SR.ext (R:SR a L h G) (f:Heap.ExtBut b h e) (g:h.objs.size<=b):SR a L e G:=gG R fun d N r=>⟨d,N.extBut f g,r⟩
noncomputable def Yg (f g:PE):Nat->PL->Option (AV×PL):=fun _ d=>match f d,g d with
 |some a,some b=>some (.tup a b,d)
 |_,_=>none
theorem Qq (U:Pu Z c l f) (T:Pu Z c j g) (y:notStar l=true) (K:notStar j=true):Eo Z c (.Tuple [l,j] k w) (Yg f g):=by
 refine fun A z L s m ls G P Q E V F O R x q=>bc fun N=>?_;obtain⟨n,B,pl,r,M,d,e,i⟩:=x;refine N ?_;unfold Yg at e;refine mv21 e ?_
 .intro a b l j e;revert i;refine BH e fun i=>Tuple_<|(AS U (AS T Az K) y).1 V F O R (P:=fun W Y=>W=[a,b]/\Y=G) ⟨B,_,_,d.lo,l,B,_,_,d.lo,j,rfl,rfl⟩ fun t ms G1 y p u v F1 C=>xP u<|xA2 fun H=>?_;revert p;refine rE H fun p=>fun D=>?_;revert d i;exact rS D fun d i=>wpAny_newObj_type (have S:(MO.tup [a,b]).Is {cls:=.type "tuple",data:=.seq (List.toArray t)}:=⟨t,rfl,p⟩;xP (C.push F1 S)<|xA2 fun F2 X=>xP (d.new (o:=.tup [a,b]) C.fresh)<|xA3 fun u J I=>q _ _ _ _ (.ref _) (i _ _ _ _ u (.tup<|St.AH ..) J I) (v.trans<|Sm.h _ _) F2 X) (by exact(rE b8 (rE p.length<|rE cN<|Sa rfl):(List.toArray t).size<=sizeLine))
def Of (i j:Nat) (M:Nat->PL->Option (AV×PL)):MX:=fun n e=>match M n e with
 |some (.tup a b,d)=>some (.next,AY (AY d i<|.v a) j<|.v b)
 |_=>none
theorem Pm {a:LS}{i j:Nat}{v w:Option MV}:((a.set (i+1) v).set (j+1) w).head?=a.head?:=by induction a<;>rfl
theorem mv48 {i:Type}{j:MV->MV->PL->Option i}{r:i}{g:Prop}(e:(match h with|some (AV.tup d b,a)=>j d b a|_=>none)=some r) (n:∀ d b a,h=some (AV.tup d b,a)->j d b a=some r->g):g:=by
 generalize k:h=f at e;revert e k;exact Option.casesOn f (fun _=>xns) fun m=>Prod.casesOn m fun l q=>AV.casesOn l (fun _ _=>xns) (fun _ _=>xns) (fun p o=>n _ _ _) (fun _ _ _=>xns) (fun _ _ _=>xns) (fun _ _=>xns) (fun _ _=>xns) (fun _ _ _=>xns) fun _=>xns
theorem Og {N K J:Pos}(i j:Nat) (hi:c.vs[i+1]?=some x) (hj:c.vs[j+1]?=some y) (hk:iK c)
  (hx:iL c x) (hy:iL c y) (h:Eo Z c d M)
  (hs:∀ l,swapsWithSole [.Tuple [.Name x N,.Name y K] k J] d Y.line l=pure false) (hw:∀ l,swappedStores [.Tuple [.Name x N,.Name y K] k J] d l=pure none) :
  Sx Z c (.Assign [.Tuple [.Name x N,.Name y K] k J] d Y) (Of (i+1) (j+1) M):=by
 refine fun A aa L s m ls G P Q E cx F lr R V q=>bc fun p=>?_;obtain⟨n,fs,pl,r,ab,lo,e,U⟩:=V;refine p ?_;unfold Of at e;refine mv48 e ?_
 .intro a b I e1 e;revert U;refine BH e fun U=>Assign_Tuple (h cx F lr R (P:=fun v o=>∃ g t,v=.ref t/\o t=some (.tup [a,b])/\LN o g I ls/\FmN fs G ([t]::g) o) ⟨n,fs,pl,_,_,lo,e1,fun g o f mv q1 H q3 q4=>?_⟩ fun v mv o s1 T t1 D F1 R1=>?_) (hs _)<|hw _
  .cases H with
   |tup H=>exact⟨g,_,rfl,H,q1,q4⟩
  .refine bc fun p=>xE2 t1 fun g t=>xA2 fun B=>?_;revert T;refine rE B fun T=>xA3 fun ht u f1=>have z:=VR.irf T;?_;revert p;refine rE z fun p=>xE1 (R1.get ht) fun ob=>xA3 fun X B=>?_;revert B;refine xF1 fun vs=>xA2 fun z1=>?_;subst z1;refine fun w=>fun _=>VRs.kco w fun va _ z ha h=>?_;clear w;subst z;refine VRs.kco h fun vb _ z hb W=>?_;clear h;subst z;have z:=VRs.inl W;revert X;refine rE z fun X=>p<|assign_Tuple_tuple (items:=(List.toArray [va,vb])) cx.hh ⟨_,X,rfl,_,rfl⟩ rfl rfl fun W he=>U2<|cz<|wpAny_assign_Name<|CZ (s:={s1 with heap:=W}) hi hk hx (F1.extBut he<|To _) lr (R1.ext he<|To _) ha fun m' s' sm F' S R'=>U2<|cz<|wpAny_assign_Name<|CZ hj hk hy F' S R' hb fun m2 s2 C F3 O R3=>bZ<|q _ _ _ o m2 s2 .next (U _ o _ [] _ ((u.Gm (i+1) a).Gm (j+1) b) .next ((u.Gm (i+1) a).Gm (j+1) b).nd' (((BE f1).trans<|BE<|FmN.set<|i+1).trans<|FmN.set<|j+1) Pm) (((D.trans<|Sm.h _ _).trans sm).trans C) F3 O R3
noncomputable def Yh (S:QS) (v:Option Int):Option QS:=match v with
 |some v=>if 0<=v then some {S with cnt:=S.cnt+v.toNat}else none
 |none=>none
def Oh (i:Nat) (f:PE):MX:=fun _ a=>nx<|onQ a i fun S=>Yh S<|mI<|f a
noncomputable def Pn:List (Str×MV)->Str->MV->List (Str×MV)
 | [],_,_=>[]
 |p::r,name,v=>match p.1==name with
  |true=>(p.1,v)::r
  |false=>p::Pn r name v
theorem DJ (p:Str×MV) (r:List<|Str×MV) (y:Str):look (p::r) y=if y==p.1 then some p.2 else look r y:=by
 unfold look;refine rE List.lookup_cons ?_;cases y==p.1<;>rfl
theorem Po (a:Str) (v:MV) (y:Str):∀ l:List<|Str×MV,(l.any fun p=>p.1==a)=true->upd (look l) a v y=look (Pn l a v) y:=by
 intro l;induction l with
 |nil=>intro h;exact xft h
 |cons p r f=>
  intro h;show _=look (match p.1==a with|true=>(p.1,v)::r|false=>p::Pn r a v) y;refine bT (p.1==a) (fun d=>?_) fun d=>?_
  .have:=eq_of_beq d;unfold upd;refine rE2 (DJ ..) (DJ ..)<|rS this ?_;by_cases b:y=p.1
   .exact iP b<|rE b<|rE (cI ..)<|iP rfl rfl
   .exact iN b<|rE (b4.mpr b) rfl
  .have e:=f (by rw[cP,d,Bool.false_or]at h;exact h);show _=look (p::Pn r a v) y;unfold upd at e ⊢;refine rE2 (DJ ..) (DJ ..)<|rS e ?_;by_cases b:y=a
   .revert d;exact rS b fun d=>have g:(y==p.1)=false:=rE Bool.beq_comm d;iP rfl<|iP rfl<|rE g<|iN (by decide) rfl
   .exact iN b<|iN b rfl
theorem Mb (l:List<|Str×MV) (a:Str) (v:MV) (h:(l.any fun p=>p.1==a)=true):upd (look l) a v=look (Pn l a v):=funext fun y=>Po a v y l h
theorem Bz.Zk (h:Bz G D S) (q:D.foot.Nodup) (r:k<=800) (p:Nat) (s:m = {S with cnt:=p}):Bz (G.set D.d<|.dict k<|look<|qfF m D.b1 D.b2 D.b3 D.l) D m:=by
 refine rE s ?_;generalize g:MO.dict k (look<|qfF {S with cnt:=p} D.b1 D.b2 D.b3 D.l)=xs;have e:∀ i,(hi:i<12)->i≠1->(G.set D.d xs) (D.foot[i]'hi)=G (D.foot[i]'hi):=fun i hi j=>St.AG _ _<|D.ne q i 1 hi (by decide) j;have f:∀ i,(hi:i+2<12)->2<i->∀ a∈[D.foot[i]'(cq<|cq hi),D.foot[i+1]'(cq hi),D.foot[i+2]'hi],(G.set D.d xs) a=G a:=by
  intro i hi o a n;simp only[bM,List.not_mem_nil,or_false]at n;rcases n with rfl|rfl|rfl
  .exact e _ _<|(la1 0x18230200444480261) o
  .exact e _ _<|(la1 0x608c080111122402261) o
  .exact e _ _<|la1 0x82202124402260
 obtain⟨x,_,w,v,u,t⟩:=h;exact⟨(e 0 (by decide)<|by decide).trans x,⟨k,r,(St.AH ..).trans<|cT some g.symm⟩,(e 2 (by decide)<|by decide).trans w,v.mono<|f 3 (by decide)<|by decide,u.mono<|f 6 (by decide)<|by decide,
  t.mono<|f 9 (by decide)<|by decide⟩
theorem Pp {f:PE}(i:Nat) (T:Cd Z.K CQ "_elements_added" = true) (R:BS Z.K CQ "_elements_added" = true)
  (M:c.vs[i]?=some x) (L:iK c) (H:iL c x) (N:jD x) (I:Pu Z c v f) :
  Sx Z c (.AugAssign (.Attribute (.Name x E) "_elements_added" C) .Add v B) (Oh i f):=by
 refine(NR T R I<|AQ i M L H N).weaken ?_;rintro Y G P ⟨n,V,A,r,z,m,e,b⟩;refine bc fun q=>xP (Ft e)<|xA2 fun X=>fun g=>?_;revert b;refine rE g fun b=>xE2 (Gq X) fun S S'=>xA3 fun w p=>fun g=>?_;revert b;refine rE g fun b=>gH (m.lo.qf w) fun D u t o=>q ?_;unfold Yh at p;refine mv19 p ?_
 .refine fun v W p=>bc fun q=>xP (BL p)<|xA2 fun U=>fun g=>?_;revert b;refine rS g fun b=>gG o.id fun F h j=>q ?_;unfold MY B3;refine rE t<|Aq o.ix j ⟨(fun i e=>nomatch e),⟨V,A,_,m.lo,BA W,Aq o.ix j ⟨dx h,?_⟩⟩⟩;have J:upd (look<|qfF S D.b1 D.b2 D.b3 D.l) "_elements_added" (.int<|(S.cnt:Int)+v)=look (qfF {S with cnt:=S.cnt+v.toNat} D.b1 D.b2 D.b3 D.l):=by
   exact rE (Mb _ _ _ rfl)<|have O:((S.cnt:Int)+v)=((S.cnt+v.toNat:Nat):Int):=(lb21 0x31e282140808820200a381101408106f004083100100200252) U<|tnk _;rE O rfl
  exact rE J<|xP (m.Oe w u t (o.Zk (k:=F) (u▸Ay m.nd i) h (S.cnt+v.toNat) rfl) (l:=D.d) (by simp[QD.foot]) (fun a Q=>St.AG _ _ Q)<|rE (St.AH ..)<|L0 _)<|xA2 fun s y=>b _ _ _ _ _ s .next s.nd' y rfl
theorem Bj {K:Frag}{f e:Str}{g:Stmt}{p c:Value}{b:List Str}(h:∀(s:Shared) (n m:Value) (j d i:Value) (l:Option Addr) (k:Value),BindsTo s (fnOf f e (EO g) (BO g) (Af g) p j d i l c k) ⟨[n,m],[]⟩<|b.zip [n,m]) :
  ∀(s:Shared) (a:List Value) (j d i:Value) (l:Option Addr) (k:Value),K.In s.heap->a.length=2->BindsTo s (fnOf f e (EO g) (BO g) (Af g) p j d i l c k) ⟨a,[]⟩ (b.zip<|a++[]):=by
 refine fun s a j d i l k _ o=>rE (cb ..) ?_;cases a with
 |nil=>cases o
 |cons n a=>
 cases a with
 |nil=>cases o
 |cons m a=>
 cases a with
 |cons _ _=>cases o
 |nil=>
 exact h s n m j d i l k
theorem Eu {K:Frag}{f e:Str}{g:Stmt}{q c:Value}{b:List Str}(h:∀(s:Shared) (p o n:Value) (j d i:Value) (l:Option Addr) (k:Value),BindsTo s (fnOf f e (EO g) (BO g) (Af g) q j d i l c k) ⟨[p,o,n],[]⟩<|b.zip [p,o,n]) :
  ∀(s:Shared) (a:List Value) (j d i:Value) (l:Option Addr) (k:Value),K.In s.heap->a.length=3->BindsTo s (fnOf f e (EO g) (BO g) (Af g) q j d i l c k) ⟨a,[]⟩ (b.zip<|a++[]):=by
 refine fun s a j d i l k _ m=>rE (cb ..) ?_;cases a with
 |nil=>cases m
 |cons p a=>
 cases a with
 |nil=>cases m
 |cons o a=>
 cases a with
 |nil=>cases m
 |cons n a=>
 cases a with
 |cons _ _=>cases m
 |nil=>
 exact h s p o n j d i l k
theorem Qr {K:Frag}{f e:Str}{g:Stmt}{r c:Value}{b:List Str}(h:∀(s:Shared) (q p o n:Value) (j d i:Value) (m:Option Addr) (l:Value),BindsTo s (fnOf f e (EO g) (BO g) (Af g) r j d i m c l) ⟨[q,p,o,n],[]⟩<|b.zip [q,p,o,n]) :
  ∀(s:Shared) (a:List Value) (j d i:Value) (m:Option Addr) (l:Value),K.In s.heap->a.length=4->BindsTo s (fnOf f e (EO g) (BO g) (Af g) r j d i m c l) ⟨a,[]⟩ (b.zip<|a++[]):=by
 refine fun s a j d i m l _ k=>rE (cb ..) ?_;cases a with
 |nil=>cases k
 |cons q a=>
 cases a with
 |nil=>cases k
 |cons p a=>
 cases a with
 |nil=>cases k
 |cons o a=>
 cases a with
 |nil=>cases k
 |cons n a=>
 cases a with
 |cons _ _=>cases k
 |nil=>
 exact h s q p o n j d i m l
theorem WX {K:Frag}{f e:Str}{i:Stmt}{u c:Value}{b:List Str}(h:∀(s:Shared) (t r q p o n:Value) (k d j:Value) (m:Option Addr) (l:Value),BindsTo s (fnOf f e (EO i) (BO i) (Af i) u k d j m c l) ⟨[t,r,q,p,o,n],[]⟩<|b.zip [t,r,q,p,o,n]) :
  ∀(s:Shared) (a:List Value) (k d j:Value) (m:Option Addr) (l:Value),K.In s.heap->a.length=6->BindsTo s (fnOf f e (EO i) (BO i) (Af i) u k d j m c l) ⟨a,[]⟩ (b.zip<|a++[]):=by
 refine fun s a k d j m l _ g=>rE (cb ..) ?_;cases a with
 |nil=>cases g
 |cons t a=>
 cases a with
 |nil=>cases g
 |cons r a=>
 cases a with
 |nil=>cases g
 |cons q a=>
 cases a with
 |nil=>cases g
 |cons p a=>
 cases a with
 |nil=>cases g
 |cons o a=>
 cases a with
 |nil=>cases g
 |cons n a=>
 cases a with
 |cons _ _=>cases g
 |nil=>
 exact h s t r q p o n k d j m l
structure KF (Z:PX):Prop where
 Nb:FnAt Z.K 138 "check_bit" "Bitarray.check_bit" (BP 8 6) .none
 LL:FnAt Z.K 124 "__getitem__" "Bitarray.__getitem__" (BP 8 4) .none
 LM:FnAt Z.K 131 "__setitem__" "Bitarray.__setitem__" (BP 8 5) .none
 Nc:FnAt Z.K 159 "clear_bit" "Bitarray.clear_bit" (BP 8 9) .none
 Ju:FnAt Z.K 216 "__contains__" "QuotientFilter.__contains__" (BP 10 2) .none
 GI:Ak Z.K CQ "__contains__" 216=true
 Zl:FnAt Z.K 288 "add" "QuotientFilter.add" (BP 10 11) .none
 Zm:Ak Z.K CQ "add" 288=true
 JE:FnAt Z.K 295 "add_alt" "QuotientFilter.add_alt" (BP 10 12) .none
 DX:Ak Z.K CQ "add_alt" 295=true
 Te:FnAt Z.K 302 "remove" "QuotientFilter.remove" (BP 10 13) .none
 Tf:Ak Z.K CQ "remove" 302=true
 Mc:FnAt Z.K 309 "remove_alt" "QuotientFilter.remove_alt" (BP 10 14) .none
 Hs:Ak Z.K CQ "remove_alt" 309=true
 WY:FnAt Z.K 316 "check" "QuotientFilter.check" (BP 10 15) .none
 Qs:Ak Z.K CQ "check" 316=true
 Nd:FnAt Z.K 323 "check_alt" "QuotientFilter.check_alt" (BP 10 16) .none
 Ds:Ak Z.K CQ "check_alt" 323=true
 Th:FnAt Z.K 330 "hashes" "QuotientFilter.hashes" (BP 10 17) .none
 Tj:Ak Z.K CQ "hashes" 330=true
 Md:FnAt Z.K 337 "get_hashes" "QuotientFilter.get_hashes" (BP 10 18) .none
 EA:Ak Z.K CQ "get_hashes" 337=true
 Qt:FnAt Z.K 352 "merge" "QuotientFilter.merge" (BP 10 20) .none
 Qu:Ak Z.K CQ "merge" 352=true
 JF:FnAt Z.K 359 "_shift_insert" "QuotientFilter._shift_insert" (BP 10 21) .none
 Dt:Ak Z.K CQ "_shift_insert" 359=true
 Gu:FnAt Z.K 366 "_get_start_index" "QuotientFilter._get_start_index" (BP 10 22) .none
 EB:Ak Z.K CQ "_get_start_index" 366=true
 Vb:FnAt Z.K 373 "_add" "QuotientFilter._add" (BP 10 23) .none
 Qv:Ak Z.K CQ "_add" 373=true
 HM:FnAt Z.K 380 "_remove_element" "QuotientFilter._remove_element" (BP 10 24) .none
 HN:Ak Z.K CQ "_remove_element" 380=true
 ER:FnAt Z.K 387 "_should_remove_orig_idx" "QuotientFilter._should_remove_orig_idx" (BP 10 25) .none
 ES:Ak Z.K CQ "_should_remove_orig_idx" 387=true
 Ed:FnAt Z.K 394 "_remove_and_clear_bits" "QuotientFilter._remove_and_clear_bits" (BP 10 26) .none
 Ef:Ak Z.K CQ "_remove_and_clear_bits" 394=true
 FV:FnAt Z.K 401 "_find_cluster_start" "QuotientFilter._find_cluster_start" (BP 10 27) .none
 FW:Ak Z.K CQ "_find_cluster_start" 401=true
 GA:FnAt Z.K 408 "_handle_first_move" "QuotientFilter._handle_first_move" (BP 10 28) .none
 GB:Ak Z.K CQ "_handle_first_move" 408=true
 HO:FnAt Z.K 415 "_shift_elements" "QuotientFilter._shift_elements" (BP 10 29) .none
 HP:Ak Z.K CQ "_shift_elements" 415=true
 FX:FnAt Z.K 422 "_clear_last_element" "QuotientFilter._clear_last_element" (BP 10 30) .none
 FY:Ak Z.K CQ "_clear_last_element" 422=true
 IB:FnAt Z.K 429 "_fixup_cluster" "QuotientFilter._fixup_cluster" (BP 10 31) .none
 IC:Ak Z.K CQ "_fixup_cluster" 429=true
 GJ:FnAt Z.K 436 "_contained_at_loc" "QuotientFilter._contained_at_loc" (BP 10 32) .none
 Bu:Ak Z.K CQ "_contained_at_loc" 436=true
 GK:FnAt Z.K 443 "_is_cluster_start" "QuotientFilter._is_cluster_start" (BP 10 33) .none
 CJ:Ak Z.K CQ "_is_cluster_start" 443=true
 JG:FnAt Z.K 450 "_is_run_start" "QuotientFilter._is_run_start" (BP 10 34) .none
 Du:Ak Z.K CQ "_is_run_start" 450=true
 D7:FnAt Z.K 457 "_is_run_or_cluster_start" "QuotientFilter._is_run_or_cluster_start" (BP 10 35) .none
 Ce:Ak Z.K CQ "_is_run_or_cluster_start" 457=true
 GL:FnAt Z.K 464 "_is_empty_element" "QuotientFilter._is_empty_element" (BP 10 36) .none
 A7:Ak Z.K CQ "_is_empty_element" 464=true
 LO:BS Z.K CB "_size" = true
 CU:BS Z.K CB "_bitarray" = true
 Bo:Ak Z.K CB "check_bit" 138=true
 FZ:Ak Z.K CB "clear_bit" 159=true
 Bk:MU Z.K CB 124=true
 Bv:Gi Z.K CB 131=true
 a_q:BS Z.K CQ "_q" = true
 a_r:BS Z.K CQ "_r" = true
 DK:BS Z.K CQ "_size" = true
 AU:BS Z.K CQ "_QuotientFilter__mod_size" = true
 BV:BS Z.K CQ "_elements_added" = true
 DQ:BS Z.K CQ "_auto_resize" = true
 Ht:BS Z.K CQ "_hash_func" = true
 Ah:BS Z.K CQ "_is_occupied" = true
 AO:BS Z.K CQ "_is_continuation" = true
 Ap:BS Z.K CQ "_is_shifted" = true
 BQ:BS Z.K CQ "_filter" = true
 Eg:Cd Z.K CQ "_elements_added" = true
 WZ:nsIn Z.K mainGlobals "bool" = some none
 Yi:nsIn Z.K mainGlobals "len" = some none
 Wa:nsIn Z.K mainGlobals "list" = some none
 Tp:nsIn Z.K mainGlobals "range" = some none
theorem Zn:Js CQ "_q" (aQ fun S=>.int S.q):=Ep (fun _ _ _ _ _=>rfl) (by intro S i h;cases h)
theorem JI:Js CQ "_r" (aQ fun S=>.int (32-S.q:Nat)):=Ep (fun _ _ _ _ _=>rfl) (by intro S i h;cases h)
theorem EC:Js CQ "_size" (aQ fun S=>.int S.n):=Ep (fun _ _ _ _ _=>rfl) (by intro S i h;cases h)
theorem AR:Js CQ "_QuotientFilter__mod_size" (aQ fun S=>.int (S.n-1:Nat)):=Ep (fun _ _ _ _ _=>rfl) (by intro S i h;cases h)
theorem Ba:Js CQ "_elements_added" (aQ fun S=>.int S.cnt):=Ep (fun _ _ _ _ _=>rfl) (by intro S i h;cases h)
theorem C8:Js CQ "_auto_resize" (aQ fun S=>.bool S.auto):=Ep (fun _ _ _ _ _=>rfl) (by intro S i h;cases h)
theorem Gv:Js CQ "_hash_func" (aQ fun S=>.ref S.hf):=Ep (fun _ _ _ _ _=>rfl) (by intro S i h;cases h)
theorem Tq (k:KF Z)(d:iK c) (b:c.scope.names.lookup (Str.ofString "bool")=some .globalImplicit) (e:(("bool":Str)==("__debug__":Str))=false):Ev Z c (.Name "bool" a) (Br<|.ty "bool"):=
 DN k.WZ PyProof.Rows.boot_bool (.ty _) d b e
theorem Oi (a b:Nat):Builtin.bitAnd (a:Int) (b:Int)=((a&&&b:Nat):Int):=by
 unfold Builtin.bitAnd;have d:decide ((0:Int)<=(a:Int))=true:=Ti<|bX a;rw[d,(Ti<|bX b)];simp
theorem Wb (a b:Nat):Builtin.bitOr (a:Int) (b:Int)=((a |||b:Nat):Int):=by
 unfold Builtin.bitOr Builtin.bitAnd Builtin.bitNot;have d:decide ((0:Int) <= -(a:Int)-1)=false:=bK<|la1 0x82102120008c08360;refine rE d<|rE (bK<|by exact la1 0x82102120008c08360) ?_;have e:(-(-(b:Int)-1)-1).toNat=b:=cT Int.toNat (show -(-(b:Int)-1)-1=b by exact dy);simp only[(cT Int.toNat<|show -(-(a:Int)-1)-1=a by exact dy),e];exact dy
theorem Nf (a b:Nat):Builtin.bitAnd (a:Int) (Builtin.bitNot (b:Int))=(a:Int)-((a&&&b:Nat):Int):=by
 unfold Builtin.bitAnd Builtin.bitNot;refine rE (Ti<|bX a)<|rE (bK<|by exact la1 0x82102120008c08360) ?_;have d:(-(-(b:Int)-1)-1).toNat=b:=cT Int.toNat (show -(-(b:Int)-1)-1=b by exact dy);simp only[d,cL]
theorem Qw:∀ b:Fin 256,∀ k:Fin 8,(b.val&&&2^k.val==0) = !(b.val.testBit k.val):=by decide +kernel
theorem Tu:∀ b:Fin 256,∀ k:Fin 8,(b.val |||2^k.val)<256/\∀ j:Fin 8,(b.val |||2^k.val).testBit j.val=(decide (j=k) ||b.val.testBit j.val):=by decide +kernel
theorem Ng:∀ b:Fin 256,∀ k:Fin 8,(b.val&&&2^k.val)<=b.val/\∀ j:Fin 8,(b.val-(b.val&&&2^k.val)).testBit j.val=(decide (j≠k)&&b.val.testBit j.val):=by decide +kernel
theorem Zo {i:Int}(h:0<=i):i.fdiv 8=((i.toNat/8:Nat):Int):=by
 refine rE (Int.fdiv_eq_ediv_of_nonneg _<|by decide) ?_;obtain⟨n,a⟩:=Int.eq_ofNat_of_zero_le h;refine rE a ?_;rfl
theorem Zp {i:Int}(h:0<=i):i.fmod 8=((i.toNat%8:Nat):Int):=by
 refine rE (Int.fmod_eq_emod_of_nonneg _<|by decide) ?_;obtain⟨n,a⟩:=Int.eq_ofNat_of_zero_le h;refine rE a ?_;rfl
theorem Wd (k:Nat):(1:Int)*2^((k:Int)).toNat=((2^k:Nat):Int):=by
 refine rE (cL ..) ?_;simp
theorem Fu (k:Nat) (h:k<8):DH .LShift 1 (k:Int)=some ((2^k:Nat):Int):=(iP ⟨dJ,(la1 0x60880a080103e8a00031) h,by decide⟩ (rE (Wd ..) rfl):(if 0<=(k:Int)/\(k:Int)<=1000/\(1:Int).natAbs<2^64 then some ((1:Int)*2^(k:Int).toNat)else none)=_)
theorem HQ (h:0<=i):DH .FloorDiv i 8=some ((i.toNat/8:Nat):Int):=(rE (Zo h) rfl:some (i.fdiv 8)=_)
theorem Fv (h:0<=i):DH .Mod i 8=some ((i.toNat%8:Nat):Int):=(rE (Zp h) rfl:some (i.fmod 8)=_)
theorem Bc (i j:Int):DH .BitAnd i j=some (Builtin.bitAnd i j):=rfl
theorem Tv (i j:Int):DH .BitOr i j=some (Builtin.bitOr i j):=rfl
theorem BR (i j:Int):DH .Add i j=some (i+j):=rfl
theorem Gw (i j:Int):DH .Sub i j=some (i-j):=rfl
theorem IT {j:Nat}(h:j<a.length) (b:a.length<=1000):VX (.ba n a) (j:Int)=some (.int (a.getD j 0:Nat)):=by
 show(if _ then _ else _)=_;exact iP ⟨dJ,dP h,(la2 0x38230203e8a200400103e8a00042) h b⟩<|rE (cL ..) rfl
theorem Kc (i j:Int):D5 .Lt (.int i) (.int j)=some (decide<|i<j):=rfl
theorem Kd (i j:Int):D5 .GtE (.int i) (.int j)=some (decide<|j<=i):=rfl
theorem Ke (i j:Int):D5 .Gt (.int i) (.int j)=some (decide<|j<i):=rfl
theorem CD (i j:Int):D5 .Eq (.int i) (.int j)=some (i==j):=rfl
theorem Kf (i j:Int):D5 .NotEq (.int i) (.int j)=some (i != j):=rfl
theorem IU {a:List Nat}(h:∀ b∈a,b<256) (j:Nat):a.getD j 0<256:=by
 unfold List.getD;refine oE (a[j]?) (fun e=>?_) fun b e=>h b<|ck e
 .decide
theorem Tw (b:Bool):(match !b with|true=>(0:Int)|false=>1)=b2i b:=by induction b<;>rfl
theorem Qx (c:K8 n b a){i:Int}(g:0<=i) (f:i<n) :
  (match(Builtin.bitAnd ((b.getD (i.toNat/8) 0:Nat):Int) ((2^(i.toNat%8):Nat):Int))==0 with|true=>(0:Int)|false=>1)=b2i (a i.toNat):=by
 refine xP c<|xA4 fun _ _ e d=>?_;have h:(((b.getD (i.toNat/8) 0&&&2^(i.toNat%8):Nat):Int)==0) = !((b.getD (i.toNat/8) 0).testBit<|i.toNat%8):=by
  refine rS (Qw ⟨b.getD (i.toNat/8) 0,IU e _⟩ ⟨i.toNat%8,bR _<|by decide⟩) ?_;rw[cF];simp
 exact rE (Oi ..)<|rE h<|rE2 (Tw ..) (d _<|by exact eG g f<|tnk _) rfl
theorem Tx (k:KF Z):∃ M,Sp Z 1 138 (sP M)/\∀(n:Nat) a i,0<=i->i<(n:Int)->(i.toNat/8)<a.length->a.length<=1000->M (.ba n a) [.int i]=some (.int<|match(Builtin.bitAnd ((a.getD (i.toNat/8) 0:Nat):Int) ((2^(i.toNat%8):Nat):Int))==0 with|true=>0|false=>1):=by
 refine⟨_,(DP (names:=["self","idx"]) (rest:=[]) (n:=0) (na:=2) (dflt:=[]) (dm:=[]) k.Nb (Bj fun _ _ _ _ _ _ _ _=>.of_eq rfl) .nil<|CP (VZ (CL (AW (AB 1)<|AD AE)<|CL (AW (AB 1)<|An 0 k.LO FT) BU) (CP WW C7) C7)<|CP (Dr<|MZ (AW (AJ (Cj 0 k.CU Fq<|AJ (AB 1)<|AD AE)<|AJ (AD AE)<|AJ (AB 1)<|AD AE)<|AD AE) (AD AE)<|AD AE) C7),fun n a i b e d c=>?_⟩;simp only[LK,start,vals,B1,JA,qIf,pOr,Aw,CF,AM,AL,AP,Kc,Kd,CD,Bq,IS,C3,Jt,JB,pIf,Aj,mI,DD,List.length,if_true,bK<|show¬ i<0 by exact (lb01 0x608808081060401461) b,bK<|show¬ (n:Int)<=i by exact (lb11 0x608808000280400361) e,HQ b,Fv b,IT d c,Fu (i.toNat%8)<|d0<|dmk (i.toNat) 8,Bc];cases(Builtin.bitAnd ((a.getD (i.toNat/8) 0:Nat):Int) ((2^(i.toNat%8):Nat):Int))==0<;>rfl
theorem DR (k:KF Z):Sp Z 1 138 Tc:=by
 refine gG (Tx k) fun M h e=>h.weaken fun o G P c=>bc fun p=>?_;obtain⟨b,d,l,n,m,i,⟨j,r,g⟩,a,⟨h0,f⟩,q⟩:=c;exact p<|rE a<|xP (id g)<|xA4 fun t s _ _=>⟨_,.ba n j,_,[.int i],_,.ba r,rfl,e n j i h0 f (dY h0 f t (dmk (i.toNat) 8)<|tnk _)<|dn s,rE (Qx g h0 f) q⟩
theorem Bm (k:KF Z):Sp Z 2 124 Tc:=by
 refine Sp.weaken (En (names:=["self","key"]) (rest:=[]) (n:=1) (na:=2) (dflt:=[]) (dm:=[]) k.LL (Bj fun _ _ _ _ _ _ _ _=>.of_eq rfl) .nil<|Ae (Il<|C1 k.Bo (AQ 0) (AS (AQ 1) Az) (DR k) (by decide) rfl) BJ) fun h G P g=>bc fun e=>?_;obtain⟨b,d,l,n,a,i,⟨p,f,o⟩,c,h0,j⟩:=g;exact e<|rE c<|bc fun e=>gG f.id fun q r m=>e ⟨rfl,Aq f.ix m ⟨rfl,b,d,l,n,a,i,⟨p,f,o⟩,rfl,h0,j⟩⟩
theorem HR (k:K8 n f a){i:Int}(t:0<=i) (s:i<n) (v:Bool){x:Nat}(o:x<256)
  (p:∀ j:Fin 8,x.testBit j.val=if j.val=i.toNat%8 then v else(f.getD (i.toNat/8) 0).testBit j.val):K8 n (f.set (i.toNat/8) x) (Cn a i.toNat v):=by
 refine xP k<|xA4 fun m r q l=>⟨rE List.length_set m,rE List.length_set r,fun b k=>?_,fun j g=>?_⟩
 .rcases List.mem_or_eq_of_mem_set k with h|rfl
  .exact q b h
  .exact o
 .have c:(f.set (i.toNat/8) x).getD (j/8) 0=if j/8=i.toNat/8 then x else f.getD (j/8) 0:=by
   unfold List.getD;refine rE List.getElem?_set ?_;by_cases e:i.toNat/8=j/8
   .exact iP e<|iP e.symm<|iP (by exact (la6 0x1246281828090830a105a000440c08808640040014) m g e<|dmk (j) 8) rfl
   .exact iN e<|iN (cZ e) rfl
  refine rE c ?_;unfold Cn;by_cases e:j/8=i.toNat/8
  .refine iP e<|rE (p ⟨j%8,bR _<|by decide⟩) ?_;by_cases d:j=i.toNat
   .exact rE d<|iP rfl<|iP rfl rfl
   .exact iN d<|iN (show¬ j%8=i.toNat%8 by exact (la6 0x5dd993938eb01aa804b09508098214083161080010b30408400264) e (dmk _ 8) (dmk _ 8) d)<|rE (l j g)<|rE e rfl
  .rw [b5 e,b5 (fun d=>e<|by rw[d]),l j g]
theorem H0.set (h:H0 G b d l n f) (i x:Nat):H0 (G.set l<|.list<|Dq<|f.set i x) b d l n (f.set i x):=by
 refine bc fun j=>?_;obtain⟨c,⟨k,p,a⟩,g⟩:=h;refine j ?_;have o:b≠l:=fun e=>by replace c:=g▸e▸c;cases c
 have m:d≠l:=fun e=>by replace a:=g▸e▸a;cases a
 refine⟨(St.AG _ _ o).trans c,⟨k,p,(St.AG _ _ m).trans<|rE a ?_⟩,St.AH ..⟩;unfold baF;exact rE List.length_set rfl
theorem Nh {v:Nat}:(Dq a).set i (.int (v:Int))=Dq (a.set i v):=by
 unfold Dq;exact rE List.map_set rfl
theorem Fb (h:H0 G b d l n j)(r:(c[0]?).join=some (.ref b)){m:FS}{a:PL}(o:Loc G m a c){f g:PE}{i x:Nat}(t:f a=some (.int (x:Int))) (s:g a=some (.int (i:Int)))
  (w:i<j.length) (v:j.length<=100) {P:MF->LS->St->Prop} (q:P .next c<|G.set l<|.list<|Dq<|j.set i x):K7 (lP f) (Cz CB "_bitarray"<|B3 0) (lP g) c G P:=by
 refine⟨m,a,_,o,t,bc fun p=>gG h.id fun k y u=>p ?_⟩;unfold Cz B3;refine rE r<|Aq h.ix u ⟨(fun i e=>nomatch e),⟨m,a,_,o,s,?_⟩⟩;dsimp only;exact rE h.il ⟨⟨dJ,by simpa [Dq]using w,by simp[Dq];exact dn v⟩,rE (cL ..)<|rE Nh q⟩
theorem Yj (b k:Nat) (c:b<256) (a:k<8):(b |||2^k)<256/\∀ j:Fin 8,(b |||2^k).testBit j.val=if j.val=k then true else b.testBit j.val:=by
 refine xP (Tu ⟨b,c⟩ ⟨k,a⟩)<|xA2 fun f d=>⟨f,fun j=>(d j).trans ?_⟩;by_cases e:j.val=k
 .exact have:j=⟨k,a⟩:=Fin.ext e;iP e<|rE (Ti this) rfl
 .exact have:¬ j=⟨k,a⟩:=fun h=>e<|cT Fin.val h;iN e<|rE (bK this) rfl
theorem Qy (b k:Nat) (c:b<256) (a:k<8):(b-(b&&&2^k))<256/\∀ j:Fin 8,(b-(b&&&2^k)).testBit j.val=if j.val=k then false else b.testBit j.val:=by
 refine xP (Ng ⟨b,c⟩ ⟨k,a⟩)<|xA2 fun f d=>⟨(la3 0x2ac08a0440400a0100a20404028012) c rfl,fun j=>(d j).trans ?_⟩;by_cases e:j.val=k
 .exact have:j=⟨k,a⟩:=Fin.ext e;iP e<|rE (bK<|not_not_intro this) rfl
 .exact have:j≠⟨k,a⟩:=fun h=>e<|cT Fin.val h;iN e<|rE (Ti this) rfl
theorem JJ (b k:Nat):Builtin.bitAnd (b:Int) (Builtin.bitNot ((2^k:Nat):Int))=((b-(b&&&2^k):Nat):Int):=by
 exact rE (Nf ..)<|have:b&&&2^k<=b:=Nat.and_le_left;(la3 0x628a688502100085001004008000352) this rfl
theorem LQ (k:KF Z):Sp Z 1 159 Ye:=by
 refine Sp.weaken (En (names:=["self","idx"]) (rest:=["b"]) (n:=0) (na:=2) (dflt:=[]) (dm:=[]) k.Nc (Bj fun _ _ _ _ _ _ _ _=>.of_eq rfl) .nil<|Ae (EY (CL (AW (AB 1)<|AD AE)<|CL (AW (AB 1)<|An 0 k.LO FT) BU) (Ae Dp BJ) BJ)<|Ae (IP (i:=2) rfl rfl rfl (AJ (AB 1)<|AD AE) rfl)<|Ae (Em (AJ (Cj 0 k.CU Fq<|AB 2)<|GG<|AJ (AD AE)<|AJ (AB 1)<|AD AE) (BK k.CU<|AQ 0) (AB 2) rfl) BJ) fun r G P j=>bc fun s=>?_;obtain⟨b,d,l,n,q,i,⟨e,h,m⟩,A,f,⟨h0,c⟩,t⟩:=j;refine s<|rE f<|xP (id m)<|xA4 fun p o w _=>have g:=Loc.start (.ba h) [.int i] [] 1;⟨rfl,⟨_,_,false,g,?_,?_⟩⟩
 .simp only[start,vals,B1,pOr,Aw,CF,AM,AL,AP,Kc,Kd,Bq,IS,C3,bK<|show¬ i<0 by exact (lb01 0x608808081060401461) h0,bK<|show¬ (n:Int)<=i by exact (lb11 0x608808000280400361) c]
 refine⟨_,_,.int ((i.toNat/8:Nat):Int),g,?_,?_⟩
 .simp only[start,vals,B1,Aj,mI,AM,AL,AP,HQ h0]
 refine Fb (x:=e.getD (i.toNat/8) 0-(e.getD (i.toNat/8) 0&&&2^(i.toNat%8))) (i:=i.toNat/8) h rfl (g.set (i:=2)<|.v<|.int ((i.toNat/8:Nat):Int)) ?_ rfl (dY h0 c p (dmk (i.toNat) 8)<|tnk _) o<|xP (Qy (e.getD (i.toNat/8) 0) (i.toNat%8) (IU w _)<|d0<|dmk (i.toNat) 8)<|xA2 fun z y=>t _ ⟨_,h.set _ _,HR m h0 c false z y⟩ fun a u=>St.AG _ _ u
 .unfold pUn;simp only[start,vals,B1,AY,Aj,mI,DD,AM,AL,AP,IT (show i.toNat/8<e.length by exact dY h0 c p (dmk (i.toNat) 8) (tnk _))<|dn o,Fv h0,Fu (i.toNat%8)<|d0<|dmk (i.toNat) 8,Bc,JJ]
theorem Av (k:KF Z):Sp Z 1 131 Yc:=by
 refine Sp.weaken (En (names:=["self","idx","val"]) (rest:=["b"]) (n:=0) (na:=3) (dflt:=[]) (dm:=[]) k.LM (Eu fun _ _ _ _ _ _ _ _ _=>.of_eq rfl) .nil<|Ae (EY (CL (AW (AB 2)<|AD AE)<|CL (AW (AB 2)<|AD AE) BU) (Ae Dp BJ) BJ)<|Ae (EY (CL (AW (AB 1)<|AD AE)<|CL (AW (AB 1)<|An 0 k.LO FT) BU) (Ae Dp BJ) BJ)<|Ae (IP (i:=3) rfl rfl rfl (AJ (AB 1)<|AD AE) rfl)<|Ae (EY (AW (AB 2)<|AD AE) (Ae (Em (AJ (Cj 0 k.CU Fq<|AB 3)<|AJ (AD AE)<|AJ (AB 1)<|AD AE) (BK k.CU<|AQ 0) (AB 3) rfl) BJ)<|Ae (Em (AJ (Cj 0 k.CU Fq<|AB 3)<|GG<|AJ (AD AE)<|AJ (AB 1)<|AD AE) (BK k.CU<|AQ 0) (AB 3) rfl) BJ) BJ) ?_;rintro A G P ⟨b,d,l,n,z,i,v,⟨f,g,r⟩,B,p,⟨h0,e⟩,q,w⟩;subst p;refine xP (id r)<|xA4 fun o m y _=>have h:=Loc.start (.ba g) [.int i,.int v] [] 1;have c:=h.set (i:=3)<|.v<|.int ((i.toNat/8:Nat):Int);⟨rfl,⟨_,_,false,h,?_,?_⟩⟩
 .simp only[start,vals,B1,pOr,Aw,CF,AM,AL,AP,Kc,Ke,C3,bK<|show¬ v<0 by exact (lb01 0xd821810900540802b00401461) q,bK<|show¬ 1<v by exact (lb01 0xb421810900540802b00448461) q]
 refine⟨_,_,false,h,?_,?_⟩
 .simp only[start,vals,B1,pOr,Aw,CF,AM,AL,AP,Kc,Kd,Bq,IS,C3,bK<|show¬ i<0 by exact (lb01 0x608808081060401461) h0,bK<|show¬ (n:Int)<=i by exact (lb11 0x608808000280400361) e]
 refine⟨_,_,.int ((i.toNat/8:Nat):Int),h,?_,?_⟩
 .simp only[start,vals,B1,Aj,mI,AM,AL,AP,HQ h0]
 refine⟨_,_,v==1,c,rfl,?_⟩;have j:i.toNat%8<8:=d0<|dmk (i.toNat) 8;rcases q with rfl|rfl
 .refine Fb (x:=f.getD (i.toNat/8) 0-(f.getD (i.toNat/8) 0&&&2^(i.toNat%8))) (i:=i.toNat/8) g rfl c ?_ rfl (dY h0 e o (dmk (i.toNat) 8)<|tnk _) m<|xP (Qy (f.getD (i.toNat/8) 0) (i.toNat%8) (IU y _) j)<|xA2 fun u t=>w _ ⟨_,g.set _ _,HR r h0 e false u t⟩ fun a s=>St.AG _ _ s
  .unfold pUn;simp only[start,vals,B1,AY,Aj,mI,DD,AM,AL,AP,IT (show i.toNat/8<f.length by exact dY h0 e o (dmk (i.toNat) 8) (tnk _))<|dn m,Fv h0,Fu (i.toNat%8) j,Bc,JJ]
 .refine Fb (x:=f.getD (i.toNat/8) 0 |||2^(i.toNat%8)) (i:=i.toNat/8) g rfl c ?_ rfl (dY h0 e o (dmk (i.toNat) 8)<|tnk _) m<|xP (Yj (f.getD (i.toNat/8) 0) (i.toNat%8) (IU y _) j)<|xA2 fun u t=>w _ ⟨_,g.set _ _,HR r h0 e true u t⟩ fun a s=>St.AG _ _ s
  .simp only[start,vals,B1,AY,Aj,mI,DD,AM,AL,AP,IT (show i.toNat/8<f.length by exact dY h0 e o (dmk (i.toNat) 8) (tnk _))<|dn m,Fv h0,Fu (i.toNat%8) j,Tv,Wb]
theorem Fw (a:Bool):(b2i a==1)=a:=by induction a<;>rfl
theorem ED (a:Bool):(b2i a==0) = !a:=by induction a<;>rfl
theorem Tz (a:Bool):(b2i a != 1) = !a:=by induction a<;>rfl
theorem Vc (a b c:Bool):(b2i a+b2i b+b2i c==0) = !(a ||b ||c):=by induction a<;>induction b<;>induction c<;>rfl
noncomputable def QS.empty (S:QS) (i:Nat):Bool:=!(S.occ i ||S.cont i ||S.shf i)
noncomputable def QS.cs (S:QS) (i:Nat):Bool:=S.occ i&&(!S.cont i&&!S.shf i)
noncomputable def QS.rs (S:QS) (i:Nat):Bool:=!S.cont i&&(S.occ i ||S.shf i)
def q1 (f:QS->Nat->Bool) (S:QS):List MV->Option MV
 | [.int e]=>if 0<=e/\e<S.n then some (.bool<|f S e.toNat)else none
 |_=>none
def q2 (f:QS->Nat->Nat->Bool) (S:QS):List MV->Option MV
 | [.int d,.int e]=>if(0<=d/\d<S.n)/\(0<=e/\e<S.n)then some (.bool<|f S d.toNat e.toNat)else none
 |_=>none
theorem mv49 {d:Type}{f:Int->Option d}{r:d}{g:Prop}(e:(match c with | [MV.int a]=>f a|_=>none)=some r) (k:∀ a,c=[MV.int a]->f a=some r->g):g:=by
 generalize h:c=b at e;revert e h;exact List.casesOn b (fun _=>xns) fun j i=>MV.casesOn j (fun _=>xns) (fun _ _=>xns) (fun l=>List.casesOn i (k _) fun _ _ _=>xns) (fun _ _=>xns) (fun _ _=>xns) (fun _ _=>xns) fun _ _=>xns
theorem IV (h:q1 f S a=some r):∃ e,a=[.int e]/\(0<=e/\e<S.n)/\r=.bool (f S e.toNat):=by
 unfold q1 at h;exact mv49 h (fun _=>fun z=>rE z fun h=>xP (BL h)<|xA2 fun c=>fun b=>rS b ⟨_,rfl,c,rfl⟩)
theorem mv50 {f:Type}{h:Int->Int->Option f}{r:f}{g:Prop}(e:(match d with | [MV.int b,MV.int a]=>h b a|_=>none)=some r) (n:∀ b a,d=[MV.int b,MV.int a]->h b a=some r->g):g:=by
 generalize i:d=c at e;revert e i;exact List.casesOn c (fun _=>xns) fun m l=>MV.casesOn m (fun _=>xns) (fun _ _=>xns) (fun p=>List.casesOn l (fun _=>xns) fun k j=>MV.casesOn k (fun _=>xns) (fun _ _=>xns) (fun o=>List.casesOn j (n _ _) fun _ _ _=>xns) (fun _ _=>xns) (fun _ _=>xns) (fun _ _=>xns) fun _ _=>xns) (fun _ _=>xns) (fun _ _=>xns) (fun _ _=>xns) fun _ _=>xns
theorem T3 (h:q2 f S b=some r):∃ d e,b=[.int d,.int e]/\(0<=d/\d<S.n)/\(0<=e/\e<S.n)/\r=.bool (f S d.toNat e.toNat):=by
 unfold q2 at h;exact mv50 h (fun _ _=>fun z=>rE z fun h=>xP (BL h)<|xA2 fun a=>fun c=>rS c ⟨_,_,rfl,a.1,a.2,rfl⟩)
theorem LU (h:0<=e/\e<S.n):Qh w (some<|.qf S) (some e)=some (.int<|b2i<|S.bit w e.toNat):=cA h
theorem Yk (h:0<=e/\e<S.n):q1 f S [.int e]=some (.bool<|f S e.toNat):=cA h
theorem A8 (k:KF Z):Sp Z 4 464 (sR<|q1 QS.empty):=by
 refine Sp.toR (DP (names:=["self","elt"]) (rest:=[]) (n:=3) (na:=2) (dflt:=[]) (dm:=[]) k.GL (Bj fun _ _ _ _ _ _ _ _=>.of_eq rfl) .nil<|CP (Dr<|EP (AJ (AJ (Bg 0 .o k.Ah k.Bk (Bm k)<|AB 1)<|Bg 0 .c k.AO k.Bk (Bm k)<|AB 1)<|Bg 0 .s k.Ap k.Bk (Bm k)<|AB 1)<|AD AE) C7) fun S f r h=>xE1 (IV h) fun e=>xA2 fun b=>rE b<|xA2 fun d=>fun a=>rE a ?_;simp only[LK,start,vals,B1,JA,JB,Jt,K9,Aw,CF,Aj,mI,pBit,AM,AP,AL,LU d,BR,CD,Vc,List.length,if_true];rfl
theorem CK (k:KF Z):Sp Z 4 443 (sR<|q1 QS.cs):=by
 refine Sp.toR (DP (names:=["self","elt"]) (rest:=[]) (n:=3) (na:=2) (dflt:=[]) (dm:=[]) k.GK (Bj fun _ _ _ _ _ _ _ _=>.of_eq rfl) .nil<|CP (Dr<|LJ (EP (Bg 0 .o k.Ah k.Bk (Bm k)<|AB 1)<|AD AE)<|LJ (EP (Bg 0 .c k.AO k.Bk (Bm k)<|AB 1)<|AD AE)<|Gs<|EP (Bg 0 .s k.Ap k.Bk (Bm k)<|AB 1)<|AD AE) C7) fun S f r h=>xE1 (IV h) fun e=>xA2 fun b=>rE b<|xA2 fun d=>fun a=>rE a ?_;simp only[LK,start,vals,B1,JA,JB,Jt,Ma,mT,K9,Aw,CF,Aj,mI,pBit,AM,AP,AL,LU d,BR,CD,Fw,ED,QS.bit,List.length,if_true];show _=some (MV.bool<|S.occ e.toNat&&(!S.cont e.toNat&&!S.shf e.toNat));cases S.occ e.toNat<;>cases S.cont e.toNat<;>cases S.shf e.toNat<;>rfl
theorem Dv (k:KF Z):Sp Z 4 450 (sR<|q1 QS.rs):=by
 refine Sp.toR (DP (names:=["self","elt"]) (rest:=[]) (n:=3) (na:=2) (dflt:=[]) (dm:=[]) k.JG (Bj fun _ _ _ _ _ _ _ _=>.of_eq rfl) .nil<|CP (Dr<|LJ (EP (Bg 0 .c k.AO k.Bk (Bm k)<|AB 1)<|AD AE)<|Gs<|Yf (EP (Bg 0 .o k.Ah k.Bk (Bm k)<|AB 1)<|AD AE)<|Gs<|EP (Bg 0 .s k.Ap k.Bk (Bm k)<|AB 1)<|AD AE) C7) fun S f r h=>xE1 (IV h) fun e=>xA2 fun b=>rE b<|xA2 fun d=>fun a=>rE a ?_;simp only[LK,start,vals,B1,JA,JB,Jt,Ma,WU,mT,K9,Aw,CF,Aj,mI,pBit,AM,AP,AL,LU d,BR,CD,Kf,Fw,ED,Tz,QS.bit,List.length,if_true];show _=some (MV.bool<|!S.cont e.toNat&&(S.occ e.toNat ||S.shf e.toNat));cases S.occ e.toNat<;>cases S.cont e.toNat<;>cases S.shf e.toNat<;>rfl
def QS.rcs (S:QS) (i:Nat):Bool:=S.cs i ||S.rs i
theorem Cf (k:KF Z):Sp Z 6 457 (sR<|q1 QS.rcs):=by
 refine Sp.toR (DP (names:=["self","elt"]) (rest:=[]) (n:=5) (na:=2) (dflt:=[]) (dm:=[]) k.D7 (Bj fun _ _ _ _ _ _ _ _=>.of_eq rfl) .nil<|CP (VZ (A3<|By 0 k.CJ (CK k)<|AN (AB 1) Aa) (CP (Dr<|AD Bf) C7) C7)<|CP (Dr<|Qm (Tq k rfl rfl rfl) (By 0 k.Du (Dv k)<|AN (AB 1) Aa) rfl) C7) fun S d r h=>xE1 (IV h) fun e=>xA2 fun b=>rE b<|xA2 fun c=>fun a=>rE a ?_;simp only[LK,start,vals,B1,JA,qIf,pTr,JB,Jt,BZ,Ai,BY,mT,Na,mB,AM,AP,AL,Yk c,List.length,if_true];show _=some (MV.bool<|S.cs e.toNat ||S.rs e.toNat);cases S.cs e.toNat<;>rfl
def QS.sro (S:QS) (i j:Nat):Bool:=S.rcs i&&!S.cont j
theorem ET (k:KF Z):Sp Z 8 387 (sR<|q2 QS.sro):=by
 refine Sp.toR (DP (names:=["self","idx","next_idx"]) (rest:=[]) (n:=7) (na:=3) (dflt:=[]) (dm:=[]) k.ER (Eu fun _ _ _ _ _ _ _ _ _=>.of_eq rfl) .nil<|CP (Dr<|LJ (By 0 k.Ce (Cf k)<|AN (AB 1) Aa)<|Gs<|EP (Bg 0 .c k.AO k.Bk (Bm k)<|AB 2)<|AD AE) C7) fun S i r h=>xE2 (T3 h) fun d e=>xA2 fun b=>rE b<|xA3 fun g f=>fun a=>rE a ?_;simp only[LK,start,vals,B1,JA,JB,Jt,Ma,BZ,Ai,BY,mT,K9,Aw,CF,mI,pBit,AM,AP,AL,Yk g,LU f,CD,ED,QS.bit,List.length,if_true];show _=some (MV.bool<|S.rcs d.toNat&&!S.cont e.toNat);cases S.rcs d.toNat<;>rfl
def QS.nx (S:QS) (j:Nat):Nat:=(j+1)%S.n
def QS.pv (S:QS) (j:Nat):Nat:=(j+(S.n-1))%S.n
theorem QS.CR (S:QS):0<S.n:=Nat.two_pow_pos _
theorem QS.Qz (S:QS) (j:Nat):S.nx j<S.n:=bR _ S.CR
theorem JK (i q:Nat):Builtin.bitAnd (i:Int) ((2^q-1:Nat):Int)=((i%2^q:Nat):Int):=rE (Oi ..)<|rE (Nat.and_two_pow_sub_one_eq_mod ..) rfl
theorem EU (S:QS) (j:Nat):Builtin.bitAnd ((j:Int)+1) ((S.n-1:Nat):Int)=((S.nx j:Nat):Int):=JK (j+1) S.q
theorem Q0 (S:QS) (j:Nat):Builtin.bitAnd ((j:Int)-1) ((S.n-1:Nat):Int)=((S.pv j:Nat):Int):=by
 induction j with
 |zero=>
  have h:=S.CR;have e:Builtin.bitAnd (((0:Nat):Int)-1) ((S.n-1:Nat):Int)=((S.n-1:Nat):Int):=by
   unfold Builtin.bitAnd;have b:decide ((0:Int)<=((0:Nat):Int)-1)=false:=rfl;refine rE b<|rE (Ti<|bX _) ?_;have a:(Builtin.bitNot<|((0:Nat):Int)-1).toNat=0:=rfl;dsimp only;refine rE a ?_;simp
  refine rE e ?_;unfold QS.pv;exact rE (Nat.zero_add ..)<|rE (Nat.mod_eq_of_lt<|by exact (la2 0x28d08a0424400a1004440012) h rfl) rfl
 |succ j=>
  have e:(((j+1:Nat):Int)-1)=(j:Int):=la1 0xc20810002409008350;refine rE e<|rE (JK ..) ?_;unfold QS.pv;exact rE (show j+1+(S.n-1)=j+S.n by exact (la3 0x2986a84281092022880112001081201222) S.CR rfl)<|rE (cV ..) rfl
inductive Lp (α:Type) where
 |go (x:α)
 |out (x:α)
 |ret (a:AV) (x:α)
noncomputable def loop {c:Type}(b:c->Option (Lp c)):Nat->c->Option (AF×c)
 |0,_=>none
 |k+1,x=>match b x with
  |some (.go y)=>loop b k y
  |some (.out y)=>some (.next,y)
  |some (.ret a y)=>some (.ret a,y)
  |none=>none
noncomputable def Yl (T:MB) (X:MX) (n:Nat) (b:PL){d:Type}(c:d->PL):Lp d->Prop
 |.go y=>T n b=some (true,b)/\(X n b=some (.next,c y)\/X n b=some (.cont,c y))
 |.out y=>T n b=some (false,c y)\/(T n b=some (true,b)/\X n b=some (.brk,c y))
 |.ret a y=>T n b=some (true,b)/\X n b=some (.ret a,c y)
theorem Q1 (g:j->PL)(h:∀ x l,b x=some l->Yl T X n (g x) g l):∀ k x f y,loop b k x=some (f,y)->wGo T X n k (g x)=some (f,g y):=by
 intro k;induction k with
 |zero=>intro x f y e;exact xns e
 |succ k m=>
  intro x f y e;conv at e=>lhs;whnf
  conv=>lhs;whnf
  refine oE (b x) (fun i=>?_) fun l i=>?_
  .rw [i]at e;exact xns e
  .rw [i]at e;have:=h x l i;induction l with
   |go z=>
    refine xP this<|xA2 fun d c=>rE d<|T1 c (fun c=>?_) fun c=>?_
    .dsimp only;exact rE c<|m _ _ _ e
    .dsimp only;exact rE c<|m _ _ _ e
   |out z=>
    refine BH e ?_;rcases this with d|⟨d,c⟩
    .exact rE d rfl
    .refine rE d ?_;dsimp only;exact rE c rfl
   |ret a z=>
    refine BH e<|xP this<|xA2 fun d c=>rE d ?_;dsimp only;exact rE c rfl
noncomputable def cin (b:Bool) (c:Int):Int:=match b with|true=>c+1|false=>c
def sg1 (S:QS) (q:Nat):Nat×Int->Option (Lp<|Nat×Int):=fun(j,c)=>match decide (j<S.n)with
 |true=>some<|match S.shf j with
  |true=>.go (S.pv j,cin (j==q ||S.occ j) c)
  |false=>.out (j,cin (j==q ||S.occ j) c)
 |false=>none
def sg2 (S:QS):Nat×Int->Option (Lp<|Nat×Int):=fun(j,c)=>match decide (j<S.n)with
 |true=>some<|match S.cont j with
  |false=>(match c==1 with|true=>.out (j,c)|false=>.go (S.nx j,c-1))
  |true=>.go (S.nx j,c)
 |false=>none
def gsi (S:QS) (n q:Nat):Option Nat:=match S.empty q with
 |true=>some q
 |false=>(match loop (sg1 S q) n (q,0)with
  |some (.next,x)=>(match loop (sg2 S) n x with
   |some (.next,(j,_))=>some j
   |_=>none)
  |_=>none)
noncomputable def toI:Option Nat->Option Int
 |some j=>some (j:Int)
 |none=>none
theorem Q2 (h:toI o=some i):∃ j:Nat,o=some j/\i=(j:Int):=by
 induction o with
 |none=>exact xns h
 |some j=>(refine soE h ?_;clear h);exact⟨j,rfl,rfl⟩
def r1 (f:QS->Nat->Nat->Option Int) (n:Nat) (S:QS):List MV->Option (AV×QS)
 | [.int e]=>if 0<=e/\e<S.n then(match f S n e.toNat with|some r=>some (.v<|.int r,S)|none=>none)else none
 |_=>none
theorem Oj {b:List MV}{r:AV}(h:r1 f n S b=some (r,c)):∃(e:Nat) (i:Int),b=[.int e]/\e<S.n/\f S n e=some i/\r=.v (.int i)/\c=S:=by
 unfold r1 at h;exact mv49 h (fun e=>fun z=>rE z fun h=>xP (Au h)<|xA2 fun a h=>mv19 h (fun r d h=>BH h ⟨e.toNat,r,rE (Int.toNat_of_nonneg a.1) rfl,(lb21 0x16a08c040401010051c0800a04083781000a01020dc40012) a<|tnk _,d,rfl,rfl⟩))
theorem CV {j:Nat}(h:j<S.n):Qh w (some<|.qf S) (some (j:Int))=some (.int<|b2i<|S.bit w j):=cA ⟨bX _,Int.ofNat_lt.mpr h⟩
theorem GD {j:Nat}(h:j<S.n):q1 f S [.int j]=some (.bool<|f S j):=cA ⟨bX _,Int.ofNat_lt.mpr h⟩
theorem Gx (i j:Nat):((i:Int)==(j:Int))=(i==j):=by
 rw[cF,cD,cD];exact Int.ofNat_inj
theorem BN {c:Type} [Decidable b] {o:Option c}{r:c}(h:(match decide b with|true=>o|false=>none)=some r):b/\o=some r:=by
 by_cases a:b
 .rw [Ti a]at h;exact⟨a,h⟩
 .rw [bK a]at h;exact xns h
theorem AK (h:M n a=some (.next,pl1)):Ag M N n a=N n pl1:=by unfold Ag;exact rE h rfl
theorem Ci (h:M n c=some (.ret a,b)):Ag M N n c=some (.ret a,b):=by unfold Ag;exact rE h rfl
theorem Df (h:T n a=some (true,pl1)):mIf T M N n a=M n pl1:=by unfold mIf;exact rE h rfl
theorem CE (h:T n a=some (false,pl1)):mIf T M N n a=N n pl1:=by unfold mIf;exact rE h rfl
theorem CH (c:b->PL)(e:loop a n x=some (f,y)) (h:∀ x l,a x=some l->Yl T X n (c x) c l):NU T X n (c x)=some (f,c y):=
 Q1 c h n x f y e
theorem Co {M:MX}{pl:PL}(e:b.length+1=c) (h:M n (start a b d k)=some (.ret r,some a'::pl)):Qn M c d k n a b=some (r,a'):=by
 unfold Qn;exact iP e<|rE h rfl
theorem CM {M:MX}{pl:PL}(e:b.length+1=c) (h:M n (start a b d k)=some (.next,some a'::pl)):Qn M c d k n a b=some (.v .none,a'):=by
 unfold Qn;exact iP e<|rE h rfl
noncomputable def T4 (S:QS) (q:Nat):Nat×Int->PL:=fun x=>[some<|.qf S,some<|.v<|.int q,some<|.v<|.int (x.1:Nat),some<|.v<|.int x.2]
theorem mv51 {d:Type}{f:(Nat×Int)->Option d}{r:d}{g:Prop}(e:(match c with|some (AF.next,a)=>f a|_=>none)=some r) (k:∀ a,c=some (AF.next,a)->f a=some r->g):g:=by
 generalize h:c=b at e;revert e h;exact Option.casesOn b (fun _=>xns) fun j=>Prod.casesOn j fun i l=>AF.casesOn i (k _) (fun _=>xns) (fun _=>xns) fun _ _=>xns
theorem mv52 {f:Type}{h:Nat->Int->Option f}{r:f}{g:Prop}(e:(match d with|some (AF.next,b,a)=>h b a|_=>none)=some r) (m:∀ b a,d=some (AF.next,b,a)->h b a=some r->g):g:=by
 generalize i:d=c at e;revert e i;exact Option.casesOn c (fun _=>xns) fun l=>Prod.casesOn l fun k j=>AF.casesOn k (Prod.casesOn j fun o n=>m _ _) (fun _=>xns) (fun _=>xns) fun _ _=>xns
theorem EE (k:KF Z):Sp Z 6 366 (sQ<|r1 fun S n q=>toI<|gsi S n q):=by
 refine Sp.toQ (D6 (names:=["self","quotient"]) (rest:=["j","cnts"]) (n:=5) (na:=2) (dflt:=[]) (dm:=[]) k.Gu (Bj fun _ _ _ _ _ _ _ _=>.of_eq rfl) .nil<|AA (Ao (Al<|A3<|By 0 k.A7 (A8 k)<|AN (AB 1) Aa) (AA (CC<|Ac<|AB 1) AI) AI)<|AA (Ab 1<|Ac<|AB 1)<|AA (Ab 2<|Ac<|AD AE)<|AA (C5 (Al<|A3<|AD Bf)<|AA (Ao (Al<|CL (AW (AB 2)<|AB 1)<|CL (AW (Bg 0 .o k.Ah k.Bk (Bm k)<|AB 2)<|AD AE) BU) (AA (Ir 2<|AD AE) AI) AI)<|AA (Ao (Al<|AW (Bg 0 .s k.Ap k.Bk (Bm k)<|AB 2)<|AD AE) (AA (Ab 1<|Ac<|AJ (AJ (AB 2)<|AD AE)<|An 0 k.AU AR) AI)<|AA LF AI) AI)<|AA (C5 (Al<|A3<|AD Bf)<|AA (Ao (Al<|AW (Bg 0 .c k.AO k.Bk (Bm k)<|AB 2)<|AD AE) (AA (Ao (Al<|AW (AB 3)<|AD AE) (AA LF AI) AI)<|AA (Ir 2<|AD AE) AI) AI)<|AA (Ab 1<|Ac<|AJ (AJ (AB 2)<|AD AE)<|An 0 k.AU AR) AI)<|AA (CC<|Ac<|AB 2) AI) fun n S G r a h=>xE2 (Oj h) fun q i=>xA2 fun g=>rE g<|xA4 fun p v B=>?_;subst B;intro A;revert p v;refine rS A fun p v=>xE1 (Q2 v) fun E=>xA2 fun h=>fun g=>rE g ?_;have f:(upB<|pTr<|BZ 0 (q1 QS.empty)<|Ai (AM 1) BY) n (start (.qf a) [.int q] [] 2)=some (a.empty q,start (.qf a) [.int q] [] 2):=by
  simp only[upB,wPl,pTr,BZ,Ai,BY,mT,AM,AL,start,vals,B1,GD p]
 unfold gsi at h;refine bT (a.empty q) (fun u=>?_) fun u=>?_
 .rw [u]at h f;have z:=so h;clear h;subst z;exact Co rfl<|Ci<|(Df f).trans rfl
 .rw [u]at h f;dsimp only at h;refine mv51 h ?_
  .refine fun x D h=>mv52 h ?_
   .refine fun F c C h=>have z:=so h;rS z<|Co rfl<|(AK<|CE f).trans<|(AK rfl).trans<|(AK rfl).trans<|(AK<|CH (T4 a q) (x:=(q,0)) D ?_).trans<|(AK<|CH (T4 a q) C ?_).trans<|Ci rfl
    .rintro ⟨j,c⟩ l e;refine xP (BN e)<|xA2 fun t e=>?_;have z:=so e;clear e;subst z;refine bE (a.shf j) (fun b=>?_) (fun b=>?_)<;>refine bE (a.occ j) (fun w=>?_) (fun w=>?_)<;>refine bE (j==q) (fun d=>?_) (fun d=>?_)<;>(first|refine⟨rfl,.inl ?_⟩|refine .inr ⟨rfl,?_⟩)<;>
      unfold Jr<;>simp only[T4,Ag,Ar,mIf,BX,Gn,up,upB,wPl,pOr,Aw,CF,Aj,mI,pBit,Bq,aQ,AM,AP,C3,AL,AY,CV t,CD,Gx,d,Fw,QS.bit,w,b,Gw,Bc,Q0]<;>rfl
    .rintro ⟨j,c⟩ l e;refine bc fun m=>xP (BN e)<|xA2 fun t e=>have z:=so e;?_;clear e;revert m;refine rS z fun m=>m<|bE (a.cont j) (fun b=>?_) (fun b=>?_)<;>refine bE (c==1) (fun y=>?_) (fun y=>?_)<;>(first|refine⟨rfl,.inl ?_⟩|refine .inr ⟨rfl,?_⟩)<;>
      unfold Jr<;>simp only[T4,Ag,Ar,mIf,BX,Gn,up,upB,wPl,pOr,Aw,CF,Aj,mI,pBit,Bq,aQ,AM,AP,C3,AL,AY,CV t,CD,Gx,y,ED,QS.bit,b,Bool.not_true,Bool.not_false,BR,Gw,Bc,EU]<;>rfl
theorem EF {j:Nat}(h:j<S.n) (a:S.n<=1000):Iv (.qf S) (j:Int)=some (.int (S.rem j:Int)):=cA ⟨dJ,dP h,(la2 0x38230203e8a200400103e8a00042) h a⟩
theorem T6 (i j:Nat):decide ((i:Int)<(j:Int))=decide (i<j):=by
 rw[cF,b0,b0];exact Int.ofNat_lt
theorem Vd (p r:Bool):D5 .Is (.bool p) (.bool r)=some (p==r):=rfl
def r2 (f:QS->Nat->Nat->Nat->Option Int) (n:Nat) (S:QS):List MV->Option (AV×QS)
 | [.int e,.int r]=>if(0<=e/\e<S.n)/\0<=r/\S.n<=1000 then(match f S n e.toNat r.toNat with|some r=>some (.v<|.int r,S)|none=>none)else none
 |_=>none
theorem T7 {b:List MV}{r:AV}(h:r2 f n S b=some (r,c)):∃(e x:Nat) (i:Int),b=[.int e,.int x]/\e<S.n/\S.n<=1000/\f S n e x=some i/\r=.v (.int i)/\c=S:=by
 unfold r2 at h;exact mv50 h (fun e x=>fun z=>rE z fun h=>xP (Au h)<|xA2 fun a h=>mv19 h (fun r d h=>BH h ⟨e.toNat,x.toNat,r,rE2 (Int.toNat_of_nonneg a.1.1) (Int.toNat_of_nonneg a.2.1) rfl,(lb22 0x8d1048020200808028e0400502041bc01f451002408371000a01020ddc40012) a<|tnk _,a.2.2,d,rfl,rfl⟩))
noncomputable def Ew (b:Bool) (t:Int):Int:=match b with|true=>t|false=>t+1
def Me (S:QS) (r:Nat):Nat×Int->Option (Lp<|Nat×Int):=fun(j,t)=>match decide (j<S.n)with
 |true=>some<|match S.empty j with
  |true=>.out (j,t)
  |false=>(match Ew (S.cont j) t==2 ||decide (r<S.rem j)with
   |true=>.out (j,Ew (S.cont j) t)
   |false=>(match S.rem j==r with
    |true=>.ret (.v<|.int j) (j,Ew (S.cont j) t)
    |false=>.go (S.nx j,Ew (S.cont j) t)))
 |false=>none
def cal (S:QS) (n q r:Nat):Option Int:=match S.occ q with
 |false=>some<|-1
 |true=>(match gsi S n q with
  |some s=>(match loop (Me S r) n (s,0)with
   |some (.next,_)=>some<|-1
   |some (.ret<|.v<|.int i,_)=>some i
   |_=>none)
  |none=>none)
theorem BI (e:AL a i=some (.qf S)) (d:g a=some as) (c:M n S as=some (.v m,b)) :
  C6 i M g n a=some (m,AY a i<|.qf b):=by
 unfold C6 Ka;refine rE2 e d ?_;dsimp only;exact rE c rfl
theorem CN (h:M n a=some (m,pl')):BX i M n a=some (.next,AY pl' i<|.v m):=by unfold BX;exact rE h rfl
theorem A6 (h:M n b=some (m,a)):C4 M n b=some (.next,a):=by unfold C4;exact rE h rfl
theorem We {e:Nat}(h:e<S.n) (a:f S n e=some i):r1 f n S [.int e]=some (.v<|.int i,S):=by
 show(if _ then _ else _)=_;exact iP ⟨dJ,dP h⟩<|rE (cL ..)<|rE a rfl
theorem T8 {e x:Nat}(h:e<S.n) (b:S.n<=1000) (a:f S n e x=some i):r2 f n S [.int e,.int x]=some (.v<|.int i,S):=by
 show(if _ then _ else _)=_;exact iP ⟨⟨dJ,dP h⟩,dJ,b⟩<|rE (cL ..)<|rE (cL ..)<|rE a rfl
theorem Ve (h:o=some j):toI o=some (j:Int):=rE h rfl
noncomputable def ID (S:QS) (q r:Nat):Nat×Int->PL:=fun x=>[some<|.qf S,some<|.v<|.int q,some<|.v<|.int r,some<|.v<|.int (x.1:Nat),some<|.v<|.int x.2]
theorem mv53 {d:Type}{f:Nat->Option d}{r:d}{g:Prop}(e:(match c with|some a=>f a|none=>none)=some r) (i:∀ a,c=some a->f a=some r->g):g:=by
 generalize h:c=b at e;revert e h;exact Option.casesOn b eS fun j=>i _
theorem mv54 {d:Type}{i:(Nat×Int)->Option d}{h:Int->(Nat×Int)->Option d}{r:d}{g:Prop}(e:(match c with|some (AF.next,a)=>i a|some (AF.ret<|AV.v<|MV.int a,b)=>h a b|_=>none)=some r) (p:∀ a,c=some (AF.next,a)->i a=some r->g) (o:∀ a b,c=some (AF.ret<|AV.v<|MV.int a,b)->h a b=some r->g):g:=by
 generalize j:c=f at e;revert e j;exact Option.casesOn f (fun _=>xns) fun n=>Prod.casesOn n fun m s=>AF.casesOn m (p _) (fun _=>xns) (fun _=>xns) fun l=>AV.casesOn l (fun k=>MV.casesOn k (fun _=>xns) (fun _ _=>xns) (fun q=>o _ _) (fun _ _=>xns) (fun _ _=>xns) (fun _ _=>xns) fun _ _=>xns) (fun _ _=>xns) (fun _ _ _=>xns) (fun _ _ _=>xns) (fun _ _ _=>xns) (fun _ _=>xns) (fun _ _=>xns) (fun _ _ _=>xns) fun _=>xns
theorem Bw (k:KF Z):Sp Z 8 436 (sQ<|r2 cal):=by
 refine Sp.toQ (D6 (names:=["self","q","r"]) (rest:=["start_idx","starts"]) (n:=7) (na:=3) (dflt:=[]) (dm:=[]) k.GJ (Eu fun _ _ _ _ _ _ _ _ _=>.of_eq rfl) .nil<|AA (Ao (Al<|AW (Bg 0 .o k.Ah k.Bk (Bm k)<|AB 1)<|AD AE) (AA (CC<|Ac<|GG<|AD AE) AI) AI)<|AA (Ab 2<|BF 0 k.EB (EE k)<|AN (AB 1) Aa)<|AA (Ab 3<|Ac<|AD AE)<|AA (C5 (Al<|AW (By 0 k.A7 (A8 k)<|AN (AB 3) Aa)<|AD Bf)<|AA (Ao (Al<|AW (Bg 0 .c k.AO k.Bk (Bm k)<|AB 3)<|AD AE) (AA (Ir 3<|AD AE) AI) AI)<|AA (Ao (Al<|CL (AW (AB 4)<|AD AE)<|CL (AW (Cj 0 k.BQ Cp<|AB 3)<|AB 2) BU) (AA LF AI) AI)<|AA (Ao (Al<|AW (Cj 0 k.BQ Cp<|AB 3)<|AB 2) (AA (CC<|Ac<|AB 3) AI) AI)<|AA (Ab 2<|Ac<|AJ (AJ (AB 3)<|AD AE)<|An 0 k.AU AR) AI)<|AA (CC<|Ac<|GG<|AD AE) AI) fun n S R r a h=>xE3 (T7 h) fun q x i=>xA2 fun N=>rE N<|xA5 fun I C b M=>rE M fun L=>?_;subst L;have m:(upB<|Aw .Eq (pBit 0 .o<|AM 1)<|AP<|.int 0) n (start (.qf a) [.int q,.int x] [] 2)=some (!a.occ q,start (.qf a) [.int q,.int x] [] 2):=by
  simp only[upB,wPl,Aw,CF,pBit,mI,AM,AP,AL,start,vals,B1,CV I,CD,ED,QS.bit]
 unfold cal at b;refine bE (a.occ q) (fun B=>?_) fun B=>?_
 .rw [B]at b m;exact have z:=so b;rS z<|Co rfl<|Ci<|(Df m).trans rfl
 .rw [B]at b m;dsimp only at b;refine mv53 b ?_
  .clear b;intro s P b;have w:∀ f y,loop (Me a x) n (s,0)=some (f,y)->_:=fun f y p=>CH (T:=upB<|Aw .Is (BZ 0 (q1 QS.empty)<|Ai (AM 3) BY)<|AP<|.bool false) (X:=(Ag (mIf (upB<|Aw .Eq (pBit 0 .c<|AM 3)<|AP<|.int 0) (Ag (Jr (3+1) .Add<|AP<|.int 1) Ar) Ar)
     (Ag (mIf (upB<|pOr (Aw .Eq (AM 4)<|AP<|.int 2)<|pOr (Aw .Gt (DD 0 Iv<|AM 3)<|AM 2) C3) (Ag (Gn .brk) Ar) Ar)
      (Ag (mIf (upB<|Aw .Eq (DD 0 Iv<|AM 3)<|AM 2) (Ag (It<|up<|AM 3) Ar) Ar)
       (Ag (BX (2+1)<|up<|Aj .BitAnd (Aj .Add (AM 3)<|AP<|.int 1)<|Bq 0<|aQ fun S=>MV.int ↑(S.n-1)) Ar)))))
     (ID a q x) p (by
    rintro⟨j,t⟩ l e;refine xP (BN e)<|xA2 fun g e=>soE e<|bT (a.empty j) (fun D=>?_) fun D=>?_
    .refine .inl ?_;simp only[ID,upB,wPl,Aw,CF,BZ,Ai,BY,AM,AP,AL,GD g,Vd,D];rfl
    .have G:(upB<|Aw .Is (BZ 0 (q1 QS.empty)<|Ai (AM 3) BY)<|AP<|.bool false) n (ID a q x (j,t))=some (true,ID a q x (j,t)):=by
      simp only[ID,upB,wPl,Aw,CF,BZ,Ai,BY,AM,AP,AL,GD g,Vd,D];rfl
     have A:(mIf (upB<|Aw .Eq (pBit 0 .c<|AM 3)<|AP<|.int 0) (Ag (Jr (3+1) .Add<|AP<|.int 1) Ar) Ar) n (ID a q x (j,t))=some (.next,ID a q x (j,Ew (a.cont j) t)):=by
      refine bE (a.cont j) (fun J=>?_) (fun J=>?_)<;>simp only[ID,mIf,upB,wPl,Aw,CF,pBit,mI,AM,AP,AL,CV g,CD,ED,QS.bit,J,Bool.not_true,Bool.not_false]<;>rfl
     obtain⟨u,O⟩:∃ u,Ew (a.cont j) t=u:=⟨_,rfl⟩;dsimp only;rw[O]at A ⊢;cases E:u==2 ||decide (x<a.rem j)with
     |true=>
      refine .inr ⟨G,(AK A).trans<|bT (u==2) (fun d=>?_) fun d=>?_⟩
      .simp only[ID,Ag,mIf,Gn,upB,wPl,pOr,Aw,CF,AM,AP,AL,CD,d]
      .rw [d,Bool.false_or]at E;simp only[ID,Ag,mIf,Gn,upB,wPl,pOr,Aw,CF,DD,mI,AM,AP,AL,CD,Ke,d,EF g C,T6,E]
     |false=>
      refine xP (cm.mp E)<|xA2 fun d K=>bT (a.rem j==x) (fun F=>?_) fun F=>?_
      .refine ⟨G,(AK A).trans ?_⟩;simp only[ID,Ag,mIf,Ar,It,up,upB,wPl,pOr,Aw,CF,DD,C3,mI,AM,AP,AL,CD,Ke,d,EF g C,T6,K,Gx,F]
      .refine ⟨G,.inl<|(AK A).trans ?_⟩;simp only[ID,Ag,mIf,Ar,BX,up,upB,wPl,pOr,Aw,CF,Aj,Bq,aQ,DD,C3,mI,AM,AP,AL,AY,CD,Ke,d,EF g C,T6,K,Gx,F,BR,Bc,EU])
   have H:BX (2+1) (C6 0 (r1 fun S n q=>toI<|gsi S n q)<|Ai (AM 1) BY) n (start (.qf a) [.int q,.int x] [] 2)=some (.next,[some<|.qf a,some<|.v<|.int q,some<|.v<|.int x,some<|.v<|.int (s:Nat),none]):=
    CN<|BI rfl rfl<|We I<|Ve P
   refine mv54 b ?_ ?_
   .clear b;intro y p b;have z:=so b;clear b;subst z;exact Co rfl<|(AK<|CE m).trans<|(AK H).trans<|(AK rfl).trans<|(AK<|w _ _ p).trans rfl
   .exact fun Q y p b=>have z:=so b;rS z<|Co rfl<|(AK<|CE m).trans<|(AK H).trans<|(AK rfl).trans<|Ci<|w _ _ p
noncomputable def nats:List MV->Option (List Nat)
 | []=>some []
 |.int (.ofNat k)::r=>(match nats r with|some l=>some (k::l)|none=>none)
 |_::_=>none
noncomputable def ofN (l:List Nat):List MV:=l.map fun(k:Nat)=>MV.int (k:Int)
theorem Kg:∀{c:List MV}{l:List Nat},nats c=some l->c=ofN l
 | [],l,h=>by(refine soE h ?_;clear h);rfl
 |a::r,l,h=>by
  cases a with
  |int i=>
   cases i with
   |ofNat k=>
    change (match nats r with|some l=>some (k::l)|none=>none)=_ at h;refine oE (nats r) (fun b=>?_) fun d b=>?_
    .exact have h:=b▸h;xns h
    .replace h:=b▸h;(refine soE h ?_;clear h);exact rE (Kg b) rfl
   |negSucc k=>exact xns h
  |_=>exact xns h
theorem Q3:∀ l:List Nat,nats (ofN l)=some l
 | []=>rfl
 |k::l=>by
  show(match nats (ofN l)with|some l=>some (k::l)|none=>none)=_;exact rE (Q3 l) rfl
def cQ (f:Nat->QS->List Nat->Option (AV×QS)) (n:Nat) (S:QS) (a:List MV):Option (AV×QS):=match nats a with
 |some l=>f n S l
 |none=>none
theorem mv55 {d:Type}{f:(List Nat)->Option d}{r:d}{g:Prop}(e:(match c with|some a=>f a|none=>none)=some r) (i:∀ a,c=some a->f a=some r->g):g:=by
 generalize h:c=b at e;revert e h;exact Option.casesOn b eS fun j=>i _
theorem C9 (h:cQ f n S a=some x):∃ l,a=ofN l/\f n S l=some x:=by
 unfold cQ at h;exact mv55 h (fun _ _ h=>⟨_,Kg ‹_›,h⟩)
theorem IE :cQ f n S (ofN l)=f n S l:=by
 unfold cQ;exact rE (Q3 ..) rfl
noncomputable def Mf (o:Option QS):Option (AV×QS):=match o with|some S=>some (.v .none,S)|none=>none
theorem mv40 {d:Type}{f:QS->Option d}{r:d}{g:Prop}(e:(match c with|some a=>f a|none=>none)=some r) (i:∀ a,c=some a->f a=some r->g):g:=by
 generalize h:c=b at e;revert e h;exact Option.casesOn b eS fun j=>i _
theorem GN (h:Mf o=some (r,S)):o=some S/\r=.v .none:=by
 unfold Mf at h;exact mv40 h (fun _=>fun z=>rE z fun h=>BH h ⟨rfl,rfl⟩)
def QS.A4 (S:QS) (k v:Nat):QS:={S with rem:=FN S.rem k v}
theorem Ey {k:Nat}(h:k<S.n) (b:Bool):NX S w (some (k:Int)) (some<|b2i b)=some (S.AZ w k b):=by
 show(if _ then _ else _)=_;induction b
 .exact iP ⟨⟨dJ,dP h⟩,.inl rfl⟩ rfl
 .exact iP ⟨⟨dJ,dP h⟩,.inr rfl⟩ rfl
theorem JL {k:Nat}(h:k<S.n):NX S w (some (k:Int)) (some 1)=some (S.AZ w k true):=Ey h true
theorem Dw {k:Nat}(h:k<S.n):NX S w (some (k:Int)) (some 0)=some (S.AZ w k false):=Ey h false
theorem Dj {k v:Nat}(h:k<S.n) (a:S.n<=1000):Iz S (some (k:Int)) (some (v:Int))=some (S.A4 k v):=by
 show(if _ then _ else _)=_;exact iP ⟨dJ,dP h,a,dJ⟩ rfl
def QS.put (S:QS) (q r o p:Nat):QS:=(((S.A4 p r).AZ .o q true).AZ .c p<|p != o).AZ .s p<|p != q
def QS.sh1 (S:QS) (p j:Nat):QS:=(((((S.AZ .c j<|S.cont p).AZ .c p<|S.cont j).AZ .s j true).A4 j<|S.rem p).A4 p<|S.rem j)
noncomputable abbrev ShS:=QS×Nat×Option AV×Option AV
def T9 (p N:Nat):ShS->Option (Lp ShS):=fun(S,j,_,_)=>match decide (S.n=N/\j<N/\p<N/\N<=1000)with
 |true=>some<|match S.empty j with
  |true=>.out (S.sh1 p j,j,some<|.v<|.bool true,some<|.v<|.int<|S.rem j)
  |false=>.go (S.sh1 p j,S.nx j,some<|.v<|.bool false,some<|.v<|.int<|S.rem j)
 |false=>none
def QS.shi (S:QS) (n q r o p f:Nat):Option QS:=match S.empty p with
 |true=>some<|S.put q r o p
 |false=>(match loop (T9 p S.n) n (S,S.nx p,none,none)with
  |some (.next,(a,_))=>(match decide (a.n=S.n)with
   |true=>some<|match f==1 with|true=>(a.put q r o p).AZ .c (S.nx p) true|false=>a.put q r o p
   |false=>none)
  |_=>none)
def Wf (n:Nat) (S:QS):List Nat->Option (AV×QS)
 | [q,r,o,p,f]=>(match decide (q<S.n/\p<S.n/\S.n<=1000)with|true=>Mf (S.shi n q r o p f)|false=>none)
 |_=>none
theorem Ym (i j:Nat):((i:Int) != (j:Int))=(i != j):=by
 unfold bne;exact rE (Gx ..) rfl
noncomputable def Ni (q r o p f:Nat):ShS->PL:=fun x=>[some<|.qf x.1,some<|.v<|.int q,some<|.v<|.int r,some<|.v<|.int o,some<|.v<|.int p,some<|.v<|.int f,some<|.v<|.int x.2.1,x.2.2.1,x.2.2.2]
theorem Q4 {q r o p f:Nat}{S:QS}(h:q<S.n) (a:p<S.n) (i:S.n<=1000){b:PL}(e:b=[some<|.qf S,some<|.v<|.int q,some<|.v<|.int r,some<|.v<|.int o,some<|.v<|.int p,some<|.v<|.int f,x,y,z]) :
  Ag (B7 0 (AM 4)<|AM 2) (Ag (Bh 0 .o (AM 1)<|AP<|.int 1)<|Ag (Bh 0 .c (AM 4)<|pIf (Aw .NotEq (AM 4)<|AM 3) (AP<|.int 1)<|AP<|.int 0)
   (Ag (Bh 0 .s (AM 4)<|pIf (Aw .NotEq (AM 4)<|AM 1) (AP<|.int 1)<|AP<|.int 0) R)) n b =
  R n [some<|.qf<|S.put q r o p,some<|.v<|.int q,some<|.v<|.int r,some<|.v<|.int o,some<|.v<|.int p,some<|.v<|.int f,x,y,z]:=by
 refine rE e ?_;have l:q<(S.A4 p r).n:=h;have k:p<((S.A4 p r).AZ .o q true).n:=a;have j:p<(((S.A4 p r).AZ .o q true).AZ .c p<|p != o).n:=a;have g:∀ X,pIf (Aw .NotEq (AM 4)<|AM 3) (AP<|.int 1) (AP<|.int 0) [X,some<|.v<|.int q,some<|.v<|.int r,some<|.v<|.int o,some<|.v<|.int p,some<|.v<|.int f,x,y,z]=some (.int<|b2i<|p != o):=by
  refine fun X=>rS (Ym ..) ?_;show(match some ((p:Int) != (o:Int))with|some true=>some (MV.int 1)|some false=>some (MV.int 0)|none=>none)=_;cases(p:Int) != (o:Int)<;>rfl
 have d:∀ X,pIf (Aw .NotEq (AM 4)<|AM 1) (AP<|.int 1) (AP<|.int 0) [X,some<|.v<|.int q,some<|.v<|.int r,some<|.v<|.int o,some<|.v<|.int p,some<|.v<|.int f,x,y,z]=some (.int<|b2i<|p != q):=by
  refine fun X=>rS (Ym ..) ?_;show(match some ((p:Int) != (q:Int))with|some true=>some (MV.int 1)|some false=>some (MV.int 0)|none=>none)=_;cases(p:Int) != (q:Int)<;>rfl
 simp only[Ag,B7,Bh,onQ,nx,AM,AP,mI,AL,AY,Dj a i,JL l,g,d,Ey k,Ey j];rfl
theorem mv56 {j:Type}{k:Nat->Nat->Nat->Nat->Nat->Option j}{r:j}{g:Prop}(e:(match i with | [f,d,c,b,a]=>k f d c b a|_=>none)=some r) (s:∀ f d c b a,i=[f,d,c,b,a]->k f d c b a=some r->g):g:=by
 generalize l:i=h at e;revert e l;exact List.casesOn h eS fun x q=>List.casesOn q eS fun w p=>List.casesOn p eS fun v o=>List.casesOn o eS fun u n=>List.casesOn n eS fun t m=>List.casesOn m (s _ _ _ _ _) fun _ _ _=>xns
theorem mv57 {f:Type}{d:Option (AF×ShS)}{h:QS->(Nat×Option AV×Option AV)->Option f}{r:f}{g:Prop}(e:(match d with|some (AF.next,b,a)=>h b a|_=>none)=some r) (m:∀ b a,d=some (AF.next,b,a)->h b a=some r->g):g:=by
 generalize i:d=c at e;revert e i;exact Option.casesOn c (fun _=>xns) fun l=>Prod.casesOn l fun k j=>AF.casesOn k (Prod.casesOn j fun o n=>m _ _) (fun _=>xns) (fun _=>xns) fun _ _=>xns
theorem Dx (k:KF Z):Sp Z 6 359 (sQ<|cQ Wf):=by
 refine Sp.toQ (D6 (names:=["self","q","r","orig_idx","insert_idx","flag"]) (rest:=["next_idx","was_empty","temp"]) (n:=5) (na:=6) (dflt:=[]) (dm:=[]) k.JF (WX fun _ _ _ _ _ _ _ _ _ _ _ _=>.of_eq rfl) .nil<|AA (Ao (Al<|A3<|By 0 k.A7 (A8 k)<|AN (AB 4) Aa) (AA (B8 0 k.BQ (AB 4)<|AB 2)<|AA (As 0 .o k.Ah k.Bv (Av k) (AB 1)<|AD AE)<|AA (As 0 .c k.AO k.Bv (Av k) (AB 4)<|MZ (AW (AB 4)<|AB 3) (AD AE)<|AD AE)<|AA (As 0 .s k.Ap k.Bv (Av k) (AB 4)<|MZ (AW (AB 4)<|AB 1) (AD AE)<|AD AE) AI)<|AA (Ab 5<|Ac<|AJ (AJ (AB 4)<|AD AE)<|An 0 k.AU AR)<|AA (C5 (Al<|A3<|AD Bf)<|AA (Ab 6<|Ac<|By 0 k.A7 (A8 k)<|AN (AB 6) Aa)<|AA (Ab 7<|Ac<|Bg 0 .c k.AO k.Bk (Bm k)<|AB 6)<|AA (As 0 .c k.AO k.Bv (Av k) (AB 6)<|Bg 0 .c k.AO k.Bk (Bm k)<|AB 4)<|AA (As 0 .c k.AO k.Bv (Av k) (AB 4)<|AB 8)<|AA (As 0 .s k.Ap k.Bv (Av k) (AB 6)<|AD AE)<|AA (Ab 7<|Ac<|Cj 0 k.BQ Cp<|AB 6)<|AA (B8 0 k.BQ (AB 6)<|Cj 0 k.BQ Cp<|AB 4)<|AA (B8 0 k.BQ (AB 4)<|AB 8)<|AA (Ao (Al<|A3<|AB 7) (AA LF AI) AI)<|AA (Ab 5<|Ac<|AJ (AJ (AB 6)<|AD AE)<|An 0 k.AU AR) AI)<|AA (B8 0 k.BQ (AB 4)<|AB 2)<|AA (As 0 .o k.Ah k.Bv (Av k) (AB 1)<|AD AE)<|AA (As 0 .c k.AO k.Bv (Av k) (AB 4)<|MZ (AW (AB 4)<|AB 3) (AD AE)<|AD AE)<|AA (As 0 .s k.Ap k.Bv (Av k) (AB 4)<|MZ (AW (AB 4)<|AB 1) (AD AE)<|AD AE)<|AA (Ao (Al<|AW (AB 5)<|AD AE) (AA (As 0 .c k.AO k.Bv (Av k) (AJ (AJ (AB 4)<|AD AE)<|An 0 k.AU AR)<|AD AE) AI) AI) AI) AI) fun n S X W V h=>xE1 (C9 h) fun l=>xA2 fun g=>rE g fun M=>have h:=M;?_;unfold Wf at h;refine mv56 h ?_
 .refine fun q r o p f=>fun z=>rE z fun h=>xP (BN h)<|xA2 fun g=>?_;revert g;refine xA3 fun H a C=>fun E=>xP (GN E)<|xA2 fun K=>fun g=>rE g<|have h:=K;?_;have u:(upB<|pTr<|BZ 0 (q1 QS.empty)<|Ai (AM 4) BY) n (start (.qf S) (ofN [q,r,o,p,f]) [] 3)=some (S.empty p,start (.qf S) (ofN [q,r,o,p,f]) [] 3):=by
   simp only[upB,wPl,pTr,BZ,Ai,BY,mT,AM,AL,start,ofN,List.map,vals,B1,GD a]
  unfold QS.shi at h;refine bT (S.empty p) (fun m=>?_) fun m=>?_
  .rw [m]at h u;revert a;exact soE h fun a=>CM rfl<|(AK<|(Df u).trans<|(Q4 H a C rfl).trans rfl).trans rfl
  .rw [m]at h u;dsimp only at h;refine mv57 h ?_
   .refine fun B t U h=>xP (BN h)<|xA2 fun w E=>have h:=E;?_;have J:BX (5+1) (up<|Aj .BitAnd (Aj .Add (AM 4)<|AP<|.int 1)<|Bq 0<|aQ fun S=>MV.int ↑(S.n-1)) n (start (.qf S) (ofN [q,r,o,p,f]) [] 3)=some (.next,Ni q r o p f (S,S.nx p,none,none)):=by
     simp only[BX,up,wPl,Aj,Bq,aQ,AM,AP,mI,AL,AY,start,ofN,List.map,vals,B1,BR,Bc,EU,Ni]
    have G:∀ R:MX,Ag (mIf (upB<|Aw .Eq (AM 5)<|AP<|.int 1) (Ag (Bh 0 .c (Aj .BitAnd (Aj .Add (AM 4)<|AP<|.int 1)<|Bq 0<|aQ fun S=>MV.int ↑(S.n-1))<|AP<|.int 1) Ar) Ar) Ar n
      [some<|.qf<|B.put q r o p,some<|.v<|.int q,some<|.v<|.int r,some<|.v<|.int o,some<|.v<|.int p,some<|.v<|.int f,some<|.v<|.int t.1,t.2.1,t.2.2]=some (.next,some (.qf V)::(Ni q r o p f (B,t)).tail):=by
     intro _;have L:(B.put q r o p).nx p=S.nx p:=by refine(rE w ?_:(p+1)%B.n=_);rfl
     have A:((f:Int)==1)=(f==1):=Gx f 1;refine bT (f==1) (fun D=>?_) fun D=>?_
     .rw [D]at h A;revert a;refine soE h fun a=>?_;simp only[Ag,mIf,Ar,Bh,onQ,nx,upB,wPl,Aw,CF,Aj,Bq,aQ,AM,AP,mI,AL,AY,CD,A,BR,Bc,EU,JL<|QS.Qz _ _,Ni,List.tail];exact rE L rfl
     .rw [D]at h A;revert a;refine soE h ?_;clear h;intro a;simp only[Ag,mIf,Ar,upB,wPl,Aw,CF,AM,AP,AL,CD,A,Ni,List.tail]
    refine CM rfl<|(AK<|(CE u).trans<|(AK J).trans<|(AK<|CH (Ni q r o p f) (x:=(S,S.nx p,none,none)) U ?_).trans<|(Q4 (w▸H) (w▸a) (w▸C) rfl).trans<|G Ar).trans rfl;rintro⟨T,j,y,z⟩ l e;refine xP (BN e)<|xA2 fun g=>?_;revert g;refine xA4 fun F i _ _=>fun e=>have i:=F.symm▸i;?_;refine have b:p<T.n:=F▸a;have d:T.n<=1000:=F▸C;have Q:p<(T.AZ .c j<|T.cont p).n:=b;have P:j<((T.AZ .c j<|T.cont p).AZ .c p<|T.cont j).n:=i;have I:j<(((T.AZ .c j<|T.cont p).AZ .c p<|T.cont j).AZ .s j true).n:=i;have O:p<(((T.AZ .c j<|T.cont p).AZ .c p<|T.cont j).AZ .s j true).n:=b;have N:p<((((T.AZ .c j<|T.cont p).AZ .c p<|T.cont j).AZ .s j true).A4 j<|(((T.AZ .c j<|T.cont p).AZ .c p<|T.cont j).AZ .s j true).rem p).n:=b;?_;revert a;refine soE e fun a=>bE (T.empty j) (fun m=>?_) (fun m=>?_)<;>(first|refine⟨rfl,.inl ?_⟩|refine .inr ⟨rfl,?_⟩)<;>
     simp only[Ni,Ag,Ar,mIf,BX,Gn,Bh,B7,onQ,nx,up,upB,wPl,pTr,mT,BZ,Ai,BY,Aj,pBit,DD,Bq,aQ,mI,AM,AP,AL,AY,GD i,CV i,CV b,QS.bit,Ey i,Ey Q,JL P,EF I d,EF O d,Dj I d,Dj N d,m,BR,Bc,EU]<;>rfl
def Q5 (S:QS) (r:Nat):Nat×Int->Option (Lp<|Nat×Int):=fun(p,t)=>match decide (p<S.n)with
 |true=>some<|match t==0&&(!S.empty p&&decide (S.rem p<r))with
  |true=>.go (S.nx p,Ew (S.cont<|S.nx p) t)
  |false=>.out (p,t)
 |false=>none
def QS.Nj (S:QS) (n q r:Nat):Option QS:=match S.empty q with
 |true=>some<|(S.A4 q r).AZ .o q true
 |false=>(match gsi S n q with
  |none=>none
  |some s=>(match decide (s<S.n)with
   |true=>(match S.occ q with
    |false=>S.shi n q r s s 0
    |true=>(match loop (Q5 S r) n (s,0)with
     |some (.next,(p,t))=>(match decide (p<S.n)with
      |true=>(match t==1 with|true=>S.shi n q r s p 0|false=>S.shi n q r s p 1)
      |false=>none)
     |_=>none))
   |false=>none))
noncomputable def QS.inc (S:QS):QS:={S with cnt:=S.cnt+1}
def Mg (n:Nat) (S:QS):List Nat->Option (AV×QS)
 | [q,r]=>(match decide (q<S.n/\S.n<=1000/\S.n≠S.cnt)with
  |true=>(match S.Nj n q r with|some a=>some (.v .none,a.inc)|none=>none)
  |false=>none)
 |_=>none
theorem Nk (b:q<S.n) (c:p<S.n) (d:S.n<=1000) (h:S.shi n q r o p f=some a):cQ Wf n S (ofN [q,r,o,p,f])=some (.v .none,a):=by
 refine rE IE ?_;show(match decide _ with|true=>_|false=>none)=_;exact rE2 (Ti ⟨b,c,d⟩) h rfl
theorem HS {a:PL}:Oh 0 (AP<|.int 1) n (some (.qf S)::a)=some (.next,some (.qf S.inc)::a):=rfl
theorem fsum (S:QS) (p:Nat):(b2i (S.occ p)+b2i (S.cont p)+b2i (S.shf p) != 0) = !S.empty p:=by
 unfold QS.empty;cases S.occ p<;>cases S.cont p<;>cases S.shf p<;>rfl
def HU (S:QS) (q r s:Nat):Nat×Int->PL:=fun x=>[some<|.qf S,some<|.v<|.int q,some<|.v<|.int r,some<|.v<|.int (x.1:Nat),some<|.v<|.int s,some<|.v<|.int x.2,some<|.v<|.int<|b2i (S.occ x.1)+b2i (S.cont x.1)+b2i (S.shf x.1)]
theorem mv58 {f:Type}{h:Nat->Nat->Option f}{r:f}{g:Prop}(e:(match d with | [b,a]=>h b a|_=>none)=some r) (l:∀ b a,d=[b,a]->h b a=some r->g):g:=by
 generalize i:d=c at e;revert e i;exact List.casesOn c (fun _=>xns) fun n k=>List.casesOn k (fun _=>xns) fun m j=>List.casesOn j (l _ _) fun _ _ _=>xns
theorem mv59 {d:Type}{f:Nat->Option d}{r:d}{g:Prop}(e:(match c with|none=>none|some a=>f a)=some r) (i:∀ a,c=some a->f a=some r->g):g:=by
 generalize h:c=b at e;revert e h;exact Option.casesOn b eS fun j=>i _
theorem Vf (k:KF Z):Sp Z 10 373 (sQ<|cQ Mg):=by
 refine Sp.toQ (D6 (names:=["self","q","r"]) (rest:=["start_idx","orig_start_idx","starts","f"]) (n:=9) (na:=3) (dflt:=[]) (dm:=[]) k.Vb (Eu fun _ _ _ _ _ _ _ _ _=>.of_eq rfl) .nil<|AA (Ao (Al<|AW (An 0 k.DK EC)<|An 0 k.BV Ba) (AA Iu AI) AI)<|AA (Ao (Al<|A3<|By 0 k.A7 (A8 k)<|AN (AB 1) Aa) (AA (B8 0 k.BQ (AB 1)<|AB 2)<|AA (As 0 .o k.Ah k.Bv (Av k) (AB 1)<|AD AE) AI)<|AA (Ab 2<|BF 0 k.EB (EE k)<|AN (AB 1) Aa)<|AA (Ao (Al<|AW (Bg 0 .o k.Ah k.Bk (Bm k)<|AB 1)<|AD AE) (AA (Ax<|BF 0 k.Dt (Dx k)<|AN (AB 1)<|AN (AB 2)<|AN (AB 3)<|AN (AB 3)<|AN (AD AE) Aa) AI)<|AA (Ab 3<|Ac<|AB 3)<|AA (Ab 4<|Ac<|AD AE)<|AA (Ab 5<|Ac<|AJ (AJ (Di 0 .o k.Ah k.Bo (DR k)<|AB 3)<|Di 0 .c k.AO k.Bo (DR k)<|AB 3)<|Di 0 .s k.Ap k.Bo (DR k)<|AB 3)<|AA (C5 (Al<|BW (AW (AB 5)<|AD AE)<|BW (AW (AB 6)<|AD AE)<|BW (AW (AB 2)<|Cj 0 k.BQ Cp<|AB 3) Bt)<|AA (Ab 2<|Ac<|AJ (AJ (AB 3)<|AD AE)<|An 0 k.AU AR)<|AA (Ao (Al<|AW (Bg 0 .c k.AO k.Bk (Bm k)<|AB 3)<|AD AE) (AA (Ir 4<|AD AE) AI) AI)<|AA (Ab 5<|Ac<|AJ (AJ (Di 0 .o k.Ah k.Bo (DR k)<|AB 3)<|Di 0 .c k.AO k.Bo (DR k)<|AB 3)<|Di 0 .s k.Ap k.Bo (DR k)<|AB 3) AI)<|AA (Ao (Al<|AW (AB 5)<|AD AE) (AA (Ax<|BF 0 k.Dt (Dx k)<|AN (AB 1)<|AN (AB 2)<|AN (AB 4)<|AN (AB 3)<|AN (AD AE) Aa) AI)<|AA (Ax<|BF 0 k.Dt (Dx k)<|AN (AB 1)<|AN (AB 2)<|AN (AB 4)<|AN (AB 3)<|AN (AD AE) Aa) AI) AI) AI)<|AA (Pp 0 k.Eg k.BV rfl rfl rfl rfl<|AD AE) AI) fun n S as r' S' h=>xE1 (C9 h) fun l=>xA2 fun G=>rE G fun E=>?_;unfold Mg at E;refine mv58 E ?_
 .refine fun q r=>fun z=>rE z fun E=>xP (BN E)<|xA2 fun G=>?_;revert G;refine xA3 fun a u B=>fun g=>mv40 g ?_
  .refine fun S1 h g=>BH g ?_;have H:(upB<|Aw .Eq (Bq 0<|aQ fun S=>.int S.n)<|Bq 0<|aQ fun S=>.int S.cnt) n (start (.qf S) (ofN [q,r]) [] 4)=some (false,start (.qf S) (ofN [q,r]) [] 4):=by
    simp only[upB,wPl,Aw,CF,Bq,aQ,AL,start,ofN,List.map,vals,B1,CD,Gx,b4.mpr B]
   have i:(upB<|pTr<|BZ 0 (q1 QS.empty)<|Ai (AM 1) BY) n (start (.qf S) (ofN [q,r]) [] 4)=some (S.empty q,start (.qf S) (ofN [q,r]) [] 4):=by
    simp only[upB,wPl,pTr,BZ,Ai,BY,mT,AM,AL,start,ofN,List.map,vals,B1,GD a]
   unfold QS.Nj at h;refine bT (S.empty q) (fun L=>?_) fun L=>?_
   .rw [L]at h i;refine soE h<|have D:q<(S.A4 q r).n:=a;CM rfl<|(AK<|CE H).trans<|(AK (pl1:=[some<|.qf<|(S.A4 q r).AZ .o q true,some<|.v<|.int q,some<|.v<|.int r,none,none,none,none])<|(Df i).trans ?_).trans<|(AK HS).trans rfl;simp only[Ag,Ar,B7,Bh,onQ,nx,AM,AP,mI,AL,AY,start,ofN,List.map,vals,B1,Dj a u,JL D]
   .rw [L]at h i;dsimp only at h;refine mv59 h ?_
    .refine fun s W h=>xP (BN h)<|xA2 fun P d=>?_;have O:BX (2+1) (C6 0 (r1 fun S n q=>toI<|gsi S n q)<|Ai (AM 1) BY) n (start (.qf S) (ofN [q,r]) [] 4)=some (.next,[some<|.qf S,some<|.v<|.int q,some<|.v<|.int r,some<|.v<|.int (s:Nat),none,none,none]):=
      CN<|BI rfl rfl<|We a<|Ve W
     have A:(upB<|Aw .Eq (pBit 0 .o<|AM 1)<|AP<|.int 0) n [some<|.qf S,some<|.v<|.int q,some<|.v<|.int r,some<|.v<|.int (s:Nat),none,none,none]=some (!S.occ q,[some<|.qf S,some<|.v<|.int q,some<|.v<|.int r,some<|.v<|.int (s:Nat),none,none,none]):=by
      simp only[upB,wPl,Aw,CF,pBit,mI,AM,AP,AL,CV a,CD,ED,QS.bit]
     refine bE (S.occ q) (fun K=>?_) fun K=>?_
     .rw [K]at d A;exact CM rfl<|(AK<|CE H).trans<|(AK<|(CE i).trans<|(AK O).trans<|(AK<|(Df A).trans<|(AK<|A6<|BI rfl rfl<|Nk (f:=0) a P u d).trans rfl).trans rfl).trans<|(AK HS).trans rfl
     .rw [K]at d A;dsimp only at d;refine mv52 d ?_
      .refine fun p t Y d=>xP (BN d)<|xA2 fun Q C=>?_;have N:∀(j x:Nat) (t:Int) (z:Option AV),x<S.n->BX (5+1) (up<|Aj .Add (Aj .Add (pBit 0 .o<|AM 3)<|pBit 0 .c<|AM 3)<|pBit 0 .s<|AM 3) n [some<|.qf S,some<|.v<|.int q,some<|.v<|.int r,some<|.v<|.int x,some<|.v<|.int s,some<|.v<|.int t,z]=some (.next,HU S q r s (x,t)):=by
        intro j x t z J;simp only[HU,BX,up,wPl,Aj,pBit,mI,AM,AL,AY,CV J,BR,QS.bit]
       have w:∀ M,Ag (NU (upB<|Ec (Aw .Eq (AM 5)<|AP<|.int 0)<|Ec (Aw .NotEq (AM 6)<|AP<|.int 0)<|Ec (Aw .Gt (AM 2)<|DD 0 Iv<|AM 3) GH)
         (Ag (BX (2+1)<|up<|Aj .BitAnd (Aj .Add (AM 3)<|AP<|.int 1)<|Bq 0<|aQ fun S=>MV.int ↑(S.n-1))
          (Ag (mIf (upB<|Aw .Eq (pBit 0 .c<|AM 3)<|AP<|.int 0) (Ag (Jr (4+1) .Add<|AP<|.int 1) Ar) Ar)
           (Ag (BX (5+1)<|up<|Aj .Add (Aj .Add (pBit 0 .o<|AM 3)<|pBit 0 .c<|AM 3)<|pBit 0 .s<|AM 3) Ar)))) M n (HU S q r s (s,0))=M n (HU S q r s (p,t)):=by
        refine fun M=>AK<|(fun T X h=>CH (T:=T) (X:=X) (HU S q r s) Y h) _ _ ?_;rintro⟨x,t⟩ l e;refine xP (BN e)<|xA2 fun J e=>soE e ?_;have F:(upB<|Ec (Aw .Eq (AM 5)<|AP<|.int 0)<|Ec (Aw .NotEq (AM 6)<|AP<|.int 0)<|Ec (Aw .Gt (AM 2)<|DD 0 Iv<|AM 3) GH) n (HU S q r s (x,t))=some (t==0&&(!S.empty x&&decide (S.rem x<r)),HU S q r s (x,t)):=by
         refine bE (t==0) (fun R=>?_) (fun R=>?_)<;>refine bE (S.empty x) (fun D=>?_) (fun D=>?_)<;>refine bE (decide<|S.rem x<r) (fun g=>?_) (fun g=>?_)<;>
          simp only[HU,upB,wPl,Ec,Aw,CF,DD,mI,AM,AP,GH,AL,EF J u,CD,Kf,Ke,T6,fsum,R,D,g,Bool.not_true,Bool.not_false,Bool.and_true,Bool.and_false,Bool.true_and,Bool.false_and]
        refine bE (t==0&&(!S.empty x&&decide (S.rem x<r))) (fun b=>?_) fun b=>?_
        .rw [b]at F;exact .inl F
        .rw [b]at F;refine⟨F,.inl ?_⟩;have m:=S.Qz x;have V:BX (2+1) (up<|Aj .BitAnd (Aj .Add (AM 3)<|AP<|.int 1)<|Bq 0<|aQ fun S=>MV.int ↑(S.n-1)) n (HU S q r s (x,t))=some (.next,[some<|.qf S,some<|.v<|.int q,some<|.v<|.int r,some<|.v<|.int (S.nx x:Nat),some<|.v<|.int s,some<|.v<|.int t,some<|.v<|.int<|b2i (S.occ x)+b2i (S.cont x)+b2i (S.shf x)]):=by
          simp only[HU,BX,up,wPl,Aj,Bq,aQ,mI,AM,AP,AL,AY,BR,Bc,EU]
         have U:(mIf (upB<|Aw .Eq (pBit 0 .c<|AM 3)<|AP<|.int 0) (Ag (Jr (4+1) .Add<|AP<|.int 1) Ar) Ar) n [some<|.qf S,some<|.v<|.int q,some<|.v<|.int r,some<|.v<|.int (S.nx x:Nat),some<|.v<|.int s,some<|.v<|.int t,some<|.v<|.int<|b2i (S.occ x)+b2i (S.cont x)+b2i (S.shf x)]
           = some (.next,[some<|.qf S,some<|.v<|.int q,some<|.v<|.int r,some<|.v<|.int (S.nx x:Nat),some<|.v<|.int s,some<|.v<|.int<|Ew (S.cont<|S.nx x) t,some<|.v<|.int<|b2i (S.occ x)+b2i (S.cont x)+b2i (S.shf x)]):=by
          refine bE (S.cont<|S.nx x) (fun B=>?_) (fun B=>?_)<;>simp only[mIf,upB,wPl,Aw,CF,pBit,mI,AM,AP,AL,CV m,CD,ED,QS.bit,B,Bool.not_true,Bool.not_false]<;>rfl
         exact(AK V).trans<|(AK U).trans<|(AK<|N 0 _ _ _ m).trans rfl
       refine have y:(upB<|Aw .Eq (AM 5)<|AP<|.int 1) n (HU S q r s (p,t))=some (t==1,HU S q r s (p,t)):=rfl;CM rfl<|(AK<|CE H).trans<|(AK<|(CE i).trans<|(AK O).trans<|(AK<|(CE A).trans<|(AK rfl).trans<|(AK rfl).trans<|(AK<|N 0 s 0 none P).trans<|(w _).trans<|(AK (pl1:=some (.qf S1)::(HU S q r s (p,t)).tail)<|bT (t==1) (fun b=>?_) fun b=>?_).trans rfl).trans rfl).trans<|(AK HS).trans rfl
       .rw [b]at C y;exact(Df y).trans<|(AK<|A6<|BI rfl rfl<|Nk (f:=0) a Q u C).trans rfl
       .rw [b]at C y;exact(CE y).trans<|(AK<|A6<|BI rfl rfl<|Nk (f:=1) a Q u C).trans rfl
def Q6 (S:QS):Nat->Option (Lp Nat):=fun i=>match decide (i<S.n)with
 |true=>some<|match S.cs i with
  |true=>.out i
  |false=>.go<|S.pv i
 |false=>none
def fcs (S:QS) (n i:Nat):Option Int:=match loop (Q6 S) n i with
 |some (.next,j)=>some (j:Int)
 |_=>none
theorem mv60 {d:Type}{f:Nat->Option d}{r:d}{g:Prop}(e:(match c with|some (AF.next,a)=>f a|_=>none)=some r) (k:∀ a,c=some (AF.next,a)->f a=some r->g):g:=by
 generalize h:c=b at e;revert e h;exact Option.casesOn b (fun _=>xns) fun j=>Prod.casesOn j fun i l=>AF.casesOn i (k _) (fun _=>xns) (fun _=>xns) fun _ _=>xns
theorem Fc (k:KF Z):Sp Z 6 401 (sQ<|r1 fcs):=by
 refine Sp.toQ (D6 (names:=["self","idx"]) (rest:=["min_idx"]) (n:=5) (na:=2) (dflt:=[]) (dm:=[]) k.FV (Bj fun _ _ _ _ _ _ _ _=>.of_eq rfl) .nil<|AA (Ab 1<|Ac<|AB 1)<|AA (C5 (Al<|Iq<|A3<|By 0 k.CJ (CK k)<|AN (AB 2) Aa)<|AA (Ab 1<|Ac<|AJ (AJ (AB 2)<|AD AE)<|An 0 k.AU AR) AI)<|AA (CC<|Ac<|AB 2) AI) fun n S s r d h=>xE2 (Oj h) fun q i=>xA2 fun m=>rE m<|xA4 fun p a g=>rE g fun f=>?_;revert a;refine rS f fun a=>?_;unfold fcs at a;refine mv60 a ?_
 .refine fun j o a=>have z:=so a;rS z<|Co rfl<|(AK rfl).trans<|(AK<|CH (fun x:Nat=>[some<|.qf d,some<|.v<|.int q,some<|.v<|.int x]) o fun x l e=>xP (BN e)<|xA2 fun c e=>soE e<|bT (d.cs x) (fun b=>?_) fun b=>?_).trans<|Ci rfl
  .refine .inl ?_;simp only[upB,wPl,IA,pTr,BZ,Ai,BY,mT,AM,AL,GD c,b];rfl
  .refine ⟨?_,.inl ?_⟩
   .simp only[upB,wPl,IA,pTr,BZ,Ai,BY,mT,AM,AL,GD c,b];rfl
   .simp only[Ag,Ar,BX,up,wPl,Aj,Bq,aQ,mI,AM,AP,AL,AY,Gw,Bc,Q0]
def QS.clr (S:QS) (i:Nat):QS:=(((S.A4 i 0).AZ .o i false).AZ .c i false).AZ .s i false
noncomputable def b2n (b:Bool):Nat:=if b then 1 else 0
def Wg (n:Nat) (S:QS):List MV->Option (AV×QS)
 | [.int i,.int q,.bool b]=>if(0<=i/\i<S.n)/\(0<=q/\q<S.n)/\S.n<=1000 then some (.v .none,match b with|true=>(S.clr i.toNat).AZ .o q.toNat false|false=>S.clr i.toNat)else none
 |_=>none
theorem mv61 {h:Type}{i:Int->Int->Bool->Option h}{r:h}{g:Prop}(e:(match f with | [MV.int c,MV.int b,MV.bool a]=>i c b a|_=>none)=some r) (q:∀ c b a,f=[MV.int c,MV.int b,MV.bool a]->i c b a=some r->g):g:=by
 generalize j:f=d at e;revert e j;exact List.casesOn d (fun _=>xns) fun p o=>MV.casesOn p (fun _=>xns) (fun _ _=>xns) (fun u=>List.casesOn o (fun _=>xns) fun n m=>MV.casesOn n (fun _=>xns) (fun _ _=>xns) (fun t=>List.casesOn m (fun _=>xns) fun l k=>MV.casesOn l (fun _=>xns) (fun s=>List.casesOn k (q _ _ _) fun _ _ _=>xns) (fun _ _=>xns) (fun _ _=>xns) (fun _ _=>xns) (fun _ _=>xns) fun _ _=>xns) (fun _ _=>xns) (fun _ _=>xns) (fun _ _=>xns) fun _ _=>xns) (fun _ _=>xns) (fun _ _=>xns) (fun _ _=>xns) fun _ _=>xns
theorem Eh (k:KF Z):Sp Z 4 394 (sQ Wg):=by
 refine Sp.toQ (D6 (names:=["self","idx","q","remove_orig_idx"]) (rest:=[]) (n:=3) (na:=4) (dflt:=[]) (dm:=[]) k.Ed (Qr fun _ _ _ _ _ _ _ _ _ _=>.of_eq rfl) .nil<|AA (B8 0 k.BQ (AB 1)<|AD AE)<|AA (NY 0 .o k.Ah k.FZ (LQ k) rfl rfl rfl rfl (AB 1) rfl rfl)<|AA (NY 0 .c k.AO k.FZ (LQ k) rfl rfl rfl rfl (AB 1) rfl rfl)<|AA (NY 0 .s k.Ap k.FZ (LQ k) rfl rfl rfl rfl (AB 1) rfl rfl)<|AA (Ao (Al<|A3<|AB 3) (AA (As 0 .o k.Ah k.Bv (Av k) (AB 2)<|AD AE) AI) AI) AI) fun n S x r y h=>?_;unfold Wg at h;refine mv61 h ?_
 .clear h;refine fun i q b=>fun z=>?_;subst z;refine fun h=>xP (Au h)<|xA2 fun a=>?_;revert a;refine xA3 fun f e m=>fun j=>BH j ?_;clear j;refine xE1 (Int.eq_ofNat_of_zero_le f.1) fun i=>fun a=>?_;revert f;refine rE a fun f=>xE1 (Int.eq_ofNat_of_zero_le e.1) fun q=>fun a=>?_;revert e;refine rE a fun e=>have d:i<S.n:=(la2 0xc08c0840001000020dc40011) f;have v:i<(S.A4 i 0).n:=d;have u:i<((S.A4 i 0).AZ .o i false).n:=d;have t:i<(((S.A4 i 0).AZ .o i false).AZ .c i false).n:=d;have p:q<(S.clr i).n:=((la2 0xc08c0840001000020dc40011) e);have w:Iz S (some (i:Int)) (some 0)=some (S.A4 i 0):=Dj d m;?_;have g:∀ R:MX,Ag (B7 0 (AM 1)<|AP<|.int 0) (Ag (Qk 0 .o<|AM 1)<|Ag (Qk 0 .c<|AM 1)<|Ag (Qk 0 .s<|AM 1) R) n (start (.qf S) [.int i,.int q,.bool b] [] 0)=R n (start (.qf<|S.clr i) [.int i,.int q,.bool b] [] 0):=by
   intro R;simp only[Ag,B7,Qk,onQ,nx,AM,AP,mI,AL,AY,start,vals,B1,w,Dw v,Dw u,Dw t];rfl
  induction b with
  |true=>
   refine CM rfl<|(g _).trans<|(AK (pl1:=start (.qf<|(S.clr i).AZ .o q false) [.int i,.int q,.bool true] [] 0)<|(Df rfl).trans<|(AK ?_).trans rfl).trans rfl;simp only[Bh,onQ,nx,AM,AP,mI,AL,AY,start,vals,B1,Dw p]
  |false=>exact CM rfl<|(g _).trans<|(AK<|CE rfl).trans rfl
def QS.mv1 (S:QS) (i j:Nat):QS:=((S.A4 i<|S.rem j).AZ .c i<|S.cont j).AZ .s i<|S.shf j
def QS.hfm (S:QS) (i j:Nat):QS:=((S.A4 i<|S.rem j).AZ .c i false).AZ .s i<|S.shf j
def Wh (n:Nat) (S:QS):List Nat->Option (AV×QS)
 | [i,j]=>(match decide (i<S.n/\j<S.n/\S.n<=1000)with
  |true=>some<|match S.rcs i&&S.cont j with
   |true=>(.tup (.int j)<|.int<|S.nx j,S.hfm i j)
   |false=>(.tup (.int i)<|.int j,S)
  |false=>none)
 |_=>none
theorem GF (k:KF Z):Sp Z 8 408 (sQ<|cQ Wh):=by
 refine Sp.toQ (D6 (names:=["self","idx","next_idx"]) (rest:=[]) (n:=7) (na:=3) (dflt:=[]) (dm:=[]) k.GA (Eu fun _ _ _ _ _ _ _ _ _=>.of_eq rfl) .nil<|AA (Ao (Al<|BW (A3<|By 0 k.Ce (Cf k)<|AN (AB 1) Aa)<|BW (AW (Bg 0 .c k.AO k.Bk (Bm k)<|AB 2)<|AD AE) Bt) (AA (B8 0 k.BQ (AB 1)<|Cj 0 k.BQ Cp<|AB 2)<|AA (As 0 .c k.AO k.Bv (Av k) (AB 1)<|AD AE)<|AA (As 0 .s k.Ap k.Bv (Av k) (AB 1)<|Bg 0 .s k.Ap k.Bk (Bm k)<|AB 2)<|AA (Ab 0<|Ac<|AB 2)<|AA (Ab 1<|Ac<|AJ (AJ (AB 1)<|AD AE)<|An 0 k.AU AR) AI) AI)<|AA (LH<|Qq (AB 1) (AB 2) rfl rfl) AI) fun n S x r y h=>xE1 (C9 h) fun l=>xA2 fun e=>rE e fun d=>?_;unfold Wh at d;refine mv58 d ?_
 .refine fun i j=>fun z=>rE z fun d=>xP (BN d)<|xA2 fun e=>?_;revert e;refine xA3 fun b f m=>fun h=>?_;have a:(upB<|Ec (pTr<|BZ 0 (q1 QS.rcs)<|Ai (AM 1) BY)<|Ec (Aw .Eq (pBit 0 .c<|AM 2)<|AP<|.int 1) GH) n (start (.qf S) (ofN [i,j]) [] 0)=some (S.rcs i&&S.cont j,start (.qf S) (ofN [i,j]) [] 0):=by
   refine bE (S.rcs i) (fun p=>?_) (fun p=>?_)<;>refine bE (S.cont j) (fun o=>?_) (fun o=>?_)<;>simp only[upB,wPl,Ec,pTr,GH,BZ,Ai,BY,mT,Aw,CF,pBit,mI,AM,AP,AL,start,ofN,List.map,vals,B1,GD b,CV f,CD,Fw,QS.bit,p,o,Bool.and_true,Bool.and_false]
  refine bE (S.rcs i&&S.cont j) (fun g=>?_) fun g=>?_
  .rw [g]at h a;exact BH h<|Co rfl<|(AK<|CE a).trans<|Ci rfl
  .rw [g]at h a;refine BH h<|have w:i<(S.A4 i<|S.rem j).n:=b;have u:i<((S.A4 i<|S.rem j).AZ .c i false).n:=b;have t:j<((S.A4 i<|S.rem j).AZ .c i false).n:=f;Co rfl<|(AK (pl1:=[some<|.qf<|S.hfm i j,some<|.v<|.int j,some<|.v<|.int (S.nx j:Nat)])<|(Df a).trans ?_).trans<|Ci rfl;simp only[Ag,Ar,BX,B7,Bh,onQ,nx,up,wPl,Aj,pBit,DD,Bq,aQ,mI,AM,AP,AL,AY,start,ofN,List.map,vals,B1,EF f m,Dj b m,Dw w,CV t,Ey u,QS.bit,BR,Bc,EU];rfl
def Pq (N:Nat):QS×Nat×Nat->Option (Lp<|QS×Nat×Nat):=fun(S,i,j)=>match decide (S.n=N/\i<N/\j<N/\N<=1000)with
 |true=>some<|match S.cs j ||S.empty j with
  |true=>.out (S,i,j)
  |false=>.go (S.mv1 i j,j,S.nx j)
 |false=>none
def Wi (n:Nat) (S:QS):List Nat->Option (AV×QS)
 | [i,j]=>(match loop (Pq S.n) n (S,i,j)with
  |some (.next,(c,b,a))=>some (.tup (.int b)<|.int a,c)
  |_=>none)
 |_=>none
theorem mv62 {h:Type}{i:QS->Nat->Nat->Option h}{r:h}{g:Prop}(e:(match f with|some (AF.next,c,b,a)=>i c b a|_=>none)=some r) (o:∀ c b a,f=some (AF.next,c,b,a)->i c b a=some r->g):g:=by
 generalize j:f=d at e;revert e j;exact Option.casesOn d (fun _=>xns) fun n=>Prod.casesOn n fun m l=>AF.casesOn m (Prod.casesOn l fun s k=>Prod.casesOn k fun q p=>o _ _ _) (fun _=>xns) (fun _=>xns) fun _ _=>xns
theorem HV (k:KF Z):Sp Z 6 415 (sQ<|cQ Wi):=by
 refine Sp.toQ (D6 (names:=["self","idx","next_idx"]) (rest:=[]) (n:=5) (na:=3) (dflt:=[]) (dm:=[]) k.HO (Eu fun _ _ _ _ _ _ _ _ _=>.of_eq rfl) .nil<|AA (C5 (Al<|BW (Iq<|A3<|By 0 k.CJ (CK k)<|AN (AB 2) Aa)<|BW (Iq<|A3<|By 0 k.A7 (A8 k)<|AN (AB 2) Aa) Bt)<|AA (B8 0 k.BQ (AB 1)<|Cj 0 k.BQ Cp<|AB 2)<|AA (As 0 .c k.AO k.Bv (Av k) (AB 1)<|Bg 0 .c k.AO k.Bk (Bm k)<|AB 2)<|AA (As 0 .s k.Ap k.Bv (Av k) (AB 1)<|Bg 0 .s k.Ap k.Bk (Bm k)<|AB 2)<|AA (Ab 0<|Ac<|AB 2)<|AA (Ab 1<|Ac<|AJ (AJ (AB 1)<|AD AE)<|An 0 k.AU AR) AI)<|AA (LH<|Qq (AB 1) (AB 2) rfl rfl) AI) fun n S F r H h=>xE1 (C9 h) fun l=>xA2 fun g=>rE g fun a=>?_;clear h;unfold Wi at a;refine mv58 a ?_
 .clear a;refine fun i j=>fun z=>rE z fun a=>mv62 a ?_
  .clear a;refine fun G E D C a=>xA2 ?_<|so2 a;clear a;intro z;subst z;intro z;subst z;refine Co rfl<|(AK<|CH (fun x:QS×Nat×Nat=>[some<|.qf x.1,some<|.v<|.int (x.2.1:Nat),some<|.v<|.int (x.2.2:Nat)]) (x:=(S,i,j)) C ?_).trans<|Ci rfl;rintro⟨T,x,y⟩ l e;refine xP (BN e)<|xA2 fun g=>?_;revert g;refine xA4 fun t f b m=>fun e=>?_;rw[<- t]at f b m;refine soE e ?_;have d:∀ X,(upB<|Ec (IA<|pTr<|BZ 0 (q1 QS.cs)<|Ai (AM 2) BY)<|Ec (IA<|pTr<|BZ 0 (q1 QS.empty)<|Ai (AM 2) BY) GH) n [some<|.qf T,X,some<|.v<|.int (y:Nat)]=some (!(T.cs y ||T.empty y),[some<|.qf T,X,some<|.v<|.int (y:Nat)]):=by
    refine fun X=>bE (T.cs y) (fun q=>?_) (fun q=>?_)<;>refine bE (T.empty y) (fun p=>?_) (fun p=>?_)<;>simp only[upB,wPl,Ec,IA,pTr,GH,BZ,Ai,BY,mT,AM,AL,GD b,q,p,Bool.not_true,Bool.not_false,Bool.or_true,Bool.or_false]
   refine bT (T.cs y ||T.empty y) (fun o=>?_) fun o=>?_
   .rw [o]at d;exact .inl<|d _
   .rw [o]at d;refine⟨d _,.inl ?_⟩;have B:x<(T.A4 x<|T.rem y).n:=f;have A:y<(T.A4 x<|T.rem y).n:=b;have w:x<((T.A4 x<|T.rem y).AZ .c x<|(T.A4 x<|T.rem y).cont y).n:=f;have u:y<((T.A4 x<|T.rem y).AZ .c x<|(T.A4 x<|T.rem y).cont y).n:=b;simp only[Ag,Ar,BX,B7,Bh,onQ,nx,up,wPl,Aj,pBit,DD,Bq,aQ,mI,AM,AP,AL,AY,EF b m,Dj f m,CV A,Ey B,CV u,Ey w,QS.bit,BR,Bc,EU];rfl
def QS.cle (S:QS) (i:Nat):QS:=(((S.A4 i 0).AZ .c i false).AZ .s i false).AZ .o i false
def Wj (n:Nat) (S:QS):List Nat->Option (AV×QS)
 | [i]=>(match decide (i<S.n/\S.n<=1000)with
  |true=>some (.v .none,S.cle i)
  |false=>none)
 |_=>none
theorem mv63 {d:Type}{f:Nat->Option d}{r:d}{g:Prop}(e:(match c with | [a]=>f a|_=>none)=some r) (j:∀ a,c=[a]->f a=some r->g):g:=by
 generalize h:c=b at e;revert e h;exact List.casesOn b (fun _=>xns) fun k i=>List.casesOn i (j _) fun _ _ _=>xns
theorem Fd (k:KF Z):Sp Z 4 422 (sQ<|cQ Wj):=by
 refine Sp.toQ (D6 (names:=["self","idx"]) (rest:=[]) (n:=3) (na:=2) (dflt:=[]) (dm:=[]) k.FX (Bj fun _ _ _ _ _ _ _ _=>.of_eq rfl) .nil<|AA (B8 0 k.BQ (AB 1)<|AD AE)<|AA (As 0 .c k.AO k.Bv (Av k) (AB 1)<|AD AE)<|AA (As 0 .s k.Ap k.Bv (Av k) (AB 1)<|AD AE)<|AA (As 0 .o k.Ah k.Bv (Av k) (AB 1)<|AD AE) AI) fun n S q r t h=>xE1 (C9 h) fun l=>xA2 fun d=>rE d fun b=>?_;unfold Wj at b;refine mv63 b ?_
 .refine fun i=>fun z=>rE z fun b=>xP (BN b)<|xA2 fun d=>?_;revert d;refine xA2 fun a e=>fun h=>BH h<|have j:i<(S.A4 i 0).n:=a;have g:i<((S.A4 i 0).AZ .c i false).n:=a;have f:i<(((S.A4 i 0).AZ .c i false).AZ .s i false).n:=a;have m:Iz S (some (i:Int)) (some 0)=some (S.A4 i 0):=Dj a e;CM rfl (pl:=[some<|.v<|.int i]) ?_;simp only[Ag,Ar,B7,Bh,onQ,nx,AM,AP,mI,AL,AY,start,ofN,List.map,vals,B1,m,Dw j,Dw g,Dw f];rfl
noncomputable abbrev FxS:=QS×Nat×Int×List Nat
def QS.own (S:QS) (i:Nat):QS:=((S.AZ .c i false).AZ .s i false).AZ .o i true
def LV (N e:Nat):FxS->Option (Lp FxS):=fun(S,i,c,l)=>match decide (S.n=N/\i<N/\l.length<=900)with
 |true=>(match i==e with
  |true=>some<|.out (S,i,c,l)
  |false=>(match S.rs i,(match S.occ i with|true=>l++[i]|false=>l)with
   |true,[]=>none
   |true,a::b=>some<|.go (match a==i with|true=>S.own i|false=>S,S.nx i,(a:Int),b)
   |false,b=>some<|.go (match c==(i:Int)with|true=>S.own i|false=>S,S.nx i,c,b)))
 |false=>none
def Wl (n:Nat) (S:QS):List Nat->Option (AV×QS)
 | [i,e]=>(match loop (LV S.n e) n (S,i,-1,[])with
  |some (.next,(a,_))=>some (.v .none,a)
  |_=>none)
 |_=>none
theorem Q7 (p:Bool):D5 .Eq (.bool p) (.int 1)=some p:=by induction p<;>rfl
def Gy (e:Nat):FxS->PL:=fun x=>[some<|.qf x.1,some<|.v<|.int (x.2.1:Nat),some<|.v<|.int e,some<|.v<|.int x.2.2.1,some<|.lst<|ofN x.2.2.2]
theorem Ol (l:List Nat) (i:Nat):ofN l++[MV.int (i:Int)]=ofN (l++[i]):=by simp[ofN]
theorem Om (l:List Nat):(ofN l).length=l.length:=by simp[ofN]
theorem mv64 {f:Type}{d:Option (AF×FxS)}{h:QS->(Nat×Int×List Nat)->Option f}{r:f}{g:Prop}(e:(match d with|some (AF.next,b,a)=>h b a|_=>none)=some r) (m:∀ b a,d=some (AF.next,b,a)->h b a=some r->g):g:=by
 generalize i:d=c at e;revert e i;exact Option.casesOn c (fun _=>xns) fun l=>Prod.casesOn l fun k j=>AF.casesOn k (Prod.casesOn j fun o n=>m _ _) (fun _=>xns) (fun _=>xns) fun _ _=>xns
theorem IF (k:KF Z):Sp Z 8 429 (sQ<|cQ Wl):=by
 refine Sp.toQ (D6 (names:=["self","min_idx","next_idx"]) (rest:=["cur_quot","queue"]) (n:=7) (na:=3) (dflt:=[]) (dm:=[]) k.IB (Eu fun _ _ _ _ _ _ _ _ _=>.of_eq rfl) .nil<|AA (Ab 2<|Ac<|GG<|AD AE)<|AA (Fs 3<|Et Aa)<|AA (C5 (Al<|AW (AB 1)<|AB 2)<|AA (Ao (Al<|AW (Bg 0 .o k.Ah k.Bk (Bm k)<|AB 1)<|AD AE) (AA (Ax<|JD 4<|AB 1) AI) AI)<|AA (Ao (Al<|AW (By 0 k.Du (Dv k)<|AN (AB 1) Aa)<|AD AE) (AA (Ab 2<|Qp 4 rfl rfl rfl rfl rfl) AI) AI)<|AA (Ao (Al<|AW (AB 3)<|AB 1) (AA (As 0 .c k.AO k.Bv (Av k) (AB 1)<|AD AE)<|AA (As 0 .s k.Ap k.Bv (Av k) (AB 1)<|AD AE)<|AA (As 0 .o k.Ah k.Bv (Av k) (AB 1)<|AD AE) AI) AI)<|AA (Ab 0<|Ac<|AJ (AJ (AB 1)<|AD AE)<|An 0 k.AU AR) AI) AI) fun n S M r O h=>xE1 (C9 h) fun l=>xA2 fun w=>rE w fun f=>?_;clear h;unfold Wl at f;refine mv58 f ?_
 .clear f;refine fun i e=>fun z=>rE z fun f=>mv64 f ?_
  .clear f;refine fun N K J f=>xA2 ?_<|so2 f;clear f;intro z;subst z;intro z;subst z;refine CM rfl<|(AK rfl).trans<|(AK rfl).trans<|(AK<|CH (Gy e) (x:=(S,i,-1,[])) J ?_).trans rfl;rintro⟨T,x,v,l⟩ L h;refine xP (BN h)<|xA2 fun w=>?_;revert w;refine xA3 fun G j A=>fun b=>?_;rw[<- G]at j;have m:(upB<|Aw .NotEq (AM 1)<|AM 2) n (Gy e (T,x,v,l))=some (!(x==e),Gy e (T,x,v,l)):=by
    simp only[Gy,upB,wPl,Aw,CF,AM,AL,Kf,bne,Gx]
   refine bT (x==e) (fun B=>?_) fun B=>?_
   .rw [B]at b m;exact soE b<|.inl m
   .rw [B]at b m;dsimp only at b;have C:(mIf (upB<|Aw .Eq (pBit 0 .o<|AM 1)<|AP<|.int 1) (Ag (C4<|JC 4<|AM 1) Ar) Ar) n (Gy e (T,x,v,l))=some (.next,Gy e (T,x,v,match T.occ x with|true=>l++[x]|false=>l)):=by
     refine bE (T.occ x) (fun D=>?_) (fun D=>?_)<;>simp only[Gy,mIf,Ag,Ar,C4,JC,upB,wPl,Aw,CF,pBit,mI,AM,AP,AL,AY,CV j,CD,Fw,QS.bit,D,Om,Ol];exact iP (by exact dK A) rfl
    obtain⟨q,u⟩:∃ q,(match T.occ x with|true=>l++[x]|false=>l)=q:=⟨_,rfl⟩;have g:q.length<=901:=by refine rS u ?_;cases T.occ x;(exact Nat.le_succ_of_le A);exact rE cE<|Nat.succ_le_succ A
    rw[u]at C b;have I:x<(T.AZ .c x false).n:=j;have H:x<((T.AZ .c x false).AZ .s x false).n:=j;have F:∀(d:Int) (p:List Nat),Ag (mIf (upB<|Aw .Eq (AM 3)<|AM 1) (Ag (Bh 0 .c (AM 1)<|AP<|.int 0)<|Ag (Bh 0 .s (AM 1)<|AP<|.int 0)<|Ag (Bh 0 .o (AM 1)<|AP<|.int 1) Ar) Ar)
      (Ag (BX (0+1)<|up<|Aj .BitAnd (Aj .Add (AM 1)<|AP<|.int 1)<|Bq 0<|aQ fun S=>MV.int ↑(S.n-1)) Ar) n (Gy e (T,x,d,p))=some (.next,Gy e (match d==(x:Int)with|true=>T.own x|false=>T,T.nx x,d,p)):=by
     refine fun d p=>bE (d==(x:Int)) (fun E=>?_) (fun E=>?_)<;>simp only[Gy,mIf,Ag,Ar,BX,Bh,onQ,nx,up,upB,wPl,Aw,CF,Aj,Bq,aQ,mI,AM,AP,AL,AY,CD,E,Dw j,Dw I,JL H,BR,Bc,EU]<;>rfl
    refine bT (T.rs x) (fun t=>?_) fun t=>?_
    .rw [t]at b;induction q with
     |nil=>exact xns b
     |cons a p=>
      refine soE b ⟨m,.inl<|(AK C).trans<|(AK (pl1:=Gy e (T,x,(a:Int),p)) ?_).trans<|(F _ _).trans<|rE (Gx ..) rfl⟩
      .simp only[Gy,mIf,Ag,Ar,BX,Qo,upB,wPl,Aw,CF,BZ,Ai,BY,AM,AP,AL,AY,GD j,t,Q7,ofN,List.map];rw[cA<|by rw[b7];simp at g;exact dK g];rfl
    .rw [t]at b;refine soE b ⟨m,.inl<|(AK C).trans<|(AK (pl1:=Gy e (T,x,v,q)) ?_).trans<|F _ _⟩;simp only[Gy,mIf,Ag,Ar,BX,Qo,upB,wPl,Aw,CF,BZ,Ai,BY,AM,AP,AL,AY,GD j,t,Q7]
def QS.JM (S:QS) (i j:Nat):QS×Nat×Nat:=match S.rcs i&&S.cont j with
 |true=>(S.hfm i j,j,S.nx j)
 |false=>(S,i,j)
def QS.Mh (S:QS) (n q i:Nat):Option QS:=match S.empty (S.nx i) ||S.cs (S.nx i)with
 |true=>some<|match S.sro i (S.nx i)with|true=>(S.clr i).AZ .o q false|false=>S.clr i
 |false=>(match loop (Q6 S) n i with
  |some (.next,m)=>(match loop (Pq (S.JM i<|S.nx i).1.n) n (S.JM i<|S.nx i)with
   |some (.next,(a,b,c))=>(match decide (b<a.n/\a.n<=1000/\q<a.n)with
    |true=>(match loop (LV a.n c) n (match S.sro i (S.nx i)with|true=>(a.cle b).AZ .o q false|false=>a.cle b,m,-1,[])with
     |some (.next,(d,_))=>some d
     |_=>none)
    |false=>none)
   |_=>none)
  |_=>none)
def Jv (n:Nat) (S:QS):List Nat->Option (AV×QS)
 | [q,r]=>(match decide (q<S.n/\S.n<=1000)with
  |true=>(match cal S n q r with
   |some (.ofNat i)=>(match decide (i<S.n)with
    |true=>Mf<|S.Mh n q i
    |false=>none)
   |some (.negSucc 0)=>some (.v .none,S)
   |_=>none)
  |false=>none)
 |_=>none
theorem Gz (d:AL a i=some (.qf S)) (c:g a=some as) (b:M n S as=some (m,S')) :
  LG i M g n a=some (m,AY a i<|.qf S'):=by
 unfold LG Ka;refine rE2 d c ?_;dsimp only;exact rE b rfl
theorem Oo (h:M n d=some (.tup a b,c)):Of i j M n d=some (.next,AY (AY c i<|.v a) j<|.v b):=by unfold Of;exact rE h rfl
theorem Wm {i j:Nat}(c:i<S.n) (b:j<S.n) (a:S.n<=1000):cQ Wh n S (ofN [i,j])=some (.tup (.int ((S.JM i j).2.1:Nat))<|.int ((S.JM i j).2.2:Nat),(S.JM i j).1):=by
 refine rE IE ?_;show(match decide _ with|true=>_|false=>none)=_;refine rE (Ti ⟨c,b,a⟩) ?_;unfold QS.JM;cases S.rcs i&&S.cont j<;>rfl
theorem mv65 {c:Type}{h:Nat->Option c}{f:Option c}{r:c}{g:Prop}(e:(match b with|some (Int.ofNat a)=>h a|some (Int.negSucc 0)=>f|_=>none)=some r) (m:∀ a,b=some (Int.ofNat a)->h a=some r->g) (l:b=some (Int.negSucc 0)->f=some r->g):g:=by
 generalize i:b=d at e;revert e i;exact Option.casesOn d (fun _=>xns) fun k=>Int.casesOn k (fun n=>m _) fun j=>Nat.casesOn j l fun _ _=>xns
theorem HW (k:KF Z):Sp Z 10 380 (sQ<|cQ Jv):=by
 refine Sp.toQ (D6 (names:=["self","q","r"]) (rest:=["idx","next_idx","remove_orig_idx","min_idx"]) (n:=9) (na:=3) (dflt:=[]) (dm:=[]) k.HM (Eu fun _ _ _ _ _ _ _ _ _=>.of_eq rfl) .nil<|AA (Ab 2<|BF 0 k.Bu (Bw k)<|AN (AB 1)<|AN (AB 2) Aa)<|AA (Ao (Al<|AW (AB 3)<|GG<|AD AE) (AA Oc AI) AI)<|AA (Ab 3<|Ac<|AJ (AJ (AB 3)<|AD AE)<|An 0 k.AU AR)<|AA (Ab 4<|Ac<|By 0 k.ES (ET k)<|AN (AB 3)<|AN (AB 4) Aa)<|AA (Ao (Al<|CL (A3<|By 0 k.A7 (A8 k)<|AN (AB 4) Aa)<|CL (A3<|By 0 k.CJ (CK k)<|AN (AB 4) Aa) BU) (AA (Ax<|BF 0 k.Ef (Eh k)<|AN (AB 3)<|AN (AB 1)<|AN (AB 5) Aa)<|AA Oc AI) AI)<|AA (Ab 5<|BF 0 k.FW (Fc k)<|AN (AB 3) Aa)<|AA (Og 2 3 rfl rfl rfl rfl rfl (Gp 0 k.GB (GF k) rfl rfl rfl rfl rfl (AN (AB 3)<|AN (AB 4) Aa) rfl rfl) (fun _=>rfl) fun _=>rfl)<|AA (Og 2 3 rfl rfl rfl rfl rfl (Gp 0 k.HP (HV k) rfl rfl rfl rfl rfl (AN (AB 3)<|AN (AB 4) Aa) rfl rfl) (fun _=>rfl) fun _=>rfl)<|AA (Ax<|BF 0 k.FY (Fd k)<|AN (AB 3) Aa)<|AA (Ao (Al<|A3<|AB 5) (AA (As 0 .o k.Ah k.Bv (Av k) (AB 1)<|AD AE) AI) AI)<|AA (Ax<|BF 0 k.IC (IF k)<|AN (AB 6)<|AN (AB 4) Aa) AI) fun n S as r' p h=>xE1 (C9 h) fun l=>xA2 fun f=>rE f fun j=>?_;clear h;unfold Jv at j;refine mv58 j ?_
 .clear j;refine fun q r=>fun z=>rE z fun j=>xP (BN j)<|xA2 fun f=>?_;revert f;refine xA2 fun L w=>fun h=>?_;clear j;have K:∀ i,cal S n q r=some i->BX (2+1) (C6 0 (r2 cal)<|Ai (AM 1)<|Ai (AM 2) BY) n (start (.qf S) (ofN [q,r]) [] 4)=some (.next,[some<|.qf S,some<|.v<|.int q,some<|.v<|.int r,some<|.v<|.int i,none,none,none]):=
   fun i e=>CN<|BI rfl rfl<|T8 L w e
  refine mv65 h ?_ ?_
  .clear h;refine fun i E h=>xP (BN h)<|xA2 fun t M=>xP (GN M)<|xA2 fun d=>fun f=>rE f ?_;clear h M;refine have x:=S.Qz i;have J:=K _ E;?_;have G:(upB<|Aw .Eq (AM 3)<|pUn .USub<|AP<|.int 1) n [some<|.qf S,some<|.v<|.int q,some<|.v<|.int r,some<|.v<|.int<|Int.ofNat i,none,none,none]=some (false,[some<|.qf S,some<|.v<|.int q,some<|.v<|.int r,some<|.v<|.int<|Int.ofNat i,none,none,none]):=by
    have:((Int.ofNat i) == -1)=false:=b4.mpr (by intro h;cases h);exact(rE this rfl:some ((Int.ofNat i) == -1,_)=_)
   have I:BX (3+1) (up<|Aj .BitAnd (Aj .Add (AM 3)<|AP<|.int 1)<|Bq 0<|aQ fun S=>MV.int ↑(S.n-1)) n [some<|.qf S,some<|.v<|.int q,some<|.v<|.int r,some<|.v<|.int<|Int.ofNat i,none,none,none] =
     some (.next,[some<|.qf S,some<|.v<|.int q,some<|.v<|.int r,some<|.v<|.int i,some<|.v<|.int (S.nx i:Nat),none,none]):=by
    simp only[BX,up,wPl,Aj,Bq,aQ,mI,AM,AP,AL,AY,Int.ofNat_eq_natCast,BR,Bc,EU]
   have H:BX (4+1) (up<|BZ 0 (q2 QS.sro)<|Ai (AM 3)<|Ai (AM 4) BY) n [some<|.qf S,some<|.v<|.int q,some<|.v<|.int r,some<|.v<|.int i,some<|.v<|.int (S.nx i:Nat),none,none] =
     some (.next,[some<|.qf S,some<|.v<|.int q,some<|.v<|.int r,some<|.v<|.int i,some<|.v<|.int (S.nx i:Nat),some<|.v<|.bool<|S.sro i<|S.nx i,none]):=by
    have:q2 QS.sro S [.int i,.int (S.nx i:Nat)]=some (.bool<|S.sro i<|S.nx i):=cA ⟨⟨dJ,dP t⟩,dJ,dP x⟩;simp only[BX,up,wPl,BZ,Ai,BY,AM,AL,AY,this]
   have s:(upB<|pOr (pTr<|BZ 0 (q1 QS.empty)<|Ai (AM 4) BY)<|pOr (pTr<|BZ 0 (q1 QS.cs)<|Ai (AM 4) BY) C3) n [some<|.qf S,some<|.v<|.int q,some<|.v<|.int r,some<|.v<|.int i,some<|.v<|.int (S.nx i:Nat),some<|.v<|.bool<|S.sro i<|S.nx i,none] =
     some (S.empty (S.nx i) ||S.cs (S.nx i),[some<|.qf S,some<|.v<|.int q,some<|.v<|.int r,some<|.v<|.int i,some<|.v<|.int (S.nx i:Nat),some<|.v<|.bool<|S.sro i<|S.nx i,none]):=by
    refine bE (S.empty<|S.nx i) (fun O=>?_) (fun O=>?_)<;>refine bE (S.cs<|S.nx i) (fun N=>?_) (fun N=>?_)<;>simp only[upB,wPl,pOr,pTr,C3,BZ,Ai,BY,mT,AM,AL,GD x,O,N,Bool.or_true,Bool.or_false]
   unfold QS.Mh at d;refine bT (S.empty (S.nx i) ||S.cs (S.nx i)) (fun y=>?_) fun y=>?_
   .rw [y]at d s;cases d;have Y:Wg n S [.int i,.int q,.bool<|S.sro i<|S.nx i]=some (.v .none,match S.sro i (S.nx i)with|true=>(S.clr i).AZ .o q false|false=>S.clr i):=by
     show(if _ then _ else _)=_;exact iP ⟨⟨dJ,dP t⟩,⟨dJ,dP L⟩,w⟩ rfl
    exact Co rfl<|(AK J).trans<|(AK<|CE G).trans<|(AK I).trans<|(AK H).trans<|Ci<|(Df s).trans<|(AK<|A6<|BI rfl rfl Y).trans<|Ci rfl
   .rw [y]at d s;dsimp only at d;refine mv60 d ?_
    .refine fun m em d=>mv62 d ?_
     .refine fun b a g e2 d=>xP (BN d)<|xA2 fun f=>?_;revert f;refine xA3 fun D C B=>fun A=>mv64 A ?_
      .intro S5 P e5 A;cases A;have V:BX (5+1) (C6 0 (r1 fcs)<|Ai (AM 3) BY) n [some<|.qf S,some<|.v<|.int q,some<|.v<|.int r,some<|.v<|.int i,some<|.v<|.int (S.nx i:Nat),some<|.v<|.bool<|S.sro i<|S.nx i,none] =
         some (.next,[some<|.qf S,some<|.v<|.int q,some<|.v<|.int r,some<|.v<|.int i,some<|.v<|.int (S.nx i:Nat),some<|.v<|.bool<|S.sro i<|S.nx i,some<|.v<|.int (m:Nat)]):=
        CN<|BI rfl rfl<|We t<|show fcs S n i=some (m:Int) by unfold fcs;exact rE em rfl
       have U:cQ Wi n (S.JM i<|S.nx i).1 (ofN [(S.JM i<|S.nx i).2.1,(S.JM i<|S.nx i).2.2])=some (.tup (.int a)<|.int g,b):=by
        refine rE IE ?_;show(match loop (Pq _) n _ with|some (.next,(p,X,W))=>some (AV.tup (.int X)<|.int W,p)|_=>none)=_;exact rE e2 rfl
       have T:cQ Wj n b (ofN [a])=some (.v .none,b.cle a):=by
        refine rE IE ?_;show(match decide _ with|true=>_|false=>none)=_;exact rE (Ti ⟨D,C⟩) rfl
       have u:q<(b.cle a).n:=B;have R:(mIf (upB<|pTr<|AM 5) (Ag (Bh 0 .o (AM 1)<|AP<|.int 0) Ar) Ar) n [some<|.qf<|b.cle a,some<|.v<|.int q,some<|.v<|.int r,some<|.v<|.int a,some<|.v<|.int g,some<|.v<|.bool<|S.sro i<|S.nx i,some<|.v<|.int (m:Nat)] =
         some (.next,[some<|.qf<|match S.sro i (S.nx i)with|true=>(b.cle a).AZ .o q false|false=>b.cle a,some<|.v<|.int q,some<|.v<|.int r,some<|.v<|.int a,some<|.v<|.int g,some<|.v<|.bool<|S.sro i<|S.nx i,some<|.v<|.int (m:Nat)]):=by
        cases S.sro i (S.nx i)<;>simp only[mIf,Ag,Ar,Bh,onQ,nx,upB,wPl,pTr,mT,mI,AM,AP,AL,AY,Dw u]
       have Q:cQ Wl n (match S.sro i (S.nx i)with|true=>(b.cle a).AZ .o q false|false=>b.cle a) (ofN [m,g])=some (.v .none,p):=by
        refine rE IE ?_;have F:loop (LV (match S.sro i (S.nx i)with|true=>(b.cle a).AZ .o q false|false=>b.cle a).n g) n (match S.sro i (S.nx i)with|true=>(b.cle a).AZ .o q false|false=>b.cle a,m,-1,[])=some (.next,(p,P)):=by
         have:(match S.sro i (S.nx i)with|true=>(b.cle a).AZ .o q false|false=>b.cle a).n=b.n:=by cases S.sro i (S.nx i)<;>rfl
         exact rE this e5
        show(match loop (LV _ g) n _ with|some (.next,(p,_))=>some (AV.v .none,p)|_=>none)=_;exact rE F rfl
       refine CM rfl<|(AK J).trans<|(AK<|CE G).trans<|(AK I).trans<|(AK H).trans<|(AK<|CE s).trans<|(AK V).trans<|(AK<|Oo<|Gz rfl rfl<|Wm t x w).trans
        ((AK<|Oo<|Gz rfl rfl U).trans<|(AK<|A6<|BI rfl rfl T).trans<|(AK R).trans<|(AK<|A6<|BI rfl rfl Q).trans rfl)
  .clear h;intro E h;cases h;exact Co rfl<|(AK<|K _ E).trans<|Ci<|(Df rfl).trans rfl
theorem Q8 (h k:Nat):DH .RShift (h:Int) (k:Int)=some ((h/2^k:Nat):Int):=by
 refine(iP (by exact dJ) (rE (cL ..) ?_):(if(0:Int)<=(k:Int)then some ((h:Int).fdiv<|2^(k:Int).toNat)else none)=_);have e:(2:Int)^k=((2^k:Nat):Int):=by simp
 exact rE2 e (Int.fdiv_eq_ediv_of_nonneg _<|bX _) rfl
theorem Kh (k:Nat) (h:k<=1000):DH .LShift 1 (k:Int)=some ((2^k:Nat):Int):=(iP ⟨dJ,(la1 0x6088080fa280003e8a00031) h,by decide⟩ (rE (Wd ..) rfl):(if 0<=(k:Int)/\(k:Int)<=1000/\(1:Int).natAbs<2^64 then some ((1:Int)*2^(k:Int).toNat)else none)=_)
theorem Q9 (k:Nat):((2^k:Nat):Int)-1=((2^k-1:Nat):Int):=by
 have:=Nat.two_pow_pos k;exact (la2 0x628a688502120045000222009000352) this rfl
noncomputable abbrev QS.r (S:QS):Nat:=32-S.q
def QS.hq (S:QS) (h:Nat):Nat:=h/2^S.r
def QS.hr (S:QS) (h:Nat):Nat:=h%2^S.r
theorem RA {i:Nat}{h:Nat}{pl:PL}:BX (1+1) (up<|Aj .RShift (AM 1)<|Bq 0<|aQ fun S=>MV.int ↑(32-S.q)) n [some<|.qf S,some<|.v<|.int h,none,none]=some (.next,[some<|.qf S,some<|.v<|.int h,some<|.v<|.int (S.hq h:Nat),none]):=by
 simp only[BX,up,wPl,Aj,Bq,aQ,mI,AM,AL,AY,Q8];rfl
theorem RB {h:Nat}:BX (2+1) (up<|Aj .BitAnd (AM 1)<|Aj .Sub (Aj .LShift (AP<|.int 1)<|Bq 0<|aQ fun S=>MV.int ↑(32-S.q))<|AP<|.int 1) n [some<|.qf S,some<|.v<|.int h,x,none] =
  some (.next,[some<|.qf S,some<|.v<|.int h,x,some<|.v<|.int (S.hr h:Nat)]):=by
 simp only[BX,up,wPl,Aj,Bq,aQ,mI,AM,AP,AL,AY,Kh (32-S.q)<|by exact (la2 0x2982201080020a0280fa28001) rfl,Gw,Bc,Q9,JK];rfl
def Mj (n:Nat) (S:QS):List Nat->Option (AV×QS)
 | [h]=>(match Jv n S [S.hq h,S.hr h]with|some (_,a)=>some (.v .none,a)|none=>none)
 |_=>none
theorem Wn {a:AV}(h:Jv n S l=some (a,b)):a=.v .none:=by
 unfold Jv at h;refine mv58 h ?_
 .clear h;refine fun _ _=>fun z=>?_;subst z;exact fun h=>xP (BN h)<|xA2 fun _ h=>mv65 h (fun _ _ h=>xP (BN h)<|xA2 fun _ h=>(GN h).2) (fun _ h=>BH h rfl)
theorem mv36 {f:Type}{h:AV->QS->Option f}{r:f}{g:Prop}(e:(match d with|some (b,a)=>h b a|none=>none)=some r) (k:∀ b a,d=some (b,a)->h b a=some r->g):g:=by
 generalize i:d=c at e;revert e i;exact Option.casesOn c eS fun j=>Prod.casesOn j fun m l=>k _ _
theorem G7 (k:KF Z):Sp Z 12 309 (sQ<|cQ Mj):=by
 refine Sp.toQ (D6 (names:=["self","_hash"]) (rest:=["key_quotient","key_remainder"]) (n:=11) (na:=2) (dflt:=[]) (dm:=[]) k.Mc (Bj fun _ _ _ _ _ _ _ _=>.of_eq rfl) .nil<|AA (Ab 1<|Ac<|AJ (AB 1)<|An 0 k.a_r JI)<|AA (Ab 2<|Ac<|AJ (AB 1)<|AJ (AJ (AD AE)<|An 0 k.a_r JI)<|AD AE)<|AA (Ax<|BF 0 k.HN (HW k)<|AN (AB 2)<|AN (AB 3) Aa) AI) fun n S j f o h=>xE1 (C9 h) fun l=>xA2 fun d=>rE d fun b=>?_;clear h;unfold Mj at b;refine mv63 b ?_
 .clear b;refine fun x=>fun z=>rE z fun b=>mv36 b ?_
  .clear b;intro a m c b;cases b;have e:=Wn c;revert c;exact rE e fun c=>CM rfl<|(AK<|RA (i:=0) (pl:=[])).trans<|(AK RB).trans<|(AK<|A6<|BI rfl rfl<|IE.trans c).trans rfl
def EV (n:Nat) (S:QS):List Nat->Option (AV×QS)
 | [h]=>(match decide (S.hq h<S.n/\S.n<=1000)with
  |true=>(match cal S n (S.hq h) (S.hr h)with|some i=>some (.v<|.bool<|i != -1,S)|none=>none)
  |false=>none)
 |_=>none
theorem DY (k:KF Z):Sp Z 10 323 (sQ<|cQ EV):=by
 refine Sp.toQ (D6 (names:=["self","_hash"]) (rest:=["key_quotient","key_remainder"]) (n:=9) (na:=2) (dflt:=[]) (dm:=[]) k.Nd (Bj fun _ _ _ _ _ _ _ _=>.of_eq rfl) .nil<|AA (Ab 1<|Ac<|AJ (AB 1)<|An 0 k.a_r JI)<|AA (Ab 2<|Ac<|AJ (AB 1)<|AJ (AJ (AD AE)<|An 0 k.a_r JI)<|AD AE)<|AA (CC<|WQ (BF 0 k.Bu (Bw k)<|AN (AB 2)<|AN (AB 3) Aa) (Ac<|GG<|AD AE) rfl) AI) fun n S m j o h=>xE1 (C9 h) fun l=>xA2 fun b=>rE b fun a=>?_;unfold EV at a;refine mv63 a ?_
 .refine fun x=>fun z=>rE z fun a=>xP (BN a)<|xA2 fun b=>?_;revert b;refine xA2 fun d e=>fun h=>mv19 h ?_
  .refine fun i g h=>BH h<|Co (pl:=[some<|.v<|.int x,some<|.v<|.int (S.hq x:Nat),some<|.v<|.int (S.hr x:Nat)]) rfl<|(AK<|RA (i:=0) (pl:=[])).trans<|(AK RB).trans (Ci<|have f:C6 0 (r2 cal) (Ai (AM 2)<|Ai (AM 3) BY) n [some<|.qf S,some<|.v<|.int x,some<|.v<|.int (S.hq x:Nat),some<|.v<|.int (S.hr x:Nat)]=some (.int i,_):=BI rfl rfl<|T8 d e g;?_);simp only[It,ofB,Gl,f,up,wPl,pUn,mI,AP,Kf];rfl
def QS.due (S:QS):Bool:=S.auto&&decide (85*S.n<=100*S.cnt)
def QS.JN (S:QS) (n h:Nat):Option (AV×QS):=match decide (S.hq h<S.n/\S.n<=1000)with
 |true=>(match cal S n (S.hq h) (S.hr h)with
  |some i=>(match i == -1 with
   |true=>Mg n S [S.hq h,S.hr h]
   |false=>some (.v .none,S))
  |none=>none)
 |false=>none
def JO (n:Nat) (S:QS):List Nat->Option (AV×QS)
 | [h]=>(match S.due with|true=>none|false=>S.JN n h)
 |_=>none
theorem Ki (h:a.natAbs<2^64) (b:Int):DH .Mult a b=some (a*b):=cA<|.inl h
theorem Oq {x:Nat}{a:PL}:(upB<|Ec (pTr<|Bq 0<|aQ fun S=>.bool S.auto)<|Ec (Aw .GtE (Aj .Mult (AP<|.int 100)<|Bq 0<|aQ fun S=>.int S.cnt)<|Aj .Mult (AP<|.int 85)<|Bq 0<|aQ fun S=>.int S.n) GH) n (some (.qf S)::a)=some (S.due,some (.qf S)::a):=by
 have e:decide ((85:Int)*(S.n:Int)<=100*(S.cnt:Int))=decide (85*S.n<=100*S.cnt):=by
  rw[cF,b0,b0];exact Int.ofNat_le (m:=85*S.n) (n:=100*S.cnt)
 unfold QS.due;refine bE S.auto (fun h=>?_) (fun h=>?_)<;>simp only[upB,wPl,Ec,pTr,GH,Aw,CF,Aj,Bq,aQ,mI,mT,AP,AL,Ki<|show(100:Int).natAbs<2^64 by decide,Ki<|show(85:Int).natAbs<2^64 by decide,Kd,e,h,Bool.true_and,Bool.false_and];cases decide (85*S.n<=100*S.cnt)<;>rfl
theorem Wo {a:AV}(h:Mg n S l=some (a,b)):a=.v .none:=by
 unfold Mg at h;refine mv58 h ?_
 .clear h;refine fun _ _=>fun z=>?_;subst z;exact fun h=>xP (BN h)<|xA2 fun _ h=>mv40 h (fun _ _ h=>BH h rfl)
theorem EG {S:QS}{a:AV}(h:S.JN n x=some (a,e)):a=.v .none/\Ag (BX (1+1)<|up<|Aj .RShift (AM 1)<|Bq 0<|aQ fun S=>MV.int ↑(32-S.q)) (Ag (BX (2+1)<|up<|Aj .BitAnd (AM 1)<|Aj .Sub (Aj .LShift (AP<|.int 1)<|Bq 0<|aQ fun S=>MV.int ↑(32-S.q))<|AP<|.int 1)
  (Ag (mIf (Gl .Eq (C6 0 (r2 cal)<|Ai (AM 2)<|Ai (AM 3) BY)<|up<|pUn .USub<|AP<|.int 1) (Ag (C4<|C6 0 (cQ Mg)<|Ai (AM 2)<|Ai (AM 3) BY) Ar) Ar) Ar)) n [some<|.qf S,some<|.v<|.int x,none,none] =
  some (.next,[some<|.qf e,some<|.v<|.int x,some<|.v<|.int (S.hq x:Nat),some<|.v<|.int (S.hr x:Nat)]):=by
 unfold QS.JN at h;refine xP (BN h)<|xA2 fun f=>?_;revert f;refine xA2 fun j k=>fun b=>mv19 b ?_
 .intro i m b;have l:C6 0 (r2 cal) (Ai (AM 2)<|Ai (AM 3) BY) n [some<|.qf S,some<|.v<|.int x,some<|.v<|.int (S.hq x:Nat),some<|.v<|.int (S.hr x:Nat)]=some (.int i,_):=BI rfl rfl<|T8 j k m;have c:Gl .Eq (C6 0 (r2 cal)<|Ai (AM 2)<|Ai (AM 3) BY) (up<|pUn .USub<|AP<|.int 1) n [some<|.qf S,some<|.v<|.int x,some<|.v<|.int (S.hq x:Nat),some<|.v<|.int (S.hr x:Nat)]=some (i == -1,[some<|.qf S,some<|.v<|.int x,some<|.v<|.int (S.hq x:Nat),some<|.v<|.int (S.hr x:Nat)]):=by
   simp only[Gl,l,up,wPl,pUn,mI,AP,CD];rfl
  refine bT (i == -1) (fun d=>?_) fun d=>?_
  .rw [d]at b c;have o:=Wo b;revert b;refine rE o fun b=>⟨rfl,(AK<|RA (i:=0) (pl:=[])).trans<|(AK RB).trans<|(AK<|(Df c).trans<|(AK<|A6<|BI rfl rfl<|IE.trans b).trans rfl).trans rfl⟩
  .rw [d]at b c;exact BH b ⟨rfl,(AK<|RA (i:=0) (pl:=[])).trans<|(AK RB).trans<|(AK<|CE c).trans rfl⟩
theorem Nl (k:KF Z):Sp Z 12 295 (sQ<|cQ JO):=by
 refine Sp.toQ (D6 (names:=["self","_hash"]) (rest:=["key_quotient","key_remainder"]) (n:=11) (na:=2) (dflt:=[]) (dm:=[]) k.JE (Bj fun _ _ _ _ _ _ _ _=>.of_eq rfl) .nil<|AA (Ao (Al<|BW (A3<|An 0 k.DQ C8)<|BW (AW (AJ (AD AE)<|An 0 k.BV Ba)<|AJ (AD AE)<|An 0 k.DK EC) Bt) (AA Iu AI) AI)<|AA (Ab 1<|Ac<|AJ (AB 1)<|An 0 k.a_r JI)<|AA (Ab 2<|Ac<|AJ (AB 1)<|AJ (AJ (AD AE)<|An 0 k.a_r JI)<|AD AE)<|AA (Ao (FO (BF 0 k.Bu (Bw k)<|AN (AB 2)<|AN (AB 3) Aa)<|Ac<|GG<|AD AE) (AA (Ax<|BF 0 k.Qv (Vf k)<|AN (AB 2)<|AN (AB 3) Aa) AI) AI) AI) fun n S g f i h=>xE1 (C9 h) fun l=>xA2 fun c=>rE c fun a=>?_;unfold JO at a;refine mv63 a ?_
 .refine fun x=>fun z=>rE z fun a=>bT S.due (fun b=>?_) fun b=>?_
  .exact have a:=b▸a;xns a
  .replace a:=b▸a;exact xP (EG a)<|xA2 fun c=>rE c fun e=>CM rfl<|(AK<|CE (pl1:=[some<|.qf S,some<|.v<|.int x,none,none])<|Oq (x:=0) |>.trans (by refine rE b ?_;rfl)).trans e
structure Lin (S:QS) (a:Nat) (B:Nat->List Nat) (s:Nat->Nat):Prop where
 sa:s a=a
 ba:B a=[]
 next:∀ i,a<=i->i<a+S.n->s (i+1)=max (s i+(B i).length) (i+1)
 top:s (a+S.n)=a+S.n
 occ:∀ i,a<=i->i<a+S.n->S.occ (i%S.n) = !(B i).isEmpty
 run:∀ i k r,a<=i->i<a+S.n->(B i)[k]?=some r->S.cont ((s i+k)%S.n)=(k != 0)/\S.shf ((s i+k)%S.n)=(s i+k != i)/\S.rem ((s i+k)%S.n)=r
 gap:∀ t,a<=t->t<a+S.n->s t=t->B t=[]->S.cont (t%S.n)=false/\S.shf (t%S.n)=false
 srt:∀ i,a<=i->i<a+S.n->(B i).Pairwise (·< ·)
theorem Ca {t u:Nat}(i:a<=t) (e:t<a+N) (g:a<=u) (d:u<a+N) (h:t%N=u%N):t=u:=by
 have c:=Nat.div_add_mod t N;have f:=Nat.div_add_mod u N;rcases cC (t/N) (u/N)with b|b|b
 .have:N*(t/N)+N<=N*(u/N):=by
   have:=Nat.mul_le_mul_left N<|Nat.succ_le_of_lt b;rw[Nat.mul_succ]at this;exact this
  exact (la8 0x1b22ce12809c18608042870880206089420230410810040040026) i d h c f this
 .rw [b]at c;exact (la5 0x167304702106102200410223040840023) h c f
 .have:N*(u/N)+N<=N*(t/N):=by
   have:=Nat.mul_le_mul_left N<|Nat.succ_le_of_lt b;rw[Nat.mul_succ]at this;exact this
  exact (la8 0xcdf3012809818708042870880206089420210400c10400440026) e g h c f this
section
variable {S:QS}{a:Nat}{B:Nat->List Nat}{s:Nat->Nat}
theorem Lin.ge (L:Lin S a B s):∀{i},a<=i->i<=a+S.n->i<=s i:=by
 intro i c b;refine T1 (U1 a i) (fun h=>?_) fun h=>rE (show i=a by exact dR c h)<|rE L.sa<|la1 0x20840800000
 .have:=L.next (i-1) (dp h rfl)<|(la4 0x296c23010930028c081202118020210013) b h rfl;rw[show i-1+1=i by exact (la3 0x2986a842810910028410110240222) h rfl]at this;exact (la5 0x15741180802030800102740610004061102782020840002) this<|mxk _ _
theorem Lin.step (L:Lin S a B s)(c:a<=i) (b:i<a+S.n):s i+(B i).length<=s (i+1):=by
 have:=L.next i c b;exact (la5 0x1d54118084a04200201281182710010940804004609e0c10220200202) this<|mxk _ _
theorem Lin.mono (L:Lin S a B s)(d:a<=i):∀{j},i<j->j<=a+S.n->s i+(B i).length<=s j:=by
 intro j b c;induction j with
 |zero=>exact (la4 0x208808098120200201) b
 |succ j e=>
  exact T1 (U1 i j) (fun h=>(la5 0x3823022080c20302002020200202) (e h<|(la3 0x60880880842402020210001) c)<|L.step (i:=j) ((la3 0xe08c0841012000040002) d h)<|(la3 0x60880880842402020210011) c) fun h=>rE (show j=i by exact (la2 0x1a8430210000480420440022) b h)<|L.step d<|(la4 0xe08c08808424c20126100120210012) b c
theorem Lin.Ot (L:Lin S a B s)(d:a<=i) (h:i<=j) (c:j<=a+S.n):s i<=s j:=by
 refine T1 (U1 i j) (fun b=>?_) fun b=>rE (show i=j by exact dq h b)<|la1 0x20840800000
 .have:=L.mono d b c;exact (la3 0x608808410008040001) this
theorem Lin.inW (L:Lin S a B s)(b:a<=i) (d:i<a+S.n) (e:k<(B i).length):a<=s i+k/\s i+k<a+S.n:=by
 have f:=L.ge b<|dI d;have c:=L.mono b (j:=a+S.n) (dt d)<|la2 0x2084084004200200;rw[L.top]at c;exact (la6 0x6aa11408c004a042010801410140000c00440421202100074) b e f c
theorem Lin.cover (L:Lin S a B s):∀{t},a<=t->t<a+S.n->(∃ i k,a<=i/\i<=t/\k<(B i).length/\t=s i+k)\/(s t=t/\B t=[]):=by
 intro t p o;have j:∀ d i,t-i=d->a<=i->i<=t->s i<=t->(∃ i k,a<=i/\i<=t/\k<(B i).length/\t=s i+k)\/(s t=t/\B t=[]):=by
  intro d;induction d with
  |zero=>
   intro i f c b g;have:i=t:=(la3 0x226148a04381001042840000240840023) f b rfl;subst this;have:=L.ge c<|dI o;have e:s i=i:=dq g this;refine lE' (B i) (fun m=>?_) fun r l m=>.inl ⟨i,0,c,To _,by refine rE m ?_;simp,(la2 0x6a10c08008202210021) e⟩
   .exact .inr ⟨e,rfl⟩
  |succ d q=>
   refine fun i f c b g=>T1 (U1 t<|s i+(B i).length) (fun h=>.inl ⟨i,t-s i,c,b,(la4 0xa9b08c0440c00a10411813040040013) g h rfl,(la3 0x31453442810800428008020210022) g rfl⟩) fun h=>?_
   .have:=L.next i c<|dM o b;exact q (i+1) (eH f rfl rfl) (dZ c) ((la4 0xa8a08c0400410a126110210240202) f rfl)<|(la8 0xa2a20282c20211804e0410a12e12840804b84c09d420425c20508130278600084284080498440840005) f h this (mxk _ _) rfl
 exact j (t-a) a rfl (To _) p<|rE L.sa p
theorem Lin.slot (L:Lin S a B s)(h:a<=i) (g:i<a+S.n) (b:k<(B i).length):S.cont ((s i+k)%S.n)=(k != 0)/\S.shf ((s i+k)%S.n)=(s i+k != i)/\(B i)[k]?=some (S.rem<|(s i+k)%S.n):=by
 exact have e:(B i)[k]?=some ((B i)[k]):=cB b;xP (L.run i k _ h g e)<|xA3 fun f d c=>⟨f,d,rE c e⟩
theorem Lin.nonempty (L:Lin S a B s)(g:a<=i) (f:i<a+S.n) (b:k<(B i).length):S.empty ((s i+k)%S.n)=false:=by
 refine xP (L.slot g f b)<|xA3 fun l j _=>?_;unfold QS.empty;refine rE2 l j ?_;rcases Nat.eq_zero_or_pos k with rfl|h
 .by_cases e:s i+0=i
  .have d:=L.occ i g f;have c:(B i).isEmpty=false:=by
    cases c:B i with
    |nil=>rw[c]at b;simp at b
    |cons=>rfl
   rw[c]at d;refine rE e<|rE d ?_;rfl
  .have:(s i+0 != i)=true:=bS.mpr e;refine rE this ?_;simp
 .have:(k != 0)=true:=bS.mpr<|(la1 0x18230200044080261) h;refine rE this ?_;simp
theorem Lin.E8 (L:Lin S a B s)(f:a<=t) (d:t<a+S.n) (e:s t=t) (c:B t=[]):S.empty (t%S.n)=true:=by
 refine xP (L.gap t f d e c)<|xA2 fun h g=>have b:=L.occ t f d;?_;rw[c]at b;unfold QS.empty;exact rE3 h g b rfl
theorem Lin.Wq (L:Lin S a B s)(c:a<=q) (p:q<a+S.n) (b:s q<a+S.n):S.cont (s q%S.n)=false:=by
 have f:=L.ge c<|dI p;rcases L.cover (t:=s q) (dQ c f) b with⟨i,k,l,j,g,d⟩|⟨e,o⟩
 .refine xP (L.slot (i:=i) (k:=k) l (dM b j) g)<|xA3 fun m _ _=>?_;rw[<- d]at m;refine rE m<|T1 (U1 i q) (fun h=>?_) fun h=>?_
  .have:=L.mono l h<|(la4 0xe08c08c000202118120210002) b f;exact False.elim<|(la4 0x1609008808308001844084001c3) g d this
  .refine have:=L.Ot c h<|(la4 0xe08c08c000202118120210002) b j;have:k=0:=(la3 0x740440220200010420808022) d this;rE this ?_;rfl
 .exact (L.gap _ (by exact dQ c f) b e o).1
theorem Ez :S.nx (t%S.n)=(t+1)%S.n:=by
 unfold QS.nx;exact rE (Nat.mod_add_mod ..) rfl
theorem RD (h:0<t):S.pv (t%S.n)=(t-1)%S.n:=by
 unfold QS.pv;exact rE (Nat.mod_add_mod ..)<|have:=S.CR;rE (show t+(S.n-1)=t-1+S.n by exact (la4 0x54310d25429192662c909021260450900428c01100044c104200224) h this rfl rfl)<|rE (cV ..) rfl
end
theorem Lin.Yn (L:Lin S a B s)(c:a<=i) (e:i<a+S.n) (b:k<(B i).length):a<s i+k:=by
 have d:=L.ge c<|dI e;refine T1 (U1 a i) (fun h=>(la4 0x38230230004418020210012) d h) fun h=>?_
 .have:i=a:=dR c h;revert L;refine rS this fun L=>?_;rw[L.ba]at b;simp at b
theorem Lin.RE (L:Lin S a B s){J:Nat}(j:a<J) (b:J<a+S.n) (u:S.shf (J%S.n)=true):a<J-1/\S.empty ((J-1)%S.n)=false:=by
 rcases L.cover (t:=J) (dH j) b with⟨i,k,r,q,d,p⟩|⟨e,g⟩
 .have c:=(L.slot r (dM b q) d).2.1;rw[<- p,u]at c;have f:J≠i:=bS.mp c.symm;rcases L.cover (t:=J-1) (dp j rfl) (d8 b rfl)with⟨z,y,o,m,l,x⟩|⟨e,g⟩
  .have w:=L.Yn o ((la5 0x2b6c230109308290000202118120210013) b m rfl) l;have v:=L.nonempty o ((la5 0x2b6c230109308290000202118120210013) b m rfl) l;rw[<- x]at w v;exact⟨w,v⟩
  .exfalso;refine T1 (U1 i<|J-1) (fun h=>?_) fun h=>?_
   .have:=L.mono r h<|(la4 0x2ac08a0424c00a202118120210002) b rfl;exact (la6 0x156a90920424828a4020c205080801844084001c5) d p e this rfl
   .have:i=J-1:=(la3 0xe1090a168888a220e0400813092022800802000040024) q h rfl f;rw[this,g]at d;simp at d
 .have:=(L.gap J (dH j) b e g).2;rw[u]at this;exact xtf this
theorem Lin.Yo (L:Lin S a B s){J:Nat}(l:a<J) (b:J<a+S.n) (j:S.empty (J%S.n)=false) (o:S.shf (J%S.n)=false):s J=J/\B J≠[]:=by
 rcases L.cover (t:=J) (dH l) b with⟨i,k,h,m,d,g⟩|⟨e,f⟩
 .have c:=(L.slot h (dM b m) d).2.1;rw[<- g,o]at c;have p:J=i:=by
   by_cases e:J=i
   .exact e
   .rw [bS.mpr e]at c;exact xft c
  subst p;have:=L.ge h<|dI b;refine⟨(la3 0x560440200200800420840022) g this,fun f=>?_⟩;rw[f]at d;simp at d
 .rw [L.E8 (by exact dH l) b e f]at j;exact xtf j
theorem Lin.Nm (L:Lin S a B s)(d:a<=t) (c:t<a+S.n) (b:S.empty (t%S.n)=false):¬ (s t=t/\B t=[]):=fun h=>by
 rw[L.E8 d c h.1 h.2]at b;exact xtf b
noncomputable def qc (B:Nat->List Nat) (q:Nat):Nat->Int
 |0=>1
 |d+1=>qc B q d+(match(B<|q-(d+1)).isEmpty with|true=>0|false=>1)
theorem UA (B:Nat->List Nat) (q d:Nat):qc B q (d+1)=qc B q d+(match(B<|q-(d+1)).isEmpty with|true=>0|false=>1):=rfl
theorem RF (B:Nat->List Nat) (q:Nat):∀ d,1<=qc B q d
 |0=>Int.le_refl _
 |d+1=>by
  have:=RF B q d;rw[UA];cases(B<|q-(d+1)).isEmpty
  .exact ((lb01 0xc110101120c480284831) this:(1:Int)<=qc B q d+1)
  .exact ((lb01 0xc110101120c080284831) this:(1:Int)<=qc B q d+0)
theorem DS (h:b x=some (.go y)):loop b (k+1) x=loop b k y:=by
 show(match b x with|some (.go y)=>loop b k y|some (.out y)=>some (.next,y)|some (.ret a y)=>some (.ret a,y)|none=>none)=_;exact rE h rfl
theorem CW (h:b x=some (.out y)):loop b (k+1) x=some (.next,y):=by
 show(match b x with|some (.go y)=>loop b k y|some (.out y)=>some (.next,y)|some (.ret a y)=>some (.ret a,y)|none=>none)=_;exact rE h rfl
theorem RG (h:b x=some (.ret r y)):loop b (k+1) x=some (.ret r,y):=by
 show(match b x with|some (.go y)=>loop b k y|some (.out y)=>some (.next,y)|some (.ret a y)=>some (.ret a,y)|none=>none)=_;exact rE h rfl
theorem Lin.Wr (L:Lin S a B s){q:Nat}(r:q<a+S.n):∀ k J c,a<J->J<=q->J-a<=k->(∀ t,J<=t->t<=q->S.empty (t%S.n)=false)->c=(if J=q then 0 else qc B q (q-J-1))->
  ∃ i,a<i/\i<=q/\s i=i/\(∀ t,i<=t->t<=q->S.empty (t%S.n)=false)/\loop (sg1 S<|q%S.n) k (J%S.n,c)=some (.next,(i%S.n,qc B q<|q-i)):=by
 intro k;induction k with
 |zero=>intro J c d f o;exact False.elim<|(la3 0x26508a0400410a024004001c3) d o rfl
 |succ k x=>
  intro J c d f o g j;have m:J<a+S.n:=dM r f;have b:sg1 S (q%S.n) (J%S.n,c)=some (match S.shf (J%S.n)with
    |true=>.go (S.pv<|J%S.n,qc B q<|q-J)
    |false=>.out (J%S.n,qc B q<|q-J)):=by
   have z:cin (J%S.n==q%S.n ||S.occ (J%S.n)) c=qc B q (q-J):=by
    by_cases e:J=q
    .revert j;refine rS e fun j=>?_;rw[cA rfl]at j;exact rE2 j (cI ..)<|rE2 (Bool.true_or ..) (Nat.sub_self ..) rfl
    .rw [b5 e]at j;refine rE (b4.mpr fun h=>e<|Ca (by exact dH d) m (dN d f) r h)<|rE (Bool.false_or ..)<|rE (L.occ J (dH d) m)<|rE2 j (show q-J=(q-J-1)+1 by exact eQ f rfl rfl e)<|rE (UA ..)<|rE (show q-(q-J-1+1)=J from o19 f e)<|rE (show q-J-1+1-1=q-J-1 by exact (la2 0xac651080424488402840021) rfl) ?_;cases(B J).isEmpty
     .rfl
     .exact (Int.add_zero _).symm
   unfold sg1;dsimp only;refine rE2 (Ti<|bR _ S.CR) z ?_;try rfl
  refine bT (S.shf<|J%S.n) (fun l=>?_) fun l=>?_
  .refine xP (L.RE d m l)<|xA2 fun p w=>?_;have:=x (J-1) (qc B q<|q-J) p ((la3 0x2ac08a0424800a1040040002) f rfl) ((la6 0xa52c8110120114640880902160424c28a40a0052030428488440040004) o rfl rfl rfl) (fun t v u=>by
    refine T1 (U1 t J) (fun h=>rE (show t=J-1 by exact (la3 0x32856444301092022880010020040023) v h rfl) w) fun h=>?_
    .exact g t h u)<|iN (by exact (la4 0x922823810920028018110400400263) f p rfl)<|rE (show q-(J-1)-1=q-J from o20 d) rfl
   rw[DS (y:=(S.pv<|J%S.n,qc B q<|q-J))<|by rw[b,l],RD<|by exact (la2 0x1822020020400111) d];exact this
  .have:=L.Yo d m (g J (To _) f) l;exact⟨J,d,f,this.1,g,CW<|rE b<|rE l rfl⟩
theorem Lin.packed (L:Lin S a B s)(f:a<J) (e:q<a+S.n) (j:s J=J) (d:∀ t,J<=t->t<=q->S.empty (t%S.n)=false):∀{x},J<=x->x<q->s (x+1)=s x+(B x).length:=by
 intro x c b;refine have g:=L.ge (i:=x) (dN f c)<|(la4 0xe08c08c001202118120210002) e b;T1 (U1 x<|s x+(B x).length) (fun h=>(la5 0x137949a421c084a04404201281182720210940808084609e08084804c00220210023) (L.next x (dN f c)<|dT e b) h<|mxk _ _) fun h=>?_
 .exfalso;exact L.Nm (by exact dN f c) (by exact dT e b) (d x c<|dH b) ⟨(la3 0x1a8430210400200020040022) g h,(cX<|(la3 0x1e0430210008202020008022) g h)⟩
theorem Lin.Yp (L:Lin S a B s)(p:a<J) (o:q<a+S.n) (m:s J=J) (i:∀ t,J<=t->t<=q->S.empty (t%S.n)=false):∀ d x,q-x=d->J<=x->x<=q->
  ∃ c,x<=c/\c<=q/\(B c≠[]\/c=q)/\s c=s x/\qc B q (q-c)=qc B q (q-x):=by
 intro d;induction d with
 |zero=>intro x e h b;exact⟨x,To _,b,.inr<|(la3 0x226148a04381001042840000240840023) e b rfl,rfl,rfl⟩
 |succ d l=>
  intro x e h b;by_cases j:B x=[]
  .refine xE1 (l (x+1) (eH e rfl rfl) (dZ h)<|(la4 0xa8a08c0400410a126110210240202) e rfl) fun c=>xA5 fun g f v u r=>have k:=L.packed p o m i h<|(la3 0x38230210400809008040012) g f;?_;rw[j]at k;refine⟨c,(la2 0x608808409008040001) g,f,v,by refine rE u<|rE k ?_;rfl,?_⟩;exact rE r<|rE (show q-x=(q-(x+1))+1 by exact (la5 0x150c430048a46598026424088200142482402290180302482012210024) g f rfl rfl)<|rE (UA ..)<|rE (show q-(q-(x+1)+1)=x by exact (la5 0x188a82a1a68852120ce424084884610509408c00a30400809108040024) g f rfl rfl)<|rE j<|(Int.add_zero _).symm
  .exact ⟨x,To _,b,.inl j,rfl,rfl⟩
theorem RH :sg2 S (t%S.n,c)=some (match S.cont (t%S.n)with
  |false=>(match c==1 with|true=>.out (t%S.n,c)|false=>.go ((t+1)%S.n,c-1))
  |true=>.go ((t+1)%S.n,c)):=by
 unfold sg2;dsimp only;refine rE2 (Ti<|bR _ S.CR) Ez ?_;try rfl
theorem Lin.Wt (L:Lin S a B s)(m:a<J) (l:q<a+S.n) (H:s J=J) (u:∀ t,J<=t->t<=q->S.empty (t%S.n)=false) (r:s q<a+S.n):∀ k p c,a+S.n-p<=k->
  ((∃ x,J<=x/\x<=q/\p=s x/\c=qc B q (q-x))\/(∃ x j,J<=x/\x<q/\0<j/\j<(B x).length/\p=s x+j/\c=qc B q (q-x-1)))->
  ∃ R,loop (sg2 S) k (p%S.n,c)=some (.next,(s q%S.n,R)):=by
 intro k;induction k with
 |zero=>
  intro p c D h;exfalso;rcases h with⟨x,b,d,f,_⟩|⟨x,j,b,d,f,g,A,_⟩
  .have:=L.Ot (i:=x) (j:=q) (dN m b) d<|dI l;exact (la6 0x97350900480808462802805080809802021001c5) r D f this rfl
  .have:=L.mono (i:=x) (j:=q) (dN m b) d<|dI l;exact (la8 0x979b4248130202118a00a1c2040e13025080409802021001c6) r D g A this rfl
 |succ k K=>
  intro p c D h;rcases h with⟨x,b,d,f,g⟩|⟨x,j,b,d,f,g,A,I⟩
  .refine xE1 (L.Yp m l H u _ x rfl b d) fun y=>xA5 fun z o P O N=>?_;rw[<- O]at f;rw[<- N]at g;have F:S.cont (p%S.n)=false:=rE f<|L.Wq ((la4 0x78240210600c1002000440003) m b z) (dM l o)<|dM r<|L.Ot (i:=y) (j:=q) ((la4 0x78240210600c1002000440003) m b z) o<|dI l;by_cases e:y=q
   .subst e;rw[Nat.sub_self]at g;refine⟨c,?_⟩;rw[CW (y:=(p%S.n,c))<|by rw[RH,F,g];rfl,f]
   .have M:B y≠[]:=P.resolve_right e;have Q:0<(B y).length:=cG.mpr M;have v:c=qc B q (q-y-1)+1:=by
     refine rE g<|rE (show q-y=(q-y-1)+1 by exact eQ o rfl rfl e)<|rE (UA ..)<|rE (show q-(q-y-1+1)=y from o19 o e)<|bT ((B y).isEmpty) (fun w=>?_) fun w=>rfl
     .rw [List.isEmpty_iff]at w;exact(M w).elim
    have C:=RF B q<|q-y-1;have G:(c==1)=false:=b4.mpr<|(lb02 0xe04a04244831204a02a2401562) v C;rw[DS (y:=((p+1)%S.n,c-1))<|by rw[RH,F,G]];refine K (p+1) (c-1) ((la6 0x152c01460220084a8480c2014a10184428488440040003) D rfl rfl) ?_;by_cases E:(B y).length=1
    .exact .inl ⟨y+1,(la3 0x38230210400800012210002) b z,eA o e,(la4 0x1a6b0470212608c104208800210240223) f (L.packed m l H u (x:=y) (dQ b z)<|dh o e) E,rE (show q-(y+1)=q-y-1 by exact eR rfl rfl rfl)<|(lb02 0x5c10c08481280a891200b51) v⟩
    .exact .inr ⟨y,1,dQ b z,dh o e,la [] [] 0x20840848110<|by kernel_rfl,(la1 0x6610c08480260004400912) Q E,(la2 0x1704302100084884240221) f,(lb02 0x5c10c08481280a891200b51) v⟩
  .have F:S.cont (p%S.n)=true:=by
    exact rE A<|rE ((L.slot (by exact dN m b) (by exact dT l d) g).1)<|bS.mpr<|(la1 0x18230200044080261) f
   rw[DS (y:=((p+1)%S.n,c))<|by rw[RH,F]];refine K (p+1) c (by have:=L.Ot (i:=x+1) (j:=q) ((la3 0x38230210400800112210002) m b) (dU d)<|dI l;exact (la6 0x152c01460220084a8480c2014a10184428488440040003) D rfl rfl) ?_;by_cases E:j+1=(B x).length
   .exact .inl ⟨x+1,dZ b,dU d,(la5 0x1673047024024c224041082304100210240223) A (L.packed m l H u (x:=x) ((la2 0x1822021000040001) b)<|(la2 0x1822021000440011) d) E,rE (show q-(x+1)=q-x-1 by exact eR rfl rfl rfl) I⟩
   .exact .inr ⟨x,j+1,(la2 0x1822021000040001) b,(la2 0x1822021000440011) d,la1 0x8210212010110,(la2 0x3c10c0840900898400110240212) g E,(la3 0x170430220210021241084240221) A,I⟩
theorem Lin.RI (L:Lin S a B s){q:Nat}(f:a<=q) (c:q<a+S.n) (d:s q<a+S.n) (l:S.n<n):gsi S n (q%S.n)=some (s q%S.n):=by
 unfold gsi;refine bT (S.empty<|q%S.n) (fun b=>?_) fun b=>?_
 .rcases L.cover f c with⟨i,k,y,x,w,v⟩|⟨e,A⟩
  .exact have b:=(L.nonempty y (dM c x) w)▸v▸b;xft b
  .exact rE e rfl
 .have z:a<q:=by
   refine T1 (U1 a q) (fun h=>h) fun h=>?_
   .have:q=a:=dR f h;subst this;exact(L.Nm f c b ⟨L.sa,L.ba⟩).elim
  refine xE1 (L.Wr c n q 0 z (To _) ((la5 0xad808c0460800a10805018440440003) c l rfl) (fun t o m=>rE (show t=q by exact dR o m) b)<|iP rfl rfl) fun J=>xA5 fun j u g r p=>xE1 (L.Wt j c g r d n J (qc B q<|q-J) ((la5 0xad808c0480818402901811040440003) l j rfl)<|.inl ⟨J,To _,u,g.symm,rfl⟩) fun C=>fun e=>?_;dsimp only;refine rE p ?_;dsimp only;exact rE e rfl
theorem RJ :Me S r (p%S.n,t)=some (match S.empty (p%S.n)with
  |true=>.out (p%S.n,t)
  |false=>(match Ew (S.cont<|p%S.n) t==2 ||decide (r<S.rem (p%S.n))with
   |true=>.out (p%S.n,Ew (S.cont<|p%S.n) t)
   |false=>(match S.rem (p%S.n)==r with
    |true=>.ret (.v<|.int (p%S.n:Nat)) (p%S.n,Ew (S.cont<|p%S.n) t)
    |false=>.go ((p+1)%S.n,Ew (S.cont<|p%S.n) t)))):=by
 unfold Me;dsimp only;refine rE (Ti<|bR _ S.CR)<|rE Ez ?_;try rfl
theorem RK (b:S.empty (p%S.n)=true):Me S r (p%S.n,t)=some (.out (p%S.n,t)):=rE RJ<|rE b rfl
theorem RL (b:S.empty (p%S.n)=false):Me S r (p%S.n,t)=some (match Ew (S.cont<|p%S.n) t==2 ||decide (r<S.rem (p%S.n))with
   |true=>.out (p%S.n,Ew (S.cont<|p%S.n) t)
   |false=>(match S.rem (p%S.n)==r with
    |true=>.ret (.v<|.int (p%S.n:Nat)) (p%S.n,Ew (S.cont<|p%S.n) t)
    |false=>.go ((p+1)%S.n,Ew (S.cont<|p%S.n) t))):=by
 exact rE RJ<|rE b rfl;try rfl
theorem Lin.Wu (L:Lin S a B s){r:Nat}(u:a<=q) (E:q<a+S.n) (Y:B q≠[]):∀ k j,(B q).length-j<k->j<=(B q).length->(∀ i x,i<j->(B q)[i]?=some x->x<r)->
  (∃ i,(B q)[i]?=some r/\∃ y,loop (Me S r) k ((s q+j)%S.n,if j=0 then 0 else 1)=some (.ret<|.v<|.int ((s q+i)%S.n:Nat),y))\/
  (r∉B q/\∃ y,loop (Me S r) k ((s q+j)%S.n,if j=0 then 0 else 1)=some (.next,y)):=by
 have l:=L.mono u (j:=a+S.n) (dt E)<|To _;replace l:=L.top▸l;intro k;induction k with
 |zero=>intro j O;exact False.elim<|da O
 |succ k V=>
  refine fun j O X C=>T1 (U1 j (B q).length) (fun h=>?_) fun h=>?_
  .have e:(B q)[j]?=some ((B q)[j]):=cB h;refine xP (L.run q j _ u E e)<|xA3 fun c1 c2 Z=>?_;have H:=L.nonempty u E h;have W:Ew (S.cont<|(s q+j)%S.n) (if j=0 then 0 else 1)=1:=by
    refine rE c1 ?_;rcases Nat.eq_zero_or_pos j with rfl|D
    .rfl
    .refine iN (by exact (la1 0x18230200044080261) D)<|rE (show(j != 0)=true from bS.mpr ((la1 0x18230200044080261) D)) ?_;rfl
   have b:=RL (r:=r) (t:=if j=0 then 0 else 1) H;replace b:=Z▸W▸b;by_cases w:r<(B q)[j]
   .right;replace b:=(Ti w)▸b;refine⟨fun M=>xE1 (List.mem_iff_getElem?.mp M) fun i=>fun m=>?_,_,CW b⟩;rcases cC i j with g|g|g
    .have:=C i r g m;exact (la1 0x2084080001c1) this
    .subst g;replace m:=e▸m;(have z:=so m;revert w;refine rS z ?_;intro w);exact (la1 0x2084080001c1) w
    .obtain ⟨Q,P⟩:=bY.mp m;have:=List.pairwise_iff_getElem.mp (L.srt q u E) j i h Q g;exact (la3 0x16090088081004084001c3) w P this
   .replace b:=(bK w)▸b;by_cases o:(B q)[j]=r
    .left;rw[o,cI]at b;exact⟨j,rE e<|rE o rfl,_,RG b⟩
    .replace b:=(b4.mpr o)▸b;refine rE (DS b) ?_;have:=V (j+1) ((la5 0x545a606030890212612001461010a40604488440440014) O h rfl rfl) (dU h) (fun i x m c=>by
      refine T1 (U1 i j) (fun T=>C i x T c) fun T=>?_
      .have:i=j:=(la2 0x170430200200488400440022) m T;subst this;replace c:=e▸c;(have z:=so c;clear c;subst z);exact (la2 0x3c10c084002600205840012) w o)
     replace this:=(b5<|show¬ j+1=0 by exact la1 0x82202022402260)▸this;exact this
  .have d:j=(B q).length:=dq X h;right;refine⟨fun M=>?_,?_⟩
   .exact xE1 (List.mem_iff_getElem?.mp M) fun i=>fun m=>have:=C i r (by have:=(bY.mp m).1;exact (la3 0x1c0900880012020840012) d this) m;(la1 0x2084080001c1) this
   .refine rE (b5<|by exact (la2 0x1a09408400210044080262) (cG.mpr Y) d)<|T1 (U1 (s q+j)<|a+S.n) (fun p=>?_) fun p=>?_
    .have A:=L.ge u<|dI E;rcases L.cover (t:=s q+j) (eB u A) p with⟨i,U,K,J,G,F⟩|⟨e,R⟩
     .have N:U=0:=by
       rcases cC i q with f|f|f
       .have:=L.mono K f<|(la5 0x38230230000808480c2120210002) p A;exact (la5 0x2e01140880840800204608221000408023) G F this
       .subst f;exact (la4 0x1b004602006110308841021000408023) G d F
       .have:=L.mono u f<|(la5 0xe08c090184000808480c2120210002) p J;exact (la5 0x1cc0118090103080020420c222020808023) d F this
      have H:=L.nonempty K ((la5 0xe08c090184000808480c2120210012) p J) G;have I:=(L.slot K ((la5 0xe08c090184000808480c2120210012) p J) G).1;rw[<- F]at H I;replace I:=N▸I;have b:=RL (r:=r) (t:=1) H;replace b:=I▸b;exact⟨_,CW b⟩
     .exact ⟨_,CW<|RK (r:=r) (t:=1)<|L.E8 (eB u A) p e R⟩
    .exact have:(s q+j)%S.n=a%S.n:=rE (show s q+j=a+S.n by exact (la5 0x13c04502100118208100823041200080c104200223) l d p)<|rE (cV ..) rfl;rE this ⟨_,CW<|RK (r:=r) (t:=1)<|L.E8 (To _) (by have:=S.CR;exact du this) L.sa L.ba⟩
theorem Lin.Nn (L:Lin S a B s)(c:a<=q) (d:q<a+S.n) (p:S.n+1<n) :
  (∃ k,(B q)[k]?=some r/\cal S n (q%S.n) r=some (((s q+k)%S.n:Nat):Int))\/(r∉B q/\cal S n (q%S.n) r=some (-1)):=by
 unfold cal;have o:=L.occ q c d;by_cases f:B q=[]
 .right;exact rE o<|rE f ⟨by simp,rfl⟩
 .have m:(B q).isEmpty=false:=by
   cases h:B q with
   |nil=>exact(f h).elim
   |cons=>rfl
  refine have b:=L.mono c (j:=a+S.n) (dt d)<|To _;have b:=L.top▸b;?_;refine have l:=L.ge c<|dI d;rE o<|rE m<|rE (L.RI c d ((la4 0x3823022021180080c01120210012) (cG.mpr f) b)<|by exact (la2 0x608808409008440011) p) ?_;dsimp only;rcases L.Wu (r:=r) c d f n 0 ((la4 0xad908c0404c00a20600409208440013) p ((la5 0x782402406004104010203040040003) c b l) rfl) (cO _) (fun i x g=>False.elim<|da g)with⟨i,g,y,e⟩|⟨hm,y,e⟩
  .left;refine⟨i,g,have e:=(Nat.add_zero ..)▸(cA rfl)▸e;?_⟩;refine rE e ?_;try rfl
  .right;refine⟨hm,have e:=(Nat.add_zero ..)▸(cA rfl)▸e;?_⟩;refine rE e ?_;try rfl
theorem A9 {t u:Nat}(f:Nat->Bool) (v:Bool) (c:a<=t/\t<a+N) (b:a<=u/\u<a+N):Cn f (u%N) v (t%N)=if t=u then v else f (t%N):=by
 unfold Cn;by_cases e:t=u
 .exact iP e<|rE e<|iP rfl rfl
 .exact iN e<|iN (fun h=>e<|Ca c.1 c.2 b.1 b.2 h) rfl
theorem DZ {t u:Nat}(f:Nat->Nat) (v:Nat) (c:a<=t/\t<a+N) (b:a<=u/\u<a+N):FN f (u%N) v (t%N)=if t=u then v else f (t%N):=by
 unfold FN;by_cases e:t=u
 .exact iP e<|rE e<|iP rfl rfl
 .exact iN e<|iN (fun h=>e<|Ca c.1 c.2 b.1 b.2 h) rfl
structure FI (S T:QS):Prop where
 q:T.q=S.q
 cnt:T.cnt=S.cnt
 auto:T.auto=S.auto
 hf:T.hf=S.hf
theorem FI.n (h:FI S T):T.n=S.n:=(rE h.q rfl:2^T.q=2^S.q)
structure Sh (S T:QS) (a p j:Nat):Prop where
 same:FI S T
 occ:T.occ=S.occ
 cont:∀ t,a<=t/\t<a+S.n->T.cont (t%S.n)=if t=p then S.cont ((j-1)%S.n)else if p<t/\t<j then S.cont ((t-1)%S.n)else S.cont (t%S.n)
 shf:∀ t,a<=t/\t<a+S.n->T.shf (t%S.n)=if p<t/\t<j then true else S.shf (t%S.n)
 rem:∀ t,a<=t/\t<a+S.n->T.rem (t%S.n)=if t=p then S.rem ((j-1)%S.n)else if p<t/\t<j then S.rem ((t-1)%S.n)else S.rem (t%S.n)
theorem Sh.start :Sh S S a p (p+1):=by
 refine⟨⟨rfl,rfl,rfl,rfl⟩,rfl,fun t b=>?_,fun t b=>iN (by exact la2 0x60880848042044001760) rfl,fun t b=>?_⟩
 .by_cases e:t=p
  .exact iP e<|rE e rfl
  .exact iN e<|iN (by exact la2 0x60880848042044001760) rfl
 .by_cases e:t=p
  .exact iP e<|rE e rfl
  .exact iN e<|iN (by exact la2 0x60880848042044001760) rfl
theorem RM {c:Type}(i:p<j){x y:c}{f:Nat->c}{N:Nat}(h:x=f (j%N)) (g:y=f ((j-1)%N)){z:c}(d:z=if t=p then f ((j-1)%N)else if p<t/\t<j then f ((t-1)%N)else f (t%N)) :
  (if t=p then x else if t=j then y else z)=if t=p then f ((j+1-1)%N)else if p<t/\t<j+1 then f ((t-1)%N)else f (t%N):=by
 by_cases e:t=p
 .exact iP e<|iP e<|rE h rfl
 .refine iN e<|iN e ?_;by_cases a:t=j
  .exact iP a<|iP (by exact (la3 0x15a110088082200044904204400172) i a)<|rE g<|rE a rfl
  .refine iN a<|rE d<|iN e ?_;by_cases b:p<t/\t<j
   .exact iP b<|iP (by exact (la3 0x6a10c08808110005c4904204400171) b) rfl
   .exact iN b<|iN (by exact (la3 0x51aa88402202098808110005d849042044001762) b a) rfl
theorem Sh.step (h:Sh S T a p j) (i:a<=p) (b:p<j) (k:j<a+S.n):Sh S (T.sh1 (p%S.n)<|j%S.n) a p (j+1):=by
 have d:a<=j/\j<a+S.n:=(la4 0x1961100880042044181300008004204400073) i b k;have f:a<=p/\p<a+S.n:=(la4 0x1a884502200118130001cc081100008004204400073) i b d;refine⟨⟨h.same.q,h.same.cnt,h.same.auto,h.same.hf⟩,h.occ,fun t c=>(rE (A9 _ _ c f) (rE (A9 _ _ c d)<|RM b (by exact rE (h.cont j d)<|iN (by exact dS b)<|iN (by exact la2 0x102202102044001760) rfl) (by exact rE (h.cont p f)<|iP rfl rfl)<|h.cont t c):Cn (Cn T.cont (j%S.n)<|T.cont<|p%S.n) (p%S.n) (T.cont<|j%S.n) (t%S.n)=_),fun t c=>?_,fun t c=>(rE (DZ _ _ c f) (rE (DZ _ _ c d)<|RM b (by exact rE (h.rem j d)<|iN (by exact dS b)<|iN (by exact la2 0x102202102044001760) rfl) (by exact rE (h.rem p f)<|iP rfl rfl)<|h.rem t c):FN (FN T.rem (j%S.n)<|T.rem<|p%S.n) (p%S.n) (T.rem<|j%S.n) (t%S.n)=_)⟩
 .refine (rE (A9 _ _ c d) (rE (h.shf t c) ?_):Cn T.shf (j%S.n) true (t%S.n)=_);by_cases e:t=j
  .exact iP e<|iP (by exact (la3 0x15a110088082200044904204400172) b e) rfl
  .refine iN e ?_;by_cases g:p<t/\t<j
   .exact iP g<|iP (by exact (la3 0x6a10c08808110005c4904204400171) g) rfl
   .exact iN g<|iN (by exact (la3 0x51aa88402202098808110005d849042044001762) g e) rfl
theorem Sh.empty (h:Sh S T a p j) (b:a<=t/\t<a+S.n) (d:p<t) (c:j<=t):T.empty (t%S.n)=S.empty (t%S.n):=by
 unfold QS.empty;exact rE h.occ<|rE (h.cont t b)<|rE (h.shf t b)<|iN (by exact dS d)<|iN (by exact (la3 0xa08c084100202044001761) c)<|iN (by exact (la3 0xa08c084100202044001761) c) rfl
theorem Wv {p g:Nat}(l:a<=p) (m:g<a+S.n) (u:S.n<=1000) (i:∀ t,p<t->t<g->S.empty (t%S.n)=false) (b:S.empty (g%S.n)=true) :
  ∀ k j T y z,Sh S T a p j->p<j->j<=g->g-j<k->∃ r w,loop (T9 (p%S.n) S.n) k (T,j%S.n,y,z)=some (.next,(r,w))/\Sh S r a p (g+1):=by
 intro k;induction k with
 |zero=>intro j T y z _ _ _ h;exact False.elim<|da h
 |succ k s=>
  intro j T y z h d c x;have o:=h.same.n;have f:T9 (p%S.n) S.n (T,j%S.n,y,z)=some (match S.empty (j%S.n)with
    |true=>.out (T.sh1 (p%S.n)<|j%S.n,j%S.n,some<|.v<|.bool true,some<|.v<|.int<|T.rem<|j%S.n)
    |false=>.go (T.sh1 (p%S.n)<|j%S.n,(j+1)%S.n,some<|.v<|.bool false,some<|.v<|.int<|T.rem<|j%S.n)):=by
   have e:=h.empty (t:=j) ((la5 0x1aa845024020041812001201300008004204400074) l m d c) d<|To _;have A:T.nx (j%S.n)=(j+1)%S.n:=rS o Ez;unfold T9;dsimp only;refine rE (Ti ⟨o,bR _ S.CR,bR _ S.CR,u⟩)<|rE e<|rE A ?_;try rfl
  have q:=h.step l d<|dM m c;by_cases e:j=g
  .revert b;refine rS e fun b=>?_;rw[b]at f;exact⟨_,_,CW f,q⟩
  .rw [i j d<|dh c e]at f;exact rE (DS f)<|s (j+1) _ _ _ q (dW d) (eA c e)<|(la5 0x1294a440ba40a0282088842808c102612411801440c20a12212013040040015) c x rfl rfl e
structure Ins (S S':QS) (a q r o p g f:Nat):Prop where
 same:FI S S'
 occ:∀ t,a<=t/\t<a+S.n->S'.occ (t%S.n)=if t=q then true else S.occ (t%S.n)
 cont:∀ t,a<=t/\t<a+S.n->S'.cont (t%S.n)=if t=p then(p != o)else if p<t/\t<=g then(if f=1/\t=p+1 then true else S.cont ((t-1)%S.n))else S.cont (t%S.n)
 shf:∀ t,a<=t/\t<a+S.n->S'.shf (t%S.n)=if t=p then(p != q)else if p<t/\t<=g then true else S.shf (t%S.n)
 rem:∀ t,a<=t/\t<a+S.n->S'.rem (t%S.n)=if t=p then r else if p<t/\t<=g then S.rem ((t-1)%S.n)else S.rem (t%S.n)
theorem LW {t u:Nat}(c:a<=t/\t<a+N) (b:a<=u/\u<a+N):(t%N != u%N)=(t != u):=by
 rw[cF,bS,bS];exact⟨fun h e=>h<|rE e rfl,fun h e=>h<|Ca c.1 c.2 b.1 b.2 e⟩
theorem Ww (x:a<=q/\q<a+S.n) (E:a<=o/\o<a+S.n) (D:a<=p) (s:p<=g) (y:g<a+S.n) (I:S.n<=1000) (u:∀ t,p<=t->t<g->S.empty (t%S.n)=false) (v:S.empty (g%S.n)=true) (J:S.n<n) :
  ∃ F,S.shi n (q%S.n) r (o%S.n) (p%S.n) f=some F/\Ins S F a q r o p g f:=by
 have i:a<=p/\p<a+S.n:=(la4 0x1d2110088004604c080100008004204400073) D s y;unfold QS.shi;refine T1 (U1 p g) (fun h=>?_) fun h=>?_
 .refine rE (u p (To _) h) ?_;dsimp only;refine xE2 (Wv D y I (fun t H G=>u t (dH H) G) v n (p+1) S none none Sh.start (de) (dU h)<|(la6 0xa762090042542200290184a054180710805018440440014) y J i rfl) fun T w=>xA2 fun e l=>rE Ez<|rE e ?_;dsimp only;refine rE (Ti l.same.n) ?_;dsimp only;have k:=l.same;have m:∀ t,a<=t/\t<a+S.n->(T.put (q%S.n) r (o%S.n)<|p%S.n).cont (t%S.n)=if t=p then(p != o)else if p<t/\t<=g then S.cont ((t-1)%S.n)else S.cont (t%S.n):=by
   intro t d;refine(rE (A9 _ _ d i) (rE (LW i E)<|rE (l.cont t d) ?_):Cn T.cont (p%S.n) (p%S.n != o%S.n) (t%S.n)=_);by_cases b:t=p
   .exact iP b<|iP b rfl
   .refine iN b<|iN b<|iN b ?_;by_cases c:p<t/\t<=g
    .exact iP c<|iP (by exact (la3 0x6a10c08808010005c4904204400171) c) rfl
    .exact iN c<|iN (by exact eI c) rfl
  have C:∀ t,a<=t/\t<a+S.n->Cn T.occ (q%S.n) true (t%S.n)=if t=q then true else S.occ (t%S.n):=by
   exact fun t d=>rE (A9 _ _ d x)<|rE l.occ rfl
  have A:∀ t,a<=t/\t<a+S.n->Cn T.shf (p%S.n) (p%S.n != q%S.n) (t%S.n)=if t=p then(p != q)else if p<t/\t<=g then true else S.shf (t%S.n):=by
   refine fun t d=>rE (A9 _ _ d i)<|rE (LW i x)<|rE (l.shf t d) ?_;by_cases b:t=p
   .exact iP b<|iP b rfl
   .refine iN b<|iN b ?_;by_cases c:p<t/\t<=g
    .exact iP c<|iP (by exact (la3 0x6a10c08808010005c4904204400171) c) rfl
    .exact iN c<|iN (by exact eI c) rfl
  have B:∀ t,a<=t/\t<a+S.n->FN T.rem (p%S.n) r (t%S.n)=if t=p then r else if p<t/\t<=g then S.rem ((t-1)%S.n)else S.rem (t%S.n):=by
   refine fun t d=>rE (DZ _ _ d i)<|rE (l.rem t d) ?_;by_cases b:t=p
   .exact iP b<|iP b rfl
   .refine iN b<|iN b<|iN b ?_;by_cases c:p<t/\t<=g
    .exact iP c<|iP (by exact (la3 0x6a10c08808010005c4904204400171) c) rfl
    .exact iN c<|iN (by exact eI c) rfl
  by_cases z:f=1
  .refine rE z ⟨_,rfl,⟨k.q,k.cnt,k.auto,k.hf⟩,C,fun t d=>(rE (A9 _ _ d<|by exact (la4 0x66411408c081200108110001c8004604800424421122100073) y i h) (rE (m t d) ?_):Cn (T.put (q%S.n) r (o%S.n)<|p%S.n).cont ((p+1)%S.n) true (t%S.n)=_),A,B⟩;by_cases b:t=p+1
   .exact iP b<|iN (by exact (la2 0xc090084884008400261) b)<|iP (by exact (la3 0x178110084804208800120200400172) h b)<|iP ⟨rfl,b⟩ rfl
   .refine iN b ?_;by_cases c:t=p
    .exact iP c<|iP c rfl
    .refine iN c<|iN c ?_;by_cases j:p<t/\t<=g
     .exact iP j<|iP j<|iN (fun h=>b h.2) rfl
     .exact iN j<|iN j rfl
  .refine rE (b4.mpr z) ⟨_,rfl,⟨k.q,k.cnt,k.auto,k.hf⟩,C,fun t d=>rE (m t d) ?_,A,B⟩;by_cases c:t=p
   .exact iP c<|iP c rfl
   .refine iN c<|iN c ?_;by_cases j:p<t/\t<=g
    .exact iP j<|iP j<|iN (fun h=>z h.1) rfl
    .exact iN j<|iN j rfl
 .have:g=p:=dR s h;revert i;refine rS this fun i=>rE v ⟨_,rfl,⟨rfl,rfl,rfl,rfl⟩,fun t d=>A9 _ _ d x,fun t d=>?_,fun t d=>?_,fun t d=>?_⟩
  .refine (rE (A9 _ _ d i) (rE (LW i E) ?_):Cn S.cont (g%S.n) (g%S.n != o%S.n) (t%S.n)=_);by_cases b:t=g
   .exact iP b<|iP b rfl
   .exact iN b<|iN b<|iN (by exact di) rfl
  .refine (rE (A9 _ _ d i) (rE (LW i x) ?_):Cn S.shf (g%S.n) (g%S.n != q%S.n) (t%S.n)=_);by_cases b:t=g
   .exact iP b<|iP b rfl
   .exact iN b<|iN b<|iN (by exact di) rfl
  .refine (rE (DZ _ _ d i) ?_:FN S.rem (g%S.n) r (t%S.n)=_);by_cases b:t=g
   .exact iP b<|iP b rfl
   .exact iN b<|iN b<|iN (by exact di) rfl
noncomputable def HX (l:List Nat) (k r:Nat):List Nat:=l.take k++r::l.drop k
theorem JP (h:k<=l.length):(HX l k r).length=l.length+1:=by
 simp[HX];exact (la4 0xab098a2a389aaa20e0460808a304008002720600c002781241091080222) (mnk _ _) rfl
theorem RN {k r:Nat}(h:k<=l.length):(HX l k r)[j]?=if j<k then l[j]? else if j=k then some r else l[j-1]?:=by
 unfold HX;by_cases a:j<k
 .exact iP a<|rE (List.getElem?_append_left<|by simp;exact (la4 0x15d411808818030209cc10020209e080013040040013) h a<|mnk _ _)<|rE (List.getElem?_take_of_lt a) rfl
 .refine iN a<|rE (List.getElem?_append_right<|by simp;exact (la4 0x1b98450220600c00273040080027820205840002) a<|mnk _ _) ?_;have e:(l.take k).length=k:=by simp;exact (la3 0x6ab2a085021040080027202004002782020040022) h<|mnk _ _
  refine rE e ?_;by_cases b:j=k
  .exact iP b<|rE b<|rE (Nat.sub_self ..) rfl
  .refine iN b<|rE (show j-k=(j-k-1)+1 by exact (la4 0x108824220850421050882722088228140844282408c10263040050900228c101612210024) a rfl rfl b)<|rE List.getElem?_cons_succ<|rE List.getElem?_drop ?_;congr 1;exact o21 a b
theorem RO (h:k<=l.length) (n:l.Pairwise (·< ·)) (g:∀ i x,i<k->l[i]?=some x->x<r) (d:∀ i x,k<=i->l[i]?=some x->r<x):(HX l k r).Pairwise (·< ·):=by
 unfold HX;rw[List.pairwise_append];refine⟨n.sublist<|List.take_sublist ..,List.pairwise_cons.mpr ⟨fun x f=>?_,n.sublist<|List.drop_sublist ..⟩,fun x f y e=>?_⟩
 .refine xE1 (List.mem_iff_getElem?.mp f) fun i=>fun a=>?_;replace a:=List.getElem?_drop▸a;exact d _ x (Nat.le_add_right ..) a
 .refine xE1 (List.mem_iff_getElem?.mp f) fun i=>fun a=>?_;have c:i<k:=by
   have:=(bY.mp a).1;simp at this;exact (la4 0x1b98450210600c1027302004102782000440012) this<|mnk _ _
  replace a:=(List.getElem?_take_of_lt c)▸a;have b:=g i x c a;refine mC e b fun e=>?_
  .refine xE1 (List.mem_iff_getElem?.mp e) fun j=>fun m=>?_;replace m:=List.getElem?_drop▸m;have:=d _ y (Nat.le_add_right ..) m;exact (la3 0xe08c0841012000440012) b this
theorem RP :x∈HX l k r↔x=r\/x∈l:=by
 unfold HX;rw[X1,bM];constructor
 .rintro (h|h|h)
  .exact .inr<|List.mem_of_mem_take h
  .exact .inl h
  .exact .inr<|List.mem_of_mem_drop h
 .rintro (h|h)
  .exact .inr<|.inl h
  .rw [<- List.take_append_drop k l,X1]at h;exact T1 h (fun h=>.inl h) fun h=>.inr<|.inr h
noncomputable def setB (B:Nat->List Nat) (q:Nat) (l:List Nat):Nat->List Nat:=fun i=>if i=q then l else B i
noncomputable def upS (s:Nat->Nat) (q g:Nat):Nat->Nat:=fun i=>if q<i/\i<=g then s i+1 else s i
theorem Lin.full (L:Lin S a B s)(e:a<=q) (j:g<a+S.n) (f:∀ t,q<=t->t<g->S.empty (t%S.n)=false)(d:q<=x) (c:x<g):s (x+1)=s x+(B x).length/\x+1<=s x+(B x).length:=by
 have k:=L.ge (i:=x) (dQ e d)<|(la4 0xe08c08c001202118120210002) j c;refine T1 (U1 x<|s x+(B x).length) (fun h=>(la5 0x1126f2892690c70212611010804984809c808424c20202120278202118140008808424c20202100273) (L.next x (dQ e d)<|dT j c) h<|mxk _ _) fun h=>?_
 .exfalso;exact L.Nm (by exact dQ e d) (by exact dT j c) (f x d c) ⟨(la3 0x1a8430210400200020040022) k h,(cX<|(la3 0x1e0430210008202020008022) k h)⟩
theorem Lin.ins (L:Lin S a B s){q r k g:Nat}(K:a<q) (aa:q<=g) (J:g<a+S.n) (d:s g=g/\B g=[]) (ab:∀ t,q<=t->t<g->S.empty (t%S.n)=false)
  (D:k<=(B q).length) (af:∀ i x,i<k->(B q)[i]?=some x->x<r) (ag:∀ i x,k<=i->(B q)[i]?=some x->r<x) (hf:f=1↔k<(B q).length) (I:Ins S b a q r (s q) (s q+k) g f) :
  Lin b a (setB B q<|HX (B q) k r) (upS s q g):=by
 have hN:=I.same.n;have y:=L.ge (i:=q) (dH K)<|(la4 0xe08c088084604c00020210002) aa J;have l:s q+(B q).length<=g:=by
  refine T1 (U1 q g) (fun h=>?_) fun h=>?_
  .have:=L.mono (i:=q) (dH K) h<|dI J;exact bW this<|Nat.le_of_eq d.1
  .have:q=g:=dq aa h;revert d;refine rS this fun d=>rE d.2<|rE d.1 ?_;simp
 have U:∀ i,i<=q->upS s q g i=s i:=fun i h=>b5 (by exact (la3 0x608c080080202004001761) h);have sm:∀ i,q<i->i<=g->upS s q g i=s i+1:=fun i h h'=>cA ⟨h,h'⟩;have T:∀ i,g<i->upS s q g i=s i:=fun i h=>b5 (by exact (la3 0xa08c084101202004001761) h);have R:∀ i,i≠q->setB B q (HX (B q) k r) i=B i:=fun i h=>b5 h;have bq:setB B q (HX (B q) k r) q=HX (B q) k r:=cA rfl;refine⟨rE (U a<|dH K) L.sa,rE (R a<|dX K) L.ba,?_,rE hN<|rE (T (a+S.n) J) L.top,?_,?_,?_,?_⟩
 .intro i u m;replace m:=hN▸m;have G:=L.next i u m;rcases cC i q with h|h|h
  .exact rE (U i<|dH h)<|rE (U (i+1)<|dU h)<|rE (R i<|dX h) G
  .subst h;refine rE (U i<|To _)<|rE bq<|rE (JP D)<|T1 (U1 i g) (fun c=>?_) fun c=>?_
   .exact rE (sm (i+1) (de)<|dU c)<|have:=L.full (by exact dH K) J ab (To _) c;(la5 0x244946508702128109308820128108271261104250201261104209e0c104250203041002710240222) this<|mxk _ _
   .refine rE (T (i+1)<|(la2 0x608808400012210011) c)<|have:i=g:=(la4 0x17811008008010608202000040023) y l c;?_;subst this;refine have G:=d.1▸d.2▸G;rE d.2<|rE d.1 ?_;simp at G ⊢;exact (la2 0x1704302122100212210021) G
  .refine rE (R i<|dS h) ?_;rcases cC i g with c|c|c
   .exact rE (sm i h<|dH c)<|rE (sm (i+1) (dW h)<|dU c)<|have:=L.full (x:=i) (by exact dH K) J ab (dH h) c;(la5 0x244946508702128118124120128108273024824250203024824209e0c104250203041002710240222) this<|mxk _ _
   .subst c;refine rE (sm i h<|To _)<|rE (T (i+1)<|de)<|have G:=d.1▸d.2▸G;rE d.2<|rE d.1 ?_;simp at G ⊢;exact (la2 0x1704302122100212210021) G
   .exact rE (T i c)<|rE (T (i+1)<|dW c) G
 .intro i u m;rw[hN]at m ⊢;refine rE (I.occ i ⟨u,m⟩) ?_;by_cases h:i=q
  .refine iP h<|rE h<|rE bq ?_;cases hi:HX (B q) k r with
   |nil=>have:=JP (r:=r) D;replace this:=hi▸this;simp at this
   |cons=>rfl
  .exact iN h<|rE (R i h)<|L.occ i u m
 .intro i j x u m p;rw[hN]at m ⊢;rcases cC i q with h|h|h
  .exact have p:=(R i<|dX h)▸p;have w:=(bY.mp p).1;have H:=L.mono u h<|(la6 0x1e09008c2840810000202118120210003) J y l;have o:=L.inW u m w;rE (U i<|dH h)<|xP (L.run i j x u m p)<|xA3 fun P Z O=>rE (I.cont _ o)<|rE (I.shf _ o)<|rE (I.rem _ o)<|iN (by exact (la5 0x582402208002040204c1042002262) w H)<|iN (by exact eJ w H)<|iN (by exact (la5 0x582402208002040204c1042002262) w H)<|iN (by exact eJ w H)<|iN (by exact (la5 0x582402208002040204c1042002262) w H)<|iN (by exact eJ w H) ⟨P,Z,O⟩
  .subst h;replace p:=(RN D)▸bq▸p;refine rE (U i<|To _) ?_;by_cases v:j<k
   .replace p:=(cA v)▸p;exact have w:=(bY.mp p).1;have o:=L.inW u m w;xP (L.run i j x u m p)<|xA3 fun P Z O=>rE (I.cont _ o)<|rE (I.shf _ o)<|rE (I.rem _ o)<|iN (by exact (la3 0x2823022020480042002261) v)<|iN (by exact (la4 0x18230210404c100080800420021761) v)<|iN (by exact (la3 0x2823022020480042002261) v)<|iN (by exact (la4 0x18230210404c100080800420021761) v)<|iN (by exact (la3 0x2823022020480042002261) v)<|iN (by exact (la4 0x18230210404c100080800420021761) v) ⟨P,Z,O⟩
   .replace p:=(b5 v)▸p;by_cases E:j=k
    .subst E;replace p:=(cA rfl)▸p;have z:=so p;clear p;subst z;refine have o:a<=s i+j/\s i+j<a+S.n:=(la7 0x73304602604010301080428050004c004804c00440421202100075) J K y l D;rE (I.cont _ o)<|rE (I.shf _ o)<|rE (I.rem _ o)<|iP rfl<|iP rfl<|iP rfl ⟨?_,rfl,rfl⟩;rw[cF,bS,bS];exact⟨fun h=>(la2 0x3210c0840010898080261) h,fun h=>(la2 0x3210c0808826002002261) h⟩
    .replace p:=(b5 E)▸p;refine have w:=(bY.mp p).1;have o:a<=s i+j/\s i+j<a+S.n:=(la8 0xccc1972861120424838a60e050301080428050004c004804c00440421202100076) J K y l w rfl;xP (L.run i (j-1) x u m p) (xA3 fun P Z O=>have e:s i+(j-1)=s i+j-1:=(la5 0x4a2888140ba1284120a490841421c88821222090240609849811424c0044290181620200224) v rfl rfl E;?_);rw[e]at P Z O;refine have C:=I.cont _ o;have F:=I.shf _ o;have M:=I.rem _ o;have n1:¬ s i+j=s i+k:=(la3 0xe8430220209880042002261) E;have Q:s i+k<s i+j/\s i+j<=g:=(la6 0xa5c042424d60222221004208130920a290281104058c200080c10008080042002175) l v w rfl E;?_;rw[b5 n1,cA Q]at C F M;refine rE C<|rE F<|rE M<|rE O ⟨rE (show(j != 0)=true from bS.mpr ((la4 0x28240230004200021101085c080261) Q)) ?_,(bS.mpr<|by exact (la5 0x58250240200201001180085c0100202002262) y Q).symm,rfl⟩;by_cases hz:f=1/\s i+j=s i+k+1
     .exact iP hz rfl
     .exact iN hz<|rE P<|bS.mpr fun h0=>hz ⟨hf.mpr<|(la6 0xc6ac238109404294203081018400c2171040440013) w Q rfl,(la5 0xc48150411100424420a02808c08008040044002171240024200223) Q h0 rfl⟩
  .refine have p:=(R i<|dS h)▸p;have w:=(bY.mp p).1;have o:=L.inW u m w;have H:=L.mono (i:=q) (dH K) h<|dI m;xP (L.run i j x u m p)<|xA3 fun P Z O=>have A:=L.ge u<|dI m;?_;rcases cC i g with c|c|c
   .refine have ae:=L.mono (i:=i) u c<|dI J;rE (sm i h<|dH c)<|have V:a<=s i+1+j/\s i+1+j<a+S.n:=⟨(la4 0x28230230011010848084001c8091090001) o,o22 w ae d.1 J⟩;have e:s i+1+j-1=s i+j:=(la3 0xac65108042480910900a20210021) rfl;have C:=I.cont _ V;have F:=I.shf _ V;have M:=I.rem _ V;have n1:¬ s i+1+j=s q+k:=(la5 0xe090080202081018030410812012262) D H;have Q:s q+k<s i+1+j/\s i+1+j<=g:=⟨(la5 0xe08c08820008100803024824200212) D H,o23 w ae d.1⟩;?_;rw[b5 n1,cA Q,e]at C M;replace F:=(cA Q)▸(b5 n1)▸F;exact rE C<|rE F<|rE M<|iN (fun hz=>by have:=hf.mp hz.1;exact (la6 0x5209808428112a002480490488498272020020c3) H hz this) ⟨P,(bS.mpr<|by exact (la3 0x1823020040080812012261) A).symm,O⟩
   .replace w:=d.2▸c▸w;simp at w
   .exact rE (T i c)<|rE (I.cont _ o)<|rE (I.shf _ o)<|rE (I.rem _ o)<|iN (by exact eK D l A c)<|iN (by exact eM A c)<|iN (by exact eK D l A c)<|iN (by exact eM A c)<|iN (by exact eK D l A c)<|iN (by exact eM A c) ⟨P,Z,O⟩
 .intro t u m N X;rw[hN]at m ⊢;have o:a<=t/\t<a+S.n:=⟨u,m⟩;have W:t≠q:=fun e=>by
   subst e;replace X:=bq▸X;have:=JP (r:=r) D;replace this:=X▸this;simp at this
  refine have X:=(R t W)▸X;T1 (U1 g t) (fun h=>?_) fun h=>?_
  .exact have N:=(T t h)▸N;have:=L.gap t u m N X;rE (I.cont _ o)<|rE (I.shf _ o)<|iN (by exact (la5 0x782502008050181080c100202100263) D l h)<|iN (by exact (la4 0x28230220604c1002020021761) h)<|iN (by exact (la5 0x782502008050181080c100202100263) D l h)<|iN (by exact (la4 0x28230220604c1002020021761) h) this
  .refine T1 (U1 q t) (fun Y=>?_) fun Y=>?_
   .replace N:=(sm t Y h)▸N;exact have:=L.ge (i:=t) u<|dv o;False.elim<|(la2 0xa08c0800801024022c2) N this
   .exact have N:=(U t Y)▸N;have:=L.gap t u m N X;rE (I.cont _ o)<|rE (I.shf _ o)<|iN (by exact (la4 0x1aa11408c0026300004180202100263) y Y W)<|iN (by exact (la5 0xe09009010000800c1002020021762) y Y)<|iN (by exact (la4 0x1aa11408c0026300004180202100263) y Y W)<|iN (by exact (la5 0xe09009010000800c1002020021762) y Y) this
 .intro i u m;replace m:=hN▸m;by_cases h:i=q
  .exact rE h<|rE bq<|RO D (L.srt q ((la3 0x160900841022000040002) u h)<|(la4 0x1a090080182202118120210012) m h) af ag
  .exact rE (R i h)<|L.srt i u m
theorem place (r:Nat):∀ l:List Nat,l.Pairwise (·< ·)->r∉l->∃ k,k<=l.length/\(∀ i x,i<k->l[i]?=some x->x<r)/\(∀ i x,k<=i->l[i]?=some x->r<x)
 | [],_,_=>⟨0,To _,fun i x h=>False.elim<|da h,fun i x _ h=>by simp at h⟩
 |y::l,hs,hr=>by
  refine xP (List.pairwise_cons.mp hs) (xA2 fun n m=>have g:r≠y:=fun e=>hr<|e▸List.mem_cons_self ..;T1 (U1 y r) (fun h=>?_) fun h=>?_)
  .refine gH (place r l m fun j=>hr<|List.mem_cons_of_mem _ j) fun k f d c=>⟨k+1,by simpa using f,fun i x b a=>?_,fun i x b a=>?_⟩
   .cases i with
    |zero=>simp at a;exact (la3 0x1a0900801021040440012) h a
    |succ i=>exact d i x ((la2 0x182202122109008440011) b) (by simpa using a)
   .cases i with
    |zero=>exact (la3 0x208808089208040011) b
    |succ i=>exact c i x ((la2 0x182202122109008040001) b) (by simpa using a)
  .refine ⟨0,cO _,fun i x b=>False.elim<|da b,fun i x _ a=>?_⟩;cases i with
   |zero=>simp at a;exact (la3 0x9d0450220009841022000040013) h a g
   |succ i=>
    have:=n x<|ck (by simpa using a);exact (la3 0xe08c0841012000040012) h this
theorem RQ :Q5 S r (p%S.n,t)=some (match t==0&&(!S.empty (p%S.n)&&decide (S.rem (p%S.n)<r))with
  |true=>.go ((p+1)%S.n,Ew (S.cont<|(p+1)%S.n) t)
  |false=>.out (p%S.n,t)):=by
 unfold Q5;dsimp only;refine rE (Ti<|bR _ S.CR)<|rE Ez ?_;try rfl
theorem Lin.Mk (L:Lin S a B s)(g:a<=q) (r:q<a+S.n) (u:0<(B q).length) (d:s q+(B q).length<a+S.n):S.cont ((s q+(B q).length)%S.n)=false:=by
 have c:=L.ge g<|dI r;rcases L.cover (t:=s q+(B q).length) (eB g c) d with⟨i,p,m,l,h,f⟩|⟨e,k⟩
 .have j:p=0:=by
   rcases cC i q with b|b|b
   .have:=L.mono m b<|(la5 0x38230230000808480c2120210002) d c;exact (la5 0x2e01140880840800204608221000408023) h f this
   .subst b;exact (la3 0x70110080104208221000408022) h f
   .have:=L.mono g b<|(la5 0xe08c090184000808480c2120210002) d l;exact (la4 0x74044023040420006110108808022) f this
  have o:=(L.slot m ((la5 0xe08c090184000808480c2120210012) d l) h).1;rw[<- f,j]at o;exact o
 .exact (L.gap _ (by exact eB g c) d e k).1
theorem Lin.UB (L:Lin S a B s)(g:a<=q) (f:q<a+S.n) (u:0<(B q).length) (z:s q+(B q).length<a+S.n) (v:k<=(B q).length) (p:∀ i x,i<k->(B q)[i]?=some x->x<r) (c:∀ i x,k<=i->(B q)[i]?=some x->r<x) :
  ∀ b j,j<=k->k-j<b->loop (Q5 S r) b ((s q+j)%S.n,if j<(B q).length then 0 else 1)=some (.next,((s q+k)%S.n,if k<(B q).length then 0 else 1)):=by
 intro b;induction b with
 |zero=>intro j _ h;exact False.elim<|da h
 |succ b t=>
  intro j l w;by_cases e:j=k
  .revert c;refine rS e fun c=>CW<|rE RQ ?_;by_cases h:j<(B q).length
   .have d:(B q)[j]?=some ((B q)[j]):=cB h;refine iP h<|rE ((L.run q j _ g f d).2.2)<|rE (bK<|by have:=c j _ (To _) d;exact (la2 0x18220200204400161) this) ?_;rw[Bool.and_false,Bool.and_false]
   .exact iN h rfl
  .have h:j<(B q).length:=(la3 0x368440220009880001040040013) v l e;have d:(B q)[j]?=some ((B q)[j]):=cB h;have o:Q5 S r ((s q+j)%S.n,0)=some (.go ((s q+(j+1))%S.n,if j+1<(B q).length then 0 else 1)):=by
    refine rE RQ<|rE2 (L.nonempty g f h) ((L.run q j _ g f d).2.2)<|rE (Ti<|p j _ (dh l e) d) ?_;have y:Ew (S.cont<|(s q+j+1)%S.n) 0=if j+1<(B q).length then 0 else 1:=by
     by_cases m:j+1<(B q).length
     .exact have:=(L.slot g f m).1;rE (show s q+j+1=s q+(j+1) by exact la2 0x610408488401091001220)<|rE this<|iP m rfl
     .exact have:=L.Mk g f u z;rE (show s q+j+1=s q+(B q).length by exact (la3 0x5c10c088091085880812001091001222) h m)<|rE this<|iN m rfl
    exact rE y rfl
   exact iP h<|rE (DS o)<|t (j+1) (eA l e)<|(la5 0x1294a440ba40a0282088842808c102612411801440c20a12212013040040015) l w rfl rfl e
theorem Lin.UC (L:Lin S a B s)(j:a<q) (v:q<=g) (d:g<a+S.n) (b:s g=g/\B g=[]) (E:∀ t,q<=t->t<g->S.empty (t%S.n)=false) (Q:r∉B q) (J:S.n+1<n) (R:S.n<=1000) :
  ∃ k f y,k<=(B q).length/\(∀ i x,i<k->(B q)[i]?=some x->x<r)/\(∀ i x,k<=i->(B q)[i]?=some x->r<x)/\(f=1↔k<(B q).length)/\S.Nj n (q%S.n) r=some y/\Ins S y a q r (s q) (s q+k) g f:=by
 refine gH (place r (B q) (L.srt q (dH j)<|(la4 0xe08c088084604c00020210012) v d) Q) fun k m C A=>?_;have u:=L.ge (i:=q) (dH j)<|(la4 0xe08c088084604c00020210002) v d;have F:=L.E8 (by exact dN j v) d b.1 b.2;unfold QS.Nj;refine T1 (U1 q g) (fun h=>?_) fun h=>?_
 .have c:s q+(B q).length<=g:=by
   have:=L.mono (i:=q) (dH j) h<|dI d;exact bW this<|Nat.le_of_eq b.1
  have H:=fun f=>Ww (q:=q) (r:=r) (o:=s q) (p:=s q+k) (f:=f) (n:=n) ⟨by exact dH j,by exact dT d h⟩ ⟨by exact dN j u,by exact (la5 0x3823023080020202118120210012) d c⟩ (by exact (la4 0x38230210600c00120210002) j u) (by exact (la4 0xe08c088180080c08020200202) m c) d R (fun t P O=>E t ((la4 0x38230210608202000040002) u P) O) F<|(la2 0x608808409008440011) J;refine rE (E q (To _) h) ?_;dsimp only;refine rE (L.RI (by exact dH j) (by exact dT d h) ((la5 0x3823023080020202118120210012) d c)<|by exact (la2 0x608808409008440011) J) ?_;dsimp only;refine rE2 (Ti<|bR _ S.CR) (L.occ q (dH j)<|dT d h) ?_;dsimp only;by_cases G:B q=[]
  .have z:k=0:=by rw[G]at m;simpa using m
   subst z;refine gG (H 0) fun y e I=>⟨0,0,y,m,C,A,by refine rE G ?_;simp,?_,I⟩;refine rE G ?_;rw[Nat.add_zero]at e;exact e
  .have N:0<(B q).length:=cG.mpr G;have K:(B q).isEmpty=false:=by
    cases h:B q with
    |nil=>exact(G h).elim
    |cons=>rfl
   have M:=L.UB (by exact dH j) (by exact dT d h) N ((la5 0xe08c090080080c104804c104200212) d c) m C A n 0 (cO _)<|(la9 0xafd840940405800a40e202080601c300102542150412013040440017) j d J m u c rfl;rw[cA N,Nat.add_zero]at M;refine rE K ?_;simp only[Bool.not_false,M,Ti<|bR (s q+k) S.CR];by_cases w:k<(B q).length
   .exact gG (H 1) fun y e I=>⟨k,1,y,m,C,A,by simp[w],iP w e,I⟩
   .exact gG (H 0) fun y e I=>⟨k,0,y,m,C,A,by simp;exact (la2 0x18220200205840001) w,iN w e,I⟩
 .have:g=q:=dR v h;subst this;have z:k=0:=by have:=m;rw[b.2]at this;simpa using this
  subst z;refine rE F<|xP (L.gap g (dH j) d b.1 b.2)<|xA2 fun U T=>⟨0,0,_,m,C,A,by refine rE b.2 ?_;simp,rfl,⟨rfl,rfl,rfl,rfl⟩,fun t D=>?_,fun t D=>?_,fun t D=>?_,fun t D=>?_⟩
  .exact A9 _ _ D ⟨dH j,d⟩
  .show S.cont (t%S.n)=_;refine rE b.1<|rE (Nat.add_zero ..) ?_;by_cases l:t=g
   .refine iP l<|rE l<|rE U ?_;simp
   .exact iN l<|iN (by exact di) rfl
  .show S.shf (t%S.n)=_;refine rE b.1<|rE (Nat.add_zero ..) ?_;by_cases l:t=g
   .refine iP l<|rE l<|rE T ?_;simp
   .exact iN l<|iN (by exact di) rfl
  .show FN S.rem (g%S.n) r (t%S.n)=_;refine rE2 (DZ _ _ D ⟨by exact dH j,d⟩) b.1<|rE (Nat.add_zero ..) ?_;by_cases l:t=g
   .exact iP l<|iP l rfl
   .exact iN l<|iN l<|iN (by exact di) rfl
noncomputable def rbB (N a:Nat) (B:Nat->List Nat):Nat->List Nat:=fun i=>if i<a+N then B i else B (i-N)
noncomputable def rbS (N a:Nat) (s:Nat->Nat):Nat->Nat:=fun i=>if i<a+N then s i else s (i-N)+N
theorem Lin.rebase (L:Lin S a B s){e:Nat}(l:a<e) (j:e<a+S.n) (v:s e=e/\B e=[]):Lin S e (rbB S.n a B) (rbS S.n a s):=by
 have b:∀ i,i<a+S.n->rbB S.n a B i=B i/\rbS S.n a s i=s i:=fun i h=>⟨cA h,cA h⟩;have d:∀ i,a+S.n<=i->rbB S.n a B i=B (i-S.n)/\rbS S.n a s i=s (i-S.n)+S.n:=fun i h=>⟨b5<|by exact (la3 0x1822020040420202100161) h,b5<|by exact (la3 0x1822020040420202100161) h⟩;have u:∀ t,S.n<=t->t%S.n=(t-S.n)%S.n:=fun t h=>by
  conv=>lhs;rw[show t=t-S.n+S.n by exact (la3 0x31453442811000228010020210022) h rfl]
  exact rE (cV ..) rfl
 refine⟨(b e j).2.trans v.1,(b e j).1.trans v.2,?_,rE ((d (e+S.n)<|(la3 0x182202200044104200201) l).2)<|rE (show e+S.n-S.n=e by exact (la3 0xac651080440808402840021) rfl)<|rE v.1 rfl,fun i g f=>T1 (U1 i<|a+S.n) (fun h=>rE ((b i h).1)<|L.occ i (dN l g) h) fun h=>rE ((d i h).1)<|rE (u i<|(la3 0x608808400208040001) h)<|L.occ (i-S.n) (dw h rfl)<|df j f rfl,?_,?_,fun i g f=>T1 (U1 i<|a+S.n) (fun h=>rE ((b i h).1)<|L.srt i (dN l g) h) fun h=>rE ((d i h).1)<|L.srt (i-S.n) (dw h rfl)<|df j f rfl⟩
 .refine fun i g f=>T1 (U1 (i+1)<|a+S.n) (fun h=>rE3 ((b i<|(la3 0x60880880842402120210011) h).1) ((b i<|(la3 0x60880880842402120210011) h).2) ((b (i+1) h).2)<|L.next i (dN l g)<|(la3 0x60880880842402120210011) h) fun h=>?_
  .refine T1 (U1 i<|a+S.n) (fun c=>?_) fun c=>?_
   .have o:=L.next i ((la4 0x1e0900848846002030410811040040003) g f h) c;rw[show i+1=a+S.n by exact (la3 0x1a84302202100112011010808084240222) h c,L.top]at o;exact rE ((b i c).1)<|rE ((b i c).2)<|rE ((d (i+1) h).2)<|rE (show i+1-S.n=a by exact (la4 0x2ac5854430110126100a2021181126110108040023) h c rfl)<|rE L.sa<|(la7 0x1406417019814064154095042c084984c14201261102760a10930818284409e04004c14201001202760a10800818284809e10080088400460449842002020200225) h c o (mxk _ _)<|mxk _ _
   .have o:=L.next (i-S.n) (dw c rfl)<|df j f rfl;exact rE ((d i c).1)<|rE ((d i c).2)<|rE ((d (i+1) h).2)<|rE (show i+1-S.n=i-S.n+1 by exact (la5 0x54623009293298049080230250201461008a406082012210023) c rfl rfl)<|(la9 0xa456151916a54ac541d1b168748c561d1314a74845415111485441a0421040a12813810c120128110277021824250207021824409e04c04e18201301282770c1098081c304a09e140024020c2020200225) c o (mxk _ _) (mxk _ _) rfl
 .refine fun i k r g f m=>T1 (U1 i<|a+S.n) (fun h=>?_) fun h=>?_
  .rw [(b i h).1]at m;exact rE ((b i h).2)<|L.run i k r (dN l g) h m
  .rw [(d i h).1]at m;refine rE ((d i h).2)<|rE (u _<|by exact la3 0x2084088001090000)<|rE (show s (i-S.n)+S.n+k-S.n=s (i-S.n)+k by exact (la4 0xac65108046081810900a20210021) rfl)<|xP (L.run (i-S.n) k r (dw h rfl) (df j f rfl) m)<|xA3 fun y x w=>⟨y,x.trans ?_,w⟩;rw[cF,bS,bS];exact⟨fun h=>o16 h,fun h=>(la6 0x1a583a2843812810800244c81410a5080c20202002263) (by assumption) rfl h⟩
 .refine fun t g f q p=>T1 (U1 t<|a+S.n) (fun h=>?_) fun h=>?_
  .rw [(b t h).1]at p;rw[(b t h).2]at q;exact L.gap t (dN l g) h q p
  .rw [(d t h).1]at p;rw[(d t h).2]at q;exact rE (u t<|(la3 0x608808400208040001) h)<|L.gap (t-S.n) (dw h rfl) (df j f rfl) ((la4 0x31a956043011030228c10008840022) q rfl) p
noncomputable def Has (S:QS) (C:Nat->Nat->Prop):Prop:=∃ a B s,Lin S a B s/\∀ i r,a<=i->i<a+S.n->(r∈B i↔C (i%S.n) r)
theorem JQ (N a q:Nat) (b:q<N):∃ i,a<=i/\i<a+N/\i%N=q:=by
 have d:0<N:=(la2 0x1822020020400111) b;have c:=Nat.div_add_mod a N;by_cases h:a%N<=q
 .exact⟨N*(a/N)+q,(la4 0x1c090088180006042220210002) c h,(la5 0x582402208002230204c104200212) b c,rE (Nat.mul_add_mod ..)<|rE (Nat.mod_eq_of_lt b) rfl⟩
 .exact⟨N*(a/N)+N+q,(la5 0x682402008042220804c101090002) (bR a d) c,(la5 0x1a090088200630800221061101001212) c h,rE (Nat.add_assoc ..)<|rE (Nat.mul_add_mod ..)<|rE (Nat.add_mod_left ..)<|rE (Nat.mod_eq_of_lt b) rfl⟩
theorem Has.cal (h:Has S C)(l:q<S.n) (m:S.n+1<n) :
  (C q r/\∃ j:Nat,j<S.n/\cal S n q r=some (j:Int))\/(¬ C q r/\cal S n q r=some (-1)):=by
 refine xE3 h fun a B s=>xA2 fun L o=>gH (JQ S.n a q l) fun i g f c=>have d:=o i r g f;?_;rw[c]at d;rcases L.Nn (r:=r) g f m with⟨k,e,b⟩|⟨e,b⟩
 .rw [c]at b;exact .inl ⟨d.mp<|ck e,_,bR _ S.CR,b⟩
 .rw [c]at b;exact .inr ⟨fun h=>e<|d.mpr h,b⟩
theorem Lin.Ou (L:Lin S a B s)(g:a<=t) (b:t<a+S.n) (h:¬ (s t=t/\B t=[])):S.empty (t%S.n)=false:=by
 rcases L.cover g b with⟨i,k,f,e,d,c⟩|j
 .exact rE c<|L.nonempty f (dM b e) d
 .exact (h j).elim
theorem Lin.RS (L:Lin S a B s):∀ d i g,g-i=d->a<=i->i<=g->g<a+S.n->(s g=g/\B g=[])->∃ b,i<=b/\b<=g/\(s b=b/\B b=[])/\∀ t,i<=t->t<b->S.empty (t%S.n)=false:=by
 intro d;induction d with
 |zero=>intro i g f m l k j;exact⟨g,l,To _,j,fun t e c=>False.elim<|(la4 0x9a7023810830028c101202000802c4) f e c rfl⟩
 |succ d q=>
  intro i g f m l k j;by_cases h:s i=i/\B i=[]
  .exact ⟨i,To _,l,h,fun t e c=>False.elim<|(la2 0x182202002044000c2) e c⟩
  .exact xE1 (q (i+1) g (eH f rfl rfl) (dZ m) ((la4 0xa8a08c0400410a126110210240202) f rfl) k j) fun b=>xA4 fun v p u r=>⟨b,(la2 0x608808409008040001) v,p,u,fun t e c=>T1 (U1 i t) (fun o=>r t (dU o) c) fun o=>rE (show t=i by exact dR e o)<|L.Ou m ((la6 0x3e09409028150000c200202118120210014) k p e c) h⟩
theorem Lin.add (L:Lin S a B s){i r g:Nat}(e:a<i) (d:i<=g) (l:g<a+S.n) (b:s g=g/\B g=[]) (D:r∉B i) (E:S.n+1<n) (F:S.n<=1000) :
  ∃ c u v,S.Nj n (i%S.n) r=some c/\FI S c/\Lin c a u v/\∀ j x,x∈u j↔x∈B j\/(j=i/\x=r):=by
 refine xE1 (L.RS _ i g rfl (dH e) d l b) fun G=>xA4 fun t q p o=>xE3 (L.UC e t (dM l q) p o D E F) fun k f c=>xA6 fun C A z y w I=>⟨c,_,_,w,I.same,L.ins e t (dM l q) p o C A z y I,fun j x=>?_⟩;unfold setB;by_cases h:j=i
 .refine iP h ?_;rw[RP,h];exact⟨fun h=>h.elim (fun h=>.inr ⟨rfl,h⟩) .inl,fun h=>h.elim .inr fun h=>.inl h.2⟩
 .exact iN h ⟨.inl,fun m=>m.elim id fun m=>(h m.1).elim⟩
noncomputable def Two (S:QS):Prop:=∃ x y,x<S.n/\y<S.n/\x≠y/\S.empty x=true/\S.empty y=true
theorem Has.add (h:Has S C) (ht:Two S){q r:Nat}(hq:q<S.n) (hc:¬ C q r) (hn:S.n+1<n) (hN:S.n<=1000) :
  ∃ c,S.Nj n q r=some c/\FI S c/\Has c fun A z=>C A z\/(A=q/\z=r):=by
 refine xE3 h fun a B s=>xA2 fun L w=>?_;have b:∀{a B s},Lin S a B s->∀{t},a<=t->t<a+S.n->S.empty (t%S.n)=true->s t=t/\B t=[]:=by
  intro a B s L t m f O;rcases L.cover m f with⟨i,k,v,u,d,X⟩|G
  .exact have O:=(L.nonempty v (dM f u) d)▸X▸O;xft O
  .exact G
 obtain⟨e,J,I,U⟩:∃ e,a<e/\e<a+S.n/\s e=e/\B e=[]:=by
  exact xE2 ht fun x y=>xA5 fun Z Y M N K=>gH (JQ S.n a x Z) fun i v u d=>gH (JQ S.n a y Y) fun j D p R=>T1 (U1 a i) (fun h=>⟨i,h,u,b L v u<|rE d N⟩) fun h=>⟨j,T1 (U1 a j) (fun G=>G) fun G=>(M<|rS d<|rS R<|rE (show i=j by exact (la3 0x5b21140880802000041000040040024) v D h G) rfl).elim,p,b L D p<|rE R K⟩
 have o:∀{a B s},Lin S a B s->(∀ i r,a<=i->i<a+S.n->(r∈B i↔C (i%S.n) r))->∀{i g},a<i->i<=g->g<a+S.n->s g=g/\B g=[]->i%S.n=q->
   ∃ c,S.Nj n q r=some c/\FI S c/\Has c fun A z=>C A z\/(A=q/\z=r):=by
  intro a B s L w i g m f P h4 H;refine xE3 (L.add m f P h4 (fun h=>hc<|rS H<|(w i r (dH m)<|(la4 0xe08c088084604c00020210012) f P).mp h) hn hN) fun c B' W=>xA4 fun Q T f3 f4=>?_;replace Q:=H▸Q;refine⟨c,Q,T,a,B',W,f3,fun j x D p=>?_⟩;rw[T.n]at p ⊢;rw[f4,w j x D p];constructor
  .rintro (h|⟨rfl,rfl⟩)
   .exact .inl h
   .exact .inr ⟨H,rfl⟩
  .rintro (h|⟨h,rfl⟩)
   .exact .inl h
   .exact .inr ⟨Ca D p (dH m) ((la4 0xe08c088084604c00020210012) f P)<|h.trans H.symm,rfl⟩
 refine gH (JQ S.n a q hq) fun i v u d=>?_;by_cases l:a<i/\i<=e
 .exact o L w l.1 l.2 I U d
 .have aa:=S.CR;have V:=L.rebase J I U;have F:∀ i r,e<=i->i<e+S.n->(r∈rbB S.n a B i↔C (i%S.n) r):=by
   intro i r m f;unfold rbB;by_cases h:i<a+S.n
   .exact iP h<|w i r (dN J m) h
   .refine iN h ?_;rw[w (i-S.n) r ((la4 0xcac22811820228c004405840002) h rfl)<|df I f rfl];have:i%S.n=(i-S.n)%S.n:=by
     conv=>lhs;rw[show i=i-S.n+S.n by exact (la4 0xc514d10a0440008a2061001620210022) h rfl]
     exact rE (cV ..) rfl
    exact rE this Iff.rfl
  have E:rbS S.n a s (a+S.n)=a+S.n/\rbB S.n a B (a+S.n)=[]:=by
   unfold rbS rbB;exact iN (by exact la2 0x20840840042002160)<|iN (by exact la2 0x20840840042002160)<|rE (show a+S.n-S.n=a by exact (la3 0xac651080440808402840021) rfl)<|rE2 L.sa L.ba ⟨rfl,rfl⟩
  exact T1 (U1 a i) (fun h=>o V F (i:=i) ((la3 0x1984302002004101761040440012) h l) (by exact dI u) (by exact (la3 0x182202200044104200211) J) E d) fun h=>o V F (i:=a+S.n) (dt I) (To _) ((la3 0x182202200044104200211) J) E<|rE (cV ..)<|rS d<|rE (show i=a by exact dR v h) rfl
noncomputable def dnS (s:Nat->Nat) (q G:Nat):Nat->Nat:=fun i=>if q<i/\i<G then s i-1 else s i
structure Out (S:QS) (a:Nat) (B:Nat->List Nat) (s:Nat->Nat) (q k G:Nat):Prop where
 q1:a<q
 q2:q<a+S.n
 k1:k<(B q).length
 g1:s q+k<G
 g2:G<=a+S.n
 g3:s G=G
 g4:∀ t,s q+k<t->t<G->s t≠t
theorem Lin.stop (L:Lin S a B s):∀ d p,a+S.n-p=d->p<a+S.n->∃ G,p<G/\G<=a+S.n/\s G=G/\∀ t,p<t->t<G->s t≠t:=by
 intro d;induction d with
 |zero=>intro p h f;exact False.elim<|(la4 0x94c08c0420c104028c1042040802c3) h f rfl
 |succ d i=>
  intro p j g;by_cases e:p+1=a+S.n
  .exact ⟨a+S.n,(la3 0xa08c0880842402220210011) e,To _,L.top,fun t c b=>(la5 0x1c09809018420441014061092088400263) e c b⟩
  .by_cases h:s (p+1)=p+1
   .exact ⟨p+1,de,(la3 0x60880880840048084240201) g,h,fun t c b=>(la3 0x182402124108110404400262) c b⟩
   .exact xE1 (i (p+1) ((la6 0x151c5301540a0518014424084a8480c2014a10184428488440840023) j rfl rfl)<|(la3 0xf043022021090089880840048084240212) g e) fun G=>xA4 fun r o m l=>⟨G,(la2 0x608808409008440011) r,o,m,fun t c b=>T1 (U1 (p+1) t) (fun f=>l t f b) fun f=>rE (show t=p+1 by exact (la2 0x6a10c084884000008112210022) c f) h⟩
theorem Out.qG (O:Out S a B s q k G) (L:Lin S a B s):q<=s q/\q<G:=by
 have:=L.ge (i:=q) (cK O.q1)<|cK O.q2;exact (la4 0x7c10c084000206042120004400072) O.g1 this
theorem Out.off (O:Out S a B s q k G) (L:Lin S a B s){i:Nat}(f:q<i) (b:i<G):i<s i/\s q+(B q).length<=s i:=by
 refine have e:=O.q1;have d:=O.g2;have c:=L.mono (i:=q) (dH e) f<|(la4 0xe08c088084600c00120210002) b d;⟨T1 (U1 (s q+k) i) (fun h=>?_) fun h=>(la5 0x782402208100010610203040440013) O.k1 c h,c⟩
 .have:=O.g4 i h b;exact (la2 0x6610c08008261000040012) (L.ge (i:=i) ((la3 0xe08c0880011040440002) f e)<|(la4 0xe08c088084600c00120210002) b d) this
theorem Out.toG (O:Out S a B s q k G) (L:Lin S a B s)(c:q<=i) (b:i<G):s i+(B i).length<=G:=by
 have:=L.mono (i:=i) ((la3 0xe08c0880011040040002) c O.q1) b O.g2;rw[O.g3]at this;exact this
theorem Cb {l:List Nat}(h:k<l.length):(l.eraseIdx k).length=l.length-1:=List.length_eraseIdx_of_lt h
def rmB (B:Nat->List Nat) (q k:Nat):Nat->List Nat:=setB B q<|(B q).eraseIdx k
theorem JR:rmB B q k q=(B q).eraseIdx k:=cA rfl
theorem Ej (h:i≠q):rmB B q k i=B i:=b5 h
theorem IG (h:i<=q):dnS s q G i=s i:=b5 (by exact (la3 0x608c080080202044001761) h)
theorem Pr (h:q<i) (b:i<G):dnS s q G i=s i-1:=cA ⟨h,b⟩
theorem Ml (h:G<=i):dnS s q G i=s i:=b5 (by exact (la3 0xa08c084100202044001761) h)
theorem Vg {y:Nat}(h:z=max x y) (b:y<z):z=x:=(mxk x y).elim (fun e=>h.trans e.1) fun e=>absurd (h.trans e.1▸b)<|cY _
theorem Out.next (O:Out S a B s q k G) (L:Lin S a B s):∀ i,a<=i->i<a+S.n->dnS s q G (i+1)=max (dnS s q G i+(rmB B q k i).length) (i+1):=by
 refine fun i m l=>have d:=L.next i m l;xP (O.qG L)<|xA2 fun p o=>have j:=O.k1;?_;rcases cC i q with h|h|h
 .exact rE (IG<|by exact dU h)<|rE2 (IG<|by exact dH h) (Ej<|by exact dX h) d
 .subst h;refine rE2 (IG<|To _) JR<|rE (Cb j)<|T1 (U1 (i+1) G) (fun b=>?_) fun b=>rE (Ml b)<|(la8 0x84460a244450a28c44a404c458e284760e244750e22830a0c4c758a241c0425038a12c13830804b04209dc1842582070610827812c12030804b04409d01842582040611027812c12805080c202000840026) d (O.toG L (To _) o) b (mxk _ _) (mxk _ _) rfl
  .exact have g:=(O.off L (i:=i+1) (de) b).1;rE (Pr (by exact de) b)<|have e:=Vg d g;rE (Nat.max_eq_left<|by exact (la5 0xc6ac238109404290084608c0900848084240203) g e rfl)<|(la6 0x5458a300aa294ca9805a90a0212a00509404290084a09018120210024) j e rfl rfl
 .refine rE (Ej<|by exact dS h)<|T1 (U1 i G) (fun b=>?_) fun b=>rE2 (Ml b) (Ml<|by exact dZ b) d
  .refine have g:=(O.off L h b).1;rE (Pr h b)<|T1 (U1 (i+1) G) (fun c=>?_) fun c=>rE (Ml c)<|(la8 0x84460a244450a28c44a404c458e284760e244750e22830a0c4c758a241c0424c38a12c12070804b04209d03842582040e10827812c12030804b04409d01842582040611027812c12805080c202000840026) d (O.toG L (cK h) b) c (mxk _ _) (mxk _ _) rfl
   .exact have f:=(O.off L (i:=i+1) (dW h) c).1;rE (Pr (by exact dW h) c)<|have e:=Vg d f;rE (Nat.max_eq_left<|by exact (la5 0xc6ac238109402288204608c0900848084240203) f e rfl)<|(la6 0x5458a300aa294ca9805a90a0212a00509402288204a09018120210024) g e rfl rfl
theorem Out.last (O:Out S a B s q k G) (L:Lin S a B s):rmB B q k (G-1)=[]:=by
 refine xP (O.qG L)<|xA2 fun d b=>?_;have c:=O.toG L (i:=G-1) (dp b rfl)<|(la3 0x28d08a0424400a1040440012) b rfl;by_cases h:G-1=q
 .refine rE h<|rE JR ?_;rw[h]at c;exact cX<|rE (Cb O.k1)<|(la6 0x547800c01002924006008010b021260050940a28428240608202020008025) d c h rfl rfl
 .exact rE (Ej h)<|cX<|(la4 0xce05d010c0424818a10604800108008023) c ((O.off L (i:=G-1) ((la3 0x306582c430100104c24808a2000440013) b rfl h)<|(la3 0x28d08a0424400a1040440012) b rfl).1) rfl
structure UD (S T:QS) (a:Nat) (B:Nat->List Nat) (q p G:Nat) (k0:Prop) [Decidable k0]:Prop where
 same:FI S T
 occ:∀ t,a<=t/\t<a+S.n->T.occ (t%S.n)=if t=G-1\/(t=q/\(B q).length=1)then false else S.occ (t%S.n)
 cont:∀ t,a<=t/\t<a+S.n->T.cont (t%S.n)=if p<=t/\t<G-1 then(if t=p/\k0 then false else S.cont ((t+1)%S.n))else if t=G-1 then false else S.cont (t%S.n)
 shf:∀ t,a<=t/\t<a+S.n->T.shf (t%S.n)=if p<=t/\t<G-1 then S.shf ((t+1)%S.n)else if t=G-1 then false else S.shf (t%S.n)
 rem:∀ t,a<=t/\t<a+S.n->t≠G-1->T.rem (t%S.n)=if p<=t/\t<G-1 then S.rem ((t+1)%S.n)else S.rem (t%S.n)
open Classical in
noncomputable def G8 (a N:Nat) (B:Nat->List Nat) (s:Nat->Nat) (j:Nat):Bool:=decide (∃ i,a<=i/\i<a+N/\i%N=j/\s i=i/\B i≠[])
open Classical in
theorem HY {t:Nat}(h:a<=t/\t<a+N):G8 a N B s (t%N)=true↔(s t=t/\B t≠[]):=by
 unfold G8;rw[b0];constructor
 .exact xF1 fun i=>xA4 fun e d c b=>have:=Ca e d h.1 h.2 c;rS this b
 .intro f;exact⟨t,h.1,h.2,rfl,f⟩
def QS.E0 (T:QS) (a:Nat) (B:Nat->List Nat) (s:Nat->Nat):QS:={T with shf:=fun j=>T.shf j&&!G8 a T.n B s j}
theorem Mm {B:Nat->List Nat}{s:Nat->Nat}(f:∀ i,a<=i->i<a+N->s (i+1)=max (s i+(B i).length) (i+1)){i:Nat}(g:a<=i):∀{j},i<j->j<=a+N->s i+(B i).length<=s j:=by
 intro j b d;induction j with
 |zero=>exact (la4 0x208808098120200201) b
 |succ j e=>
  have c:=f j ((la3 0x38230212211012000040002) g b)<|(la3 0x60880880842402020210011) d;refine T1 (U1 i j) (fun h=>(la7 0x76ac11c084b04a102012c1182750810960814204609e10080080c10220200203) c (e h<|(la3 0x60880880842402020210001) d)<|mxk _ _) fun h=>?_
  .rw [show j=i by exact (la2 0x1a8430210000480420440022) b h]at c ⊢;exact (la5 0x1d54118084a04200201281182710010940804004609e0c10220200202) c<|mxk _ _
theorem LY {l:List Nat}{j:Nat}:(l.eraseIdx k)[j]?=if j<k then l[j]? else l[j+1]?:=List.getElem?_eraseIdx ..
theorem Out.lin (O:Out S a B s q k G) (L:Lin S a B s) (R:UD S T a B q (s q+k) G<|k=0):Lin (T.E0 a (rmB B q k)<|dnS s q G) a (rmB B q k) (dnS s q G):=by
 have hN:=R.same.n;refine xP (O.qG L)<|xA2 fun e1 e2=>?_;have q1:=O.q1;have q2:=O.q2;have J:=O.k1;have g1:=O.g1;have g2:=O.g2;have Z:∀ t,a<=t/\t<a+S.n->(T.E0 a (rmB B q k)<|dnS s q G).shf (t%S.n)=(T.shf (t%S.n)&&!G8 a S.n (rmB B q k) (dnS s q G) (t%S.n)):=by
  intro t U;exact(rE hN rfl:(T.shf (t%S.n)&&!G8 a T.n _ _ (t%S.n))=_)
 have r:(T.E0 a (rmB B q k)<|dnS s q G).n=S.n:=hN;refine⟨rE (IG<|by exact dH q1) L.sa,rE (Ej<|by exact dX q1) L.ba,?_,rE r<|rE (Ml g2) L.top,?_,?_,?_,?_⟩
 .intro i e d;rw[r]at d;exact O.next L i e d
 .intro i e d;rw[r]at d ⊢;refine(rE (R.occ i ⟨e,d⟩) ?_:T.occ (i%S.n)=_);by_cases h:i=G-1
  .exact iP (.inl h)<|rE h<|rE (O.last L) rfl
  .by_cases Y:i=q
   .subst Y;refine rE JR ?_;by_cases E:(B i).length=1
    .exact iP (.inr ⟨rfl,E⟩)<|have:(B i).eraseIdx k=[]:=cX<|rE (Cb J)<|(la2 0xa6061010c0424400a1220808022) E rfl;rE this rfl
    .refine iN (by exact (la3 0x88c89508d0944180840026124098490200009c4002862) E h)<|rE (L.occ i e d) ?_;have l:=Cb J;cases hb:(B i).eraseIdx k with
     |nil=>rw[hb]at l;simp at l;exact False.elim<|(la3 0x32485084438109104c24410a200484001c4) J l rfl E
     |cons=>
      cases af:B i with
      |nil=>rw[af]at J;simp at J
      |cons=>rfl
   .exact iN (by exact (la4 0x28c29448c4944180840026200098498220009c4002862) Y h)<|rE2 (Ej Y) (L.occ i e d) rfl
 .intro i j x e d l;rw[r]at d ⊢;have H:=(bY.mp l).1;have g:∀ t,t=dnS s q G i+j->a<=t/\t<a+S.n->(t≠i->T.shf (t%S.n)=true)->T.cont (t%S.n)=(j != 0)->T.rem (t%S.n)=x->
    (T.E0 a (rmB B q k)<|dnS s q G).cont (t%S.n)=(j != 0)/\(T.E0 a (rmB B q k)<|dnS s q G).shf (t%S.n)=(t != i)/\(T.E0 a (rmB B q k)<|dnS s q G).rem (t%S.n)=x:=by
   refine fun t U c f1 f2 f3=>⟨f2,rE (Z t c) ?_,f3⟩;by_cases f:t=i
   .have ae:i<=dnS s q G i:=by
     refine T1 (U1 a i) (fun h=>?_) fun h=>rE (show i=a by exact (la4 0x61284602100000102302110120201c40023) c f h)<|rE (IG<|by exact dH q1)<|rE L.sa<|la1 0x20840800000
     .have:=O.next L (i-1) (dp h rfl)<|(la5 0xaa620900425000a406088084604c080720210013) c f rfl;rw[show i-1+1=i by exact (la3 0x2986a842810910028410110240222) h rfl]at this;exact (la5 0x15741180802030800102740610004061102782020840002) this<|mxk _ _
    have hb:rmB B q k t≠[]:=by
     refine rE f fun h=>?_;rw[h]at H;simp at H
    refine rE ((HY c).mpr ⟨by rw[f];exact (la4 0x136011808008010408c00440840023) U f ae,hb⟩)<|rE f ?_;simp
   .have hh:G8 a S.n (rmB B q k) (dnS s q G) (t%S.n)=false:=by
     refine bE (G8 a S.n (rmB B q k) (dnS s q G)<|t%S.n) (fun h=>?_) fun h=>?_
     .rfl
     .exfalso;refine xP ((HY c).mp h)<|xA2 fun ab ag=>have E:=cG.mpr ag;T1 (U1 i t) (fun Y=>?_) fun Y=>?_
      .have:=Mm (O.next L) e Y<|dv c;exact (la5 0x15826024020c202080801844084001c4) H U ab this
      .have:=Mm (O.next L) c.1 (show t<i by exact dh Y f)<|dI d;exact (la5 0x1d026021080c204004401822021002c4) U ab E this
    exact rE3 hh (f1 f) (bS.mpr f) rfl
  rcases cC i q with h|h|h
  .rw [Ej<|by exact dX h]at l;refine have V:=(bY.mp l).1;have hm:=L.mono e h<|dI q2;have c:=L.inW e d V;xP (L.run i j x e d l) (xA3 fun D A K=>have v:=IG (s:=s) (G:=G)<|cK h;rE v<|have m:¬ (s q+k<=s i+j/\s i+j<G-1):=(la6 0x38240200a0820506050182084c10420020762) V hm;have u:¬ s i+j=G-1:=(la7 0x29c3c24010950428c30008180815080c21202002264) g1 V hm rfl;have C:=R.cont _ c;have F:=R.shf _ c;have M:=R.rem _ c u;?_);rw[b5 m,b5 u]at C F;rw[b5 m]at M;exact g _ (rE v rfl) c (fun o=>rE F<|rE A<|bS.mpr o) (C.trans D)<|M.trans K
  .subst h;rw[JR]at l H;rw[Cb J]at H;rw[LY]at l;have v:=IG (s:=s) (G:=G)<|To i;have U:=O.toG L (To _) e2;refine rE v ?_;have c:a<=s i+j/\s i+j<a+S.n:=(la8 0xacc1890861120425c30a40e042060405400110a00c004800c00440421202100076) g2 e1 q1 H U rfl;by_cases z:j<k
   .rw [cA z]at l;refine xP (L.run i j x e d l) (xA3 fun D A K=>have m:¬ (s i+k<=s i+j/\s i+j<G-1):=(la4 0x18230210404c100084800420020761) z;have u:¬ s i+j=G-1:=(la5 0xa61c23810940428c0814060021202002263) g1 z rfl;have C:=R.cont _ c;have F:=R.shf _ c;have M:=R.rem _ c u;?_);rw[b5 m,b5 u]at C F;rw[b5 m]at M;exact g _ (rE v rfl) c (fun o=>rE F<|rE A<|bS.mpr o) (C.trans D)<|M.trans K
   .rw [b5 z]at l;refine xP (L.run i (j+1) x e d l)<|xA3 fun D A K=>?_;rw[show s i+(j+1)=s i+j+1 by exact la2 0x610408488009091080220]at D A K;have m:s i+k<=s i+j/\s i+j<G-1:=(la7 0x627022a682022820224210a0212c0c509508284101660a002040404c10008480042002075) H U z rfl rfl;have u:¬ s i+j=G-1:=(la4 0x140900880800844004600207202002261) m;have C:=R.cont _ c;have F:=R.shf _ c;have M:=R.rem _ c u;rw[cA m]at C F M;refine g _ (rE v rfl) c (fun o=>rE F<|rE A<|bS.mpr<|(la3 0x1823020040080910012261) e1) ?_<|M.trans K
    .refine rE C ?_;by_cases N:s i+j=s i+k/\k=0
     .exact iP N<|rE (show j=0 by exact (la3 0x5601140809022021001089c08021) N) rfl
     .refine iN N<|rE D ?_;rw[cF,bS,bS];exact⟨fun h=>(la4 0x348c288502024088084004227630004210021101081c080262) m N,fun h=>la1 0x82202022402260⟩
  .rw [Ej<|by exact dS h]at l H;refine xP (L.run i j x e d l)<|xA3 fun D A K=>have w:=L.inW e d H;T1 (U1 i G) (fun p=>?_) fun p=>?_
   .refine xP (O.off L h p) (xA2 fun o1 o2=>have v:=Pr (s:=s) h p;rE v<|have c:a<=s i-1+j/\s i-1+j<a+S.n:=(la6 0xa4c964591100425408a50804c0044142120a1000740000c00440421202100074) e w o1 rfl;have m:s q+k<=s i-1+j/\s i-1+j<G-1:=(la9 0x54ac0ad3d42a9a60a07ca290b0212e085098082a0307081c2800818181502050182084c1042002076) J H o2 (O.toG L (cK h) p) rfl rfl;have u:¬ s i-1+j=G-1:=(la5 0x14090088080084400480c207202002261) m;have C:=R.cont _ c;have F:=R.shf _ c;have M:=R.rem _ c u;?_);rw[cA m,show s i-1+j+1=s i+j by exact (la4 0x2986a84281092002881811041091001222) o1 rfl]at C F M;refine g _ (rE v rfl) c (fun o=>rE F<|rE A<|bS.mpr<|(la3 0x608c080101202002261) o1) ?_<|M.trans K
    .refine rE C ?_;by_cases N:s i-1+j=s q+k/\k=0
     .exact iP N<|rE (show j=0 by exact (la6 0xc1e0051d001140425028a0220841840142274040c202020408024) J o2 N rfl) rfl
     .exact iN N<|rE D rfl
   .refine have v:=Ml (s:=s) (q:=q) p;have aa:=L.ge e<|dI d;rE v<|have m:¬ (s q+k<=s i+j/\s i+j<G-1):=(la7 0x96a023810950828830060a010182084c10420020763) p aa rfl;have u:¬ s i+j=G-1:=(la6 0x158d424010950428020040a010181202002264) h p aa rfl;have C:=R.cont _ w;have F:=R.shf _ w;have M:=R.rem _ w u;?_;rw[b5 m,b5 u]at C F;rw[b5 m]at M;exact g _ (rE v rfl) w (fun o=>rE F<|rE A<|bS.mpr o) (C.trans D)<|M.trans K
 .intro t e d P X;rw[r]at d ⊢;have c:a<=t/\t<a+S.n:=⟨e,d⟩;have g:T.cont (t%S.n)=false->T.shf (t%S.n)=false->(T.E0 a (rmB B q k)<|dnS s q G).cont (t%S.n)=false/\(T.E0 a (rmB B q k)<|dnS s q G).shf (t%S.n)=false:=by
   exact fun f1 f2=>⟨f1,rE (Z t c)<|rE f2 rfl⟩
  by_cases hG:t=G-1
  .have C:=R.cont t c;have F:=R.shf t c;rw[b5<|by exact (la4 0x50240230408c1012020020761) hG,cA hG]at C F;exact g C F
  .have Q:(s t=t/\B t=[])/\¬ (s q+k<=t/\t<G-1):=by
    rcases cC t q with h|h|h
    .rw [IG<|by exact dH h]at P;rw[Ej<|by exact dX h]at X;exact⟨⟨P,X⟩,(la5 0xe09009010100800c1012020020762) e1 h⟩
    .exfalso;subst h;rw[IG<|To _]at P;rw[JR]at X;have E:=Cb J;rw[X]at E;simp at E;have y:=L.next t e d;refine T1 (U1 (t+1) G) (fun I=>?_) fun I=>o17 hG e2 I
     .have:=(O.off L (i:=t+1) (de) I).1;exact (la6 0x1a00d086c9344468109504284884a00201221202750010910814004809e0c0910850182200484002c6) P E y this (mxk _ _) rfl
    .rw [Ej<|by exact dS h]at X;refine T1 (U1 t G) (fun I=>?_) fun I=>?_
     .exfalso;rw[Pr h I]at P;have:=(O.off L h I).1;have y:=L.next t e d;rw[X]at y;simp at y;refine T1 (U1 (t+1) G) (fun W=>?_) fun W=>o17 hG I W
      .have:=(O.off L (i:=t+1) (dW h) W).1;exact (la5 0x1a03486a4d04581094002848848004884609d00910810182782024421304084002c5) P y this (mxk _ _) rfl
     .rw [Ml I]at P;exact⟨⟨P,X⟩,(la5 0x95408c0425018a20800c1012020020762) I rfl⟩
   have C:=R.cont t c;have F:=R.shf t c;rw[b5 Q.2,b5 hG]at C F;refine xP (L.gap t e d Q.1.1 Q.1.2)<|xA2 fun D A=>?_;exact g (C.trans D)<|F.trans A
 .intro i e d;rw[r]at d;by_cases h:i=q
  .exact rE h<|rE JR<|(L.srt q ((la3 0x160900841022000040002) e h) q2).sublist<|List.eraseIdx_sublist ..
  .exact rE (Ej h)<|L.srt i e d
theorem Lin.JS (L:Lin S a B s)(p:a<=t) (x:t<=a+S.n):(S.cs (t%S.n) ||S.empty (t%S.n))=decide (s t=t):=by
 refine T1 (U1 t<|a+S.n) (fun h=>?_) fun h=>?_
 .rcases L.cover p h with⟨i,j,l,g,b,d⟩|⟨e,o⟩
  .refine xP (L.slot l (dM h g) b)<|xA3 fun v u _=>?_;have w:=L.nonempty l (dM h g) b;rw[<- d]at v u w;refine rE w<|rE (Bool.or_false ..) ?_;unfold QS.cs;by_cases c:s t=t
   .refine rE (Ti c) ?_;have m:i=t:=by
     refine T1 (U1 i t) (fun r=>?_) fun r=>dq g r
     .have:=L.mono l r<|dI h;exact (la6 0x2b5611c094184080428220810823040440024) b d c this
    subst m;have f:j=0:=(la3 0x1a80450210408010420808022) d c;refine rE v<|rE u<|rE (L.occ i p h)<|rE f ?_;cases o:B i with
    |nil=>rw[o]at b;simp at b
    |cons=>simp
   .refine rE (bK c)<|rE v<|rE u ?_;by_cases f:j=0
    .have:t≠i:=fun e=>c<|rE e<|(la4 0x52ca11c08410202608c00440840023) d f e;refine rE (show(t != i)=true from bS.mpr this) ?_;simp
    .refine rE (show(j != 0)=true from bS.mpr f) ?_;simp
  .exact rE (L.E8 p h e o)<|rE (Bool.or_true ..)<|rE (Ti e) rfl
 .have e:t=a+S.n:=(la3 0x17043020040420202100020210022) x h;exact rE e<|rE (cV ..)<|rE (L.E8 (To _) (by have:=S.CR;exact du this) L.sa L.ba)<|rE (Bool.or_true ..)<|rE (Ti L.top) rfl
theorem Out.sro (O:Out S a B s q k G) (L:Lin S a B s):S.rcs ((s q+k)%S.n)=decide (k=0)/\S.cont ((s q+k+1)%S.n)=decide (k+1<(B q).length):=by
 have d:=O.q1;have c:=O.q2;have e:=O.k1;have b:=L.mono (i:=q) (dH d) (j:=a+S.n) c<|To _;rw[L.top]at b;constructor
 .refine xP (L.slot (i:=q) (dH d) c e)<|xA3 fun r t _=>?_;have g:=L.nonempty (i:=q) (dH d) c e;unfold QS.rcs QS.cs QS.rs;unfold QS.empty at g;by_cases f:k=0
  .have l:S.cont ((s q+k)%S.n)=false:=by refine rE r<|rE f ?_;rfl
   rw[l]at g ⊢;refine rE (Ti f)<|bE (S.occ<|(s q+k)%S.n) (fun p=>?_) (fun p=>?_)<;>refine bE (S.shf<|(s q+k)%S.n) (fun o=>?_) (fun o=>?_)<;>rw[p,o]at g<;>first|rfl|(exact xtf g)
  .have l:S.cont ((s q+k)%S.n)=true:=rE r<|bS.mpr f;refine rE l<|rE (bK f) ?_;cases S.occ ((s q+k)%S.n)<;>rfl
 .by_cases h:k+1<(B q).length
  .have:=(L.slot (i:=q) (dH d) c h).1;exact rE (show s q+k+1=s q+(k+1) by exact la2 0x610408488401091001220)<|rE this<|rE (Ti h)<|bS.mpr<|la1 0x82202022402260
  .exact rE (bK h)<|rE (show s q+k+1=s q+(B q).length by exact (la3 0x5c10c088091085880812001091001222) e h)<|T1 (U1 (s q+(B q).length)<|a+S.n) (fun m=>L.Mk (dH d) c ((la2 0x1822020020400111) e) m) fun m=>rE (show s q+(B q).length=a+S.n by exact (la4 0x5c10c084004608203041080080c104200222) b m)<|rE (cV ..)<|(L.gap a (To _) (by have:=S.CR;exact du this) L.sa L.ba).1
structure Mv (S T:QS) (a p i:Nat) (hf:Prop) [Decidable hf]:Prop where
 same:FI S T
 occ:T.occ=S.occ
 cont:∀ t,a<=t/\t<a+S.n->T.cont (t%S.n)=if p<=t/\t<i then(if t=p/\hf then false else S.cont ((t+1)%S.n))else S.cont (t%S.n)
 shf:∀ t,a<=t/\t<a+S.n->T.shf (t%S.n)=if p<=t/\t<i then S.shf ((t+1)%S.n)else S.shf (t%S.n)
 rem:∀ t,a<=t/\t<a+S.n->T.rem (t%S.n)=if p<=t/\t<i then S.rem ((t+1)%S.n)else S.rem (t%S.n)
theorem Mv.start {b:Prop} [Decidable b]:Mv S S a p p b:=
 ⟨⟨rfl,rfl,rfl,rfl⟩,rfl,fun t _=>iN (by exact la2 0x182202002044000760) rfl,fun t _=>iN (by exact la2 0x182202002044000760) rfl,fun t _=>iN (by exact la2 0x182202002044000760) rfl⟩
theorem Mv.step  [Decidable l] (h:Mv S T a p i l) (o:a<=p) (c:p<=i) (r:i<a+S.n) (m:¬ (i=p/\l)) (g:i+1<a+S.n):Mv S (T.mv1 (i%S.n)<|(i+1)%S.n) a p (i+1) l:=by
 have j:a<=i/\i<a+S.n:=(la4 0x658440220010910844180300008004204400073) o c g;have f:a<=i+1/\i+1<a+S.n:=(la3 0x134110088004204400072001091084800424421122100072) g j;have C:=h.cont _ f;have F:=h.shf _ f;have M:=h.rem _ f;rw[b5<|by exact la2 0x10220210244211221000760]at C F M;refine⟨⟨h.same.q,h.same.cnt,h.same.auto,h.same.hf⟩,h.occ,fun t d=>?_,fun t d=>?_,fun t d=>?_⟩
 .refine (rE (A9 _ _ d j) ?_:Cn T.cont (i%S.n) (T.cont<|(i+1)%S.n) (t%S.n)=_);by_cases e:t=i
  .exact iP e<|iP (show p<=t/\t<i+1 by exact (la3 0x15a110088082200004904204400072) c e)<|rE e<|iN m<|rE C rfl
  .refine iN e<|rE (h.cont t d) ?_;by_cases b:p<=t/\t<i
   .exact iP b<|iP (show p<=t/\t<i+1 by exact (la3 0x6a10c08808110001c4904204400071) b) rfl
   .exact iN b<|iN (show¬ (p<=t/\t<i+1) by exact eO b e) rfl
 .refine (rE (A9 _ _ d j) ?_:Cn T.shf (i%S.n) (T.shf<|(i+1)%S.n) (t%S.n)=_);by_cases e:t=i
  .exact iP e<|iP (show p<=t/\t<i+1 by exact (la3 0x15a110088082200004904204400072) c e)<|rE e<|rE F rfl
  .refine iN e<|rE (h.shf t d) ?_;by_cases b:p<=t/\t<i
   .exact iP b<|iP (show p<=t/\t<i+1 by exact (la3 0x6a10c08808110001c4904204400071) b) rfl
   .exact iN b<|iN (show¬ (p<=t/\t<i+1) by exact eO b e) rfl
 .refine (rE (DZ _ _ d j) ?_:FN T.rem (i%S.n) (T.rem<|(i+1)%S.n) (t%S.n)=_);by_cases e:t=i
  .exact iP e<|iP (show p<=t/\t<i+1 by exact (la3 0x15a110088082200004904204400072) c e)<|rE e<|rE M rfl
  .refine iN e<|rE (h.rem t d) ?_;by_cases b:p<=t/\t<i
   .exact iP b<|iP (show p<=t/\t<i+1 by exact (la3 0x6a10c08808110001c4904204400071) b) rfl
   .exact iN b<|iN (show¬ (p<=t/\t<i+1) by exact eO b e) rfl
theorem Mv.head (f:a<=p) (d:p+1<a+S.n):Mv S (S.hfm (p%S.n)<|(p+1)%S.n) a p (p+1) True:=by
 have c:a<=p/\p<a+S.n:=(la3 0x6a10c08800424421100008004204400072) f d;refine⟨⟨rfl,rfl,rfl,rfl⟩,rfl,fun t b=>?_,fun t b=>?_,fun t b=>?_⟩
 .refine (rE (A9 _ _ b c) ?_:Cn S.cont (p%S.n) false (t%S.n)=_);by_cases e:t=p
  .exact iP e<|iP (show p<=t/\t<p+1 by exact (la2 0x1704302002084804204400071) e)<|iP ⟨e,trivial⟩ rfl
  .exact iN e<|iN (show¬ (p<=t/\t<p+1) by exact (la2 0x158430200209848042044000761) e) rfl
 .refine (rE (A9 _ _ b c) ?_:Cn S.shf (p%S.n) (S.shf<|(p+1)%S.n) (t%S.n)=_);by_cases e:t=p
  .exact iP e<|iP (show p<=t/\t<p+1 by exact (la2 0x1704302002084804204400071) e)<|rE e rfl
  .exact iN e<|iN (show¬ (p<=t/\t<p+1) by exact (la2 0x158430200209848042044000761) e) rfl
 .refine (rE (DZ _ _ b c) ?_:FN S.rem (p%S.n) (S.rem<|(p+1)%S.n) (t%S.n)=_);by_cases e:t=p
  .exact iP e<|iP (show p<=t/\t<p+1 by exact (la2 0x1704302002084804204400071) e)<|rE e rfl
  .exact iN e<|iN (show¬ (p<=t/\t<p+1) by exact (la2 0x158430200209848042044000761) e) rfl
theorem Mv.at  [Decidable f] (h:Mv S T a p i f) (e:a<p) (g:i<=t) (m:p<=i) (l:t<=a+S.n):T.cs (t%S.n)=S.cs (t%S.n)/\T.empty (t%S.n)=S.empty (t%S.n):=by
 have b:∀ u,(u<p\/i<=u)->a<=u/\u<a+S.n->T.cs (u%S.n)=S.cs (u%S.n)/\T.empty (u%S.n)=S.empty (u%S.n):=by
  intro u j d;have C:=h.cont u d;have F:=h.shf u d;rw[b5<|by exact (la3 0x15843021040000818202044000761) j]at C F;unfold QS.cs QS.empty;exact rE h.occ<|rE C<|rE F ⟨rfl,rfl⟩
 exact T1 (U1 t<|a+S.n) (fun c=>b t (.inr g) ⟨(la4 0x7824023040041802000440003) e g m,c⟩) fun c=>rE (show t=a+S.n by exact (la3 0x17043020040420202100020210022) l c)<|rE (cV ..)<|b a (.inl e) ⟨To _,by have:=S.CR;exact du this⟩
theorem Out.Wy (O:Out S a B s q k G) (L:Lin S a B s) [Decidable j] (u:S.n<=1000):∀ b i T,Mv S T a (s q+k) i j->s q+k<=i->i+1<=G->¬ (i=s q+k/\j)->G-i<=b->
  ∃ p,loop (Pq S.n) b (T,i%S.n,(i+1)%S.n)=some (.next,(p,(G-1)%S.n,G%S.n))/\Mv S p a (s q+k) (G-1) j:=by
 have m:=O.q1;have z:=O.g1;have l:=O.g2;have c:=(O.qG L).1;intro b;induction b with
 |zero=>intro i T _ _ _ _ h;exact False.elim<|(la3 0x9942281001042809001024020c3) (by assumption) h rfl
 |succ b r=>
  intro i T h f d w v;obtain⟨y,x⟩:=h.at (t:=i+1) ((la4 0x38230210600c00120210012) m c) (la1 0x8210212010000) f ((la4 0xe08c08c09008080846008084240202) l d);have o:T.nx ((i+1)%S.n)=(i+1+1)%S.n:=rS h.same.n Ez;have g:Pq S.n (T,i%S.n,(i+1)%S.n)=some (match decide (s (i+1)=i+1)with
    |true=>.out (T,i%S.n,(i+1)%S.n)
    |false=>.go (T.mv1 (i%S.n)<|(i+1)%S.n,(i+1)%S.n,(i+1+1)%S.n)):=by
   unfold Pq;dsimp only;refine rE (Ti ⟨h.same.n,bR _ S.CR,bR _ S.CR,u⟩)<|rE y<|rE x<|rE (L.JS (t:=i+1) ((la5 0x7824021080c2030400800112210003) m c f)<|(la4 0xe08c08c09008080846008084240202) l d)<|rE o ?_;try rfl
  by_cases e:i+1=G
  .rw [e,Ti O.g3]at g;refine rE (show G-1=i by exact (la3 0x2ac585443010920028809108840022) e rfl)<|rS e ?_;rw[<- e]at g;exact⟨T,CW g,h⟩
  .rw [bK<|O.g4 (i+1) ((la3 0x60880880800804904200211) f)<|(la2 0xf0430210240226102402010240212) d e]at g;exact rE (DS g)<|r (i+1) _ (h.step ((la4 0x38230210600c00120210002) m c) f ((la4 0x3823023024020202118020210012) l d) w<|(la4 0xda11008c0900898c09008080846008084240213) l d e) ((la3 0x60880880800804904200201) f) ((la2 0x3c10c084090089840900804091201202) d e) (o24 f)<|(la5 0x152c01460220084a0460052030428488440040003) v rfl rfl
def clq (S:QS) (b:Bool) (g q:Nat):QS:=match b with
 |true=>(S.cle g).AZ .o q false
 |false=>S.cle g
theorem Mv.clear  [Decidable o] (O:Out S a B s q k G) (L:Lin S a B s) (h:Mv S T a (s q+k) (G-1) o) (m:o↔(k=0/\2<=(B q).length)) (b:Bool) (x:b=decide ((B q).length=1)) :
  UD S (clq T b ((G-1)%S.n)<|q%S.n) a B q (s q+k) G (k=0):=by
 have r:=O.q1;have C:=O.q2;have D:=O.k1;have A:=O.g1;have y:=O.g2;have j:=(O.qG L).1;have i:a<=G-1/\G-1<a+S.n:=(la7 0x2932c6c6c440109602290180200130060a1021300048004204400075) r A y j rfl;have w:∀ t,a<=t/\t<a+S.n->Cn T.cont ((G-1)%S.n) false (t%S.n)=if s q+k<=t/\t<G-1 then(if t=s q+k/\k=0 then false else S.cont ((t+1)%S.n))else if t=G-1 then false else S.cont (t%S.n):=by
  refine fun t c=>rE (A9 _ _ c i) ?_;by_cases e:t=G-1
  .exact iP e<|iN (show¬ (s q+k<=t/\t<G-1) by exact (la4 0x50240230408c1012020020761) e)<|iP e rfl
  .refine iN e<|rE (h.cont t c) ?_;by_cases d:s q+k<=t/\t<G-1
   .refine iP d<|iP d ?_;by_cases g:t=s q+k/\k=0
    .refine iP g ?_;by_cases p:o
     .exact iP ⟨g.1,p⟩ rfl
     .refine iN (fun z=>p z.2)<|rE g.1<|rE ((O.sro L).2)<|bK fun l=>p<|m.mpr ⟨g.2,(la2 0x608808009108401101) l⟩
    .exact iN g<|iN (fun z=>g ⟨z.1,(m.mp z.2).1⟩) rfl
   .exact iN d<|iN d<|iN e rfl
 have u:∀ t,a<=t/\t<a+S.n->Cn T.shf ((G-1)%S.n) false (t%S.n)=if s q+k<=t/\t<G-1 then S.shf ((t+1)%S.n)else if t=G-1 then false else S.shf (t%S.n):=by
  refine fun t c=>rE (A9 _ _ c i) ?_;by_cases e:t=G-1
  .exact iP e<|iN (show¬ (s q+k<=t/\t<G-1) by exact (la4 0x50240230408c1012020020761) e)<|iP e rfl
  .refine iN e<|rE (h.shf t c) ?_;by_cases d:s q+k<=t/\t<G-1
   .exact iP d<|iP d rfl
   .exact iN d<|iN d<|iN e rfl
 have v:∀ t,a<=t/\t<a+S.n->t≠G-1->FN T.rem ((G-1)%S.n) 0 (t%S.n)=if s q+k<=t/\t<G-1 then S.rem ((t+1)%S.n)else S.rem (t%S.n):=by
  exact fun t c e=>rE (DZ _ _ c i)<|iN e<|rE (h.rem t c) rfl
 induction b with
 |true=>
  refine have l:=bU x.symm;⟨⟨h.same.q,h.same.cnt,h.same.auto,h.same.hf⟩,fun t c=>(rE (A9 _ _ c<|by exact (la6 0x7a211408c08020012805080c21100048004204400074) r A y j) (rE (A9 _ _ c i)<|rE h.occ ?_):Cn (Cn T.occ ((G-1)%S.n) false) (q%S.n) false (t%S.n)=_),w,u,v⟩;by_cases e:t=q
  .exact iP e<|iP (.inr ⟨e,l⟩) rfl
  .refine iN e ?_;by_cases f:t=G-1
   .exact iP f<|iP (.inl f) rfl
   .exact iN f<|iN (by exact (la4 0x30a50a3125124180880026100098498220009c4002862) f e) rfl
 |false=>
  refine have l:=of_decide_eq_false x.symm;⟨⟨h.same.q,h.same.cnt,h.same.auto,h.same.hf⟩,fun t c=>(rE (A9 _ _ c i) (rE h.occ ?_):Cn T.occ ((G-1)%S.n) false (t%S.n)=_),w,u,v⟩;by_cases f:t=G-1
  .exact iP f<|iP (.inl f) rfl
  .exact iN f<|iN (by exact (la4 0x90b10a9131124180849826100098498220009c4002862) f l) rfl
theorem Lin.Wz (L:Lin S a B s):∀ b t,a<t->t<a+S.n->t-a<=b->S.empty (t%S.n)=false->∃ m,a<m/\m<=t/\s m=m/\B m≠[]/\loop (Q6 S) b (t%S.n)=some (.next,m%S.n):=by
 intro b;induction b with
 |zero=>intro t _ _ h;exact False.elim<|(la3 0x26508a0400410a024004001c3) (by assumption) h rfl
 |succ b x=>
  intro t d j z o;have g:=L.JS (t:=t) (dH d)<|dI j;rw[o,Bool.or_false]at g;have l:Q6 S (t%S.n)=some (match decide (s t=t)with
    |true=>.out<|t%S.n
    |false=>.go<|(t-1)%S.n):=by
   unfold Q6;refine rE (Ti<|bR _ S.CR)<|rE g<|rE (RD<|by exact (la2 0x1822020020400111) d) ?_;try rfl
  by_cases e:s t=t
  .rw [Ti e]at l;refine⟨t,d,To _,e,fun y=>?_,CW l⟩;rw[L.E8 (by exact dH d) j e y]at o;exact xtf o
  .rw [bK e]at l;have c:=L.next (t-1) (dp d rfl)<|d8 j rfl;rw[show t-1+1=t by exact (la3 0x2986a842810910028410110240222) d rfl]at c;have i:¬ (s (t-1)=t-1/\B (t-1)=[]):=fun h=>by
    rw[h.1,h.2]at c;simp at c;exact (la2 0x17043021000984002c2) c e
   have f:a<t-1:=by
    exact T1 (U1 a<|t-1) (fun h=>h) fun h=>(i<|rE (show t-1=a by exact (la3 0x22c52544301092002840002020440023) d h rfl) ⟨L.sa,L.ba⟩).elim
   exact xE1 (x (t-1) f (d8 j rfl) ((la6 0xa52c8110120114640880902160424c28a40a0052030428488440040004) z rfl rfl rfl)<|L.Ou (dH f) (d8 j rfl) i) fun m=>xA5 fun w v u r p=>⟨m,w,(la3 0x2ad08a0424410a2000040002) v rfl,u,r,rE (DS l) p⟩
noncomputable def qsW (B:Nat->List Nat) (s:Nat->Nat) (m t:Nat):List Nat:=(List.range' m<|t-m).filter fun i=>!(B i).isEmpty&&decide (t<=s i)
theorem Lin.push (L:Lin S a B s)(e:a<=m) (c:m<=t) (d:t<a+S.n):(match !(B t).isEmpty with|true=>qsW B s m t++[t]|false=>qsW B s m t)=(List.range' m<|t+1-m).filter fun i=>!(B i).isEmpty&&decide (t<=s i):=by
 refine rE (show t+1-m=(t-m)+1 by exact (la4 0x15188c022a4ca601242008809308051030228c10012210023) c rfl rfl)<|rE List.range'_1_concat<|rE (List.filter_append ..)<|rE (show m+(t-m)=t by exact eC c rfl) ?_;unfold qsW;refine bE ((B t).isEmpty) (fun b=>?_) fun b=>?_
 .simp [b,(L.ge (i:=t) (dQ e c)<|dI d)]
 .simp [b]
theorem Lin.pop (L:Lin S a B s){t:Nat}(F:a<=m) (z:m<=t) (y:t<a+S.n) (E:s m=m) (p:a<=i) (b:s i=t) (w:B i≠[]) (f:i<a+S.n) :
  m<=i/\i<=t/\((List.range' m<|t+1-m).filter fun i=>!(B i).isEmpty&&decide (t<=s i))=i::qsW B s m (t+1):=by
 have v:=cG.mpr w;have g:=L.ge p<|dI f;have c:m<=i:=by
  refine T1 (U1 i m) (fun h=>?_) fun h=>h
  .have:=L.mono p h<|(la4 0xe08c088084604c00020210002) z y;exact (la6 0xe60a008c28408140112080801822000040005) z E b v this
 refine⟨c,(la3 0x1a0900880001040840002) b g,?_⟩;have D:List.range' m (t+1-m)=List.range' m (i-m)++i::List.range' (i+1) (t-i):=by
  have I:t+1-m=(i-m)+(t-i+1):=(la7 0xa90312060015205301928300021854418a5300020d2940cad180010d41c04c04a04029828114a1010a50c00c280406084904210026) b g c rfl rfl rfl;exact rE I<|rS List.range'_append_1<|rE (show m+(i-m)=i by exact eC c rfl)<|rE List.range'_succ rfl
 have A:∀ u,t<=u->(List.range' m<|i-m).filter (fun x=>!(B x).isEmpty&&decide (u<=s x))=[]:=by
  intro u C;rw[List.filter_eq_nil_iff];refine fun x o=>xP (List.mem_range'_1.mp o)<|xA2 fun e l=>bT ((B x).isEmpty) (fun d=>?_) fun d=>?_
  .simp
  .have:0<(B x).length:=by
    cases hh:B x with
    |nil=>rw[hh]at d;exact xtf d
    |cons=>simp
   have:=L.mono (i:=x) (j:=i) (dQ F e) ((la4 0xa8b08c0440418a30410010040040013) e l rfl)<|dI f;simp;exact (la5 0x1e8260220800204004441803040840014) b C (by assumption) this
 have H:(List.range' (i+1)<|t-i).filter (fun x=>!(B x).isEmpty&&decide (t<=s x))=(List.range' (i+1)<|t-i).filter (fun x=>!(B x).isEmpty&&decide (t+1<=s x)):=by
  exact List.filter_congr fun x o=>xP (List.mem_range'_1.mp o)<|xA2 fun e l=>have:=L.mono (i:=i) (j:=x) p ((la2 0x608808409008040011) e)<|(la6 0xaa5823812030a294094090010025020202118120210004) y e l rfl;rE (Ti<|show t<=s x by exact (la4 0x70240210608200040840002) b this)<|rE (Ti<|show t+1<=s x by exact (la4 0xf02502106082030044010210240203) b v this) rfl
 have r:(B i).isEmpty=false:=by
  cases hh:B i with
  |nil=>exact(w hh).elim
  |cons=>rfl
 unfold qsW;exact rE D<|rE (List.filter_append ..)<|rE (List.filter_append ..)<|rE (A t<|To _)<|rE (A (t+1)<|la1 0x8210212010000)<|rE List.filter_cons<|rE List.filter_cons<|rE H<|rE r<|rE (Ti<|show t<=s i by exact (la2 0x3023020020840001) b)<|rE (bK<|show¬ t+1<=s i by exact (la2 0xa08c080082102402061) b) rfl
theorem Lin.Vh (L:Lin S a B s){t:Nat}(l:a<=m) (o:m<=t) (j:t<a+S.n) (h:∀ i,a<=i->i<a+S.n->B i≠[]->s i≠t) :
  ((List.range' m<|t+1-m).filter fun i=>!(B i).isEmpty&&decide (t<=s i))=qsW B s m (t+1):=by
 unfold qsW;refine List.filter_congr fun x g=>xP (List.mem_range'_1.mp g)<|xA2 fun d f=>bT ((B x).isEmpty) (fun c=>?_) fun c=>?_
 .rfl
 .have b:B x≠[]:=fun e=>by rw[e]at c;exact xtf c
  have:=h x (dQ l d) ((la6 0x2a9608e04804984a2942040040200202118120210014) j d f rfl) b;show decide (t<=s x)=decide (t+1<=s x);rw[cF,b0,b0];exact o25 this
structure Fx (T U:QS) (a:Nat) (B:Nat->List Nat) (s:Nat->Nat) (t:Nat):Prop where
 same:FI T U
 occ:∀ u,a<=u/\u<a+T.n->U.occ (u%T.n)=T.occ (u%T.n)
 cont:∀ u,a<=u/\u<a+T.n->U.cont (u%T.n)=T.cont (u%T.n)
 shf:∀ u,a<=u/\u<a+T.n->U.shf (u%T.n)=if u<t then(T.E0 a B s).shf (u%T.n)else T.shf (u%T.n)
 rem:U.rem=T.rem
section
variable {T:QS}{a:Nat}{B:Nat->List Nat}{s:Nat->Nat}{m G:Nat}
theorem Fe (h:a<=u/\u<a+T.n):(T.E0 a B s).shf (u%T.n)=(T.shf (u%T.n)&&!decide (s u=u/\B u≠[])):=by
 show(T.shf (u%T.n)&&!G8 a T.n B s (u%T.n))=_;have:G8 a T.n B s (u%T.n)=decide (s u=u/\B u≠[]):=by
  rw[cF,HY h,b0]
 exact rE this rfl
theorem Fx.keep (h:Fx T U a B s t) (c:¬ (s t=t/\B t≠[])):Fx T U a B s (t+1):=by
 refine⟨h.same,h.occ,h.cont,fun u d=>rE (h.shf u d) ?_,h.rem⟩;by_cases e:u=t
 .refine iN (by exact (la2 0x30230210008400161) e)<|iP (by exact (la2 0xa08c08400212210011) e)<|rE (Fe d)<|rE e<|rE (bK c) ?_;simp
 .by_cases b:u<t
  .exact iP b<|iP (by exact dW b) rfl
  .exact iN b<|iN (by exact (la2 0x198430210009840016122100162) b e) rfl
theorem Fx.own (h:Fx T U a B s t) (f:a<=t/\t<a+T.n) (c:s t=t/\B t≠[]) (i:T.cont (t%T.n)=false) (g:T.occ (t%T.n)=true):Fx T (U.own<|t%T.n) a B s (t+1):=by
 refine⟨⟨h.same.q,h.same.cnt,h.same.auto,h.same.hf⟩,fun u b=>?_,fun u b=>?_,fun u b=>?_,h.rem⟩
 .refine (rE (A9 _ _ b f) ?_:Cn U.occ (t%T.n) true (u%T.n)=_);by_cases e:u=t
  .exact iP e<|rE e<|rE g rfl
  .exact iN e<|rE (h.occ u b) rfl
 .refine (rE (A9 _ _ b f) ?_:Cn U.cont (t%T.n) false (u%T.n)=_);by_cases e:u=t
  .exact iP e<|rE e<|rE i rfl
  .exact iN e<|rE (h.cont u b) rfl
 .refine (rE (A9 _ _ b f) ?_:Cn U.shf (t%T.n) false (u%T.n)=_);by_cases e:u=t
  .refine iP e<|iP (by exact (la2 0xa08c08400212210011) e)<|rE (Fe b)<|rE e<|rE (Ti c) ?_;simp
  .refine iN e<|rE (h.shf u b) ?_;by_cases d:u<t
   .exact iP d<|iP (by exact dW d) rfl
   .exact iN d<|iN (by exact (la2 0x198430210009840016122100162) d e) rfl
theorem W0 (g:U.n=N) (f:i<N) (d:l.length<=900):LV N e (U,i,c,l)=(match i==e with
  |true=>some<|.out (U,i,c,l)
  |false=>(match U.rs i,(match U.occ i with|true=>l++[i]|false=>l)with
   |true,[]=>none
   |true,a::b=>some<|.go (match a==i with|true=>U.own i|false=>U,U.nx i,(a:Int),b)
   |false,b=>some<|.go (match c==(i:Int)with|true=>U.own i|false=>U,U.nx i,c,b))):=by
 unfold LV;dsimp only;refine rE (Ti ⟨g,f,d⟩) ?_;try rfl
theorem W2 (L:Lin (T.E0 a B s) a B s) (hN:T.n<=900) (p:a<m) (aj:s m=m) (hG:G<=a+T.n):∀ f t U c,m<=t->t<=G->G-t<f->Fx T U a B s t->(c = -1\/∃ i,a<=i/\i<t/\c=((i%T.n:Nat):Int))->
  ∃ U' x,loop (LV T.n<|G%T.n) f (U,t%T.n,c,(qsW B s m t).map (·% T.n))=some (.next,(U',x))/\Fx T U' a B s G:=by
 have Q:(T.E0 a B s).n=T.n:=rfl;intro f;induction f with
 |zero=>intro t U c _ _ h;exact False.elim<|da h
 |succ f ih=>
  intro t U c O h2 h3 h hc;have V:((qsW B s m t).map (·% T.n)).length<=900:=by
   refine rE (b7 ..)<|have:(qsW B s m t).length<=(List.range' m<|t-m).length:=List.length_filter_le ..;have this:=List.length_range'▸this;?_;exact (la7 0xafb4024811850c29800040a004104800c1010384a2000e128006) hN p hG h2 this rfl
  have o:=W0 (e:=G%T.n) (c:=c) h.same.n (bR t T.CR) V;by_cases e:t=G
  .revert o;refine rS e fun o=>?_;rw[cI]at o;exact⟨U,_,CW o,h⟩
  .have b:a<=t/\t<a+T.n:=(la5 0xc3194a21809008264020041802001200300048004204400075) p hG O h2 e;have hb:(t%T.n==G%T.n)=false:=b4.mpr fun q=>e<|Ca (a:=a+1) ((la3 0x38230210400800110240202) p O) (by exact (la3 0x302302202100100201c8091090011) b) ((la4 0x1e09008418030400800110240203) p O h2) (by exact (la3 0x60880880840008091090011) hG) q;replace o:=hb▸o;have o1:m<=t+1:=dZ O;have o2:t+1<=G:=eA h2 e;have o3:G-(t+1)<f:=(la5 0x151698180c224084984800518404290093080488440440014) h3 o2 rfl rfl;have A:T.occ (t%T.n) = !(B t).isEmpty:=L.occ t b.1 b.2;have I:(match U.occ (t%T.n)with|true=>(qsW B s m t).map (·% T.n)++[t%T.n]|false=>(qsW B s m t).map (·% T.n))=((List.range' m<|t+1-m).filter fun i=>!(B i).isEmpty&&decide (t<=s i)).map (·% T.n):=by
    refine rS (L.push (m:=m) (dH p) O b.2)<|rE (h.occ t b)<|rE A ?_;cases(B t).isEmpty
    .simp
    .rfl
   have ah:U.nx (t%T.n)=(t+1)%T.n:=rS h.same.n Ez;have R:U.shf (t%T.n)=T.shf (t%T.n):=rE (h.shf t b)<|iN (cY _) rfl;have K:U.cont (t%T.n)=T.cont (t%T.n):=h.cont t b;have S:U.occ (t%T.n)=T.occ (t%T.n):=h.occ t b;dsimp only at o;replace o:=ah▸I▸o;have u:U.rs (t%T.n)=false->(∀ i,a<=i->i<a+T.n->B i≠[]->s i≠t)->¬ (s t=t/\B t≠[])->
     ∃ U' x,loop (LV T.n<|G%T.n) (f+1) (U,t%T.n,c,(qsW B s m t).map (·% T.n))=some (.next,(U',x))/\Fx T U' a B s G:=by
    intro hr ai D;have aq:(c==((t%T.n:Nat):Int))=false:=by
     refine b4.mpr fun Y=>?_;rcases hc with rfl|⟨i,r,P,rfl⟩
     .exact (la1 0x811010002445c1) Y
     .have:=Ca (a:=a) (N:=T.n) r ((la4 0x702402300048084604c080720210012) b P) b.1 b.2<|(la2 0x5c10c0840001440021) Y;exact (la2 0x282302100084001c2) P this
    replace o:=aq▸hr▸(L.Vh (m:=m) (dH p) O b.2 ai)▸o;have aa:LV T.n (G%T.n) (U,t%T.n,c,(qsW B s m t).map (·% T.n))=some (.go (U,(t+1)%T.n,c,(qsW B s m<|t+1).map (·% T.n))):=by
     refine o.trans ?_;cases(qsW B s m<|t+1).map (·% T.n)<;>rfl
    exact rE (DS aa)<|ih (t+1) U c o1 o2 o3 (h.keep D)<|hc.imp id fun⟨i,r,P,y⟩=>⟨i,r,dW P,y⟩
   rcases L.cover (t:=t) b.1 b.2 with⟨i,j,r,P,y,w⟩|⟨g1,g2⟩
   .have v:i<a+T.n:=(la4 0x702402300008084604c080720210012) b P;refine xP (L.slot (i:=i) (k:=j) r v y)<|xA3 fun c1 c2 _=>?_;have ao:=L.ge (i:=i) r<|cK v;have E:B i≠[]:=fun e=>by replace y:=e▸y;simp at y
    by_cases W:j=0
    .have C:s i=t:=(la3 0x12a8450202408800420840022) w W;have Z:T.cont (t%T.n)=false:=by
      have:(T.E0 a B s).cont (t%T.n)=false:=by refine rE w ?_;exact c1.trans (by refine rE W ?_;rfl)
      exact this
     refine xP (L.pop (m:=m) (dH p) O b.2 aj r C E v)<|xA3 fun p1 p2 p3=>?_;have ae:U.rs (t%T.n)=true:=by
      unfold QS.rs;refine rE K<|rE Z<|rE S<|rE R ?_;by_cases d:i=t
      .have:T.occ (t%T.n)=true:=by
        refine rE A<|rS d ?_;cases g:B i with
        |nil=>exact(E g).elim
        |cons=>rfl
       exact rE this rfl
      .have hF:(T.E0 a B s).shf (t%T.n)=true:=by
        exact rE w<|c2.trans<|bS.mpr<|(la4 0x63411808c102630400c002202002263) C p2 d
       replace hF:=(Fe b)▸hF;have:T.shf (t%T.n)=true:=by
        refine bT (T.shf<|t%T.n) (fun hT=>rfl) fun hT=>?_
        .replace hF:=hT▸hF;exact xft hF
       refine rE this ?_;simp
     replace o:=List.map_cons▸ae▸p3▸o;dsimp only at o;refine rE (DS o) ?_;by_cases d:i=t
     .have M:(i%T.n==t%T.n)=true:=rE d<|cI _;refine rE M ?_;have ag:T.occ (t%T.n)=true:=by
       refine rE A<|rS d ?_;cases g:B i with
       |nil=>exact(E g).elim
       |cons=>rfl
      exact ih (t+1) _ _ o1 o2 o3 (h.own b ⟨rS d<|(la3 0x66c1140880822000840022) C d,rS d E⟩ Z ag)<|.inr ⟨i,r,(la2 0xa08c08400212210011) d,rfl⟩
     .exact have M:(i%T.n==t%T.n)=false:=b4.mpr fun q=>d<|Ca (a:=a) r (by exact dt v) b.1 b.2 q;rE M<|ih (t+1) _ _ o1 o2 o3 (h.keep fun D=>have:=L.mono (i:=i) (j:=t) r (dh p2 d)<|rE Q<|dv b;have ak:=D.1;(la5 0x3a09808c2024020820304084001c4) y C this ak)<|.inr ⟨i,r,(la2 0x608808400012210011) p2,rfl⟩
    .have ar:T.cont (t%T.n)=true:=by
      have:(T.E0 a B s).cont (t%T.n)=true:=rE w<|c1.trans<|bS.mpr W;exact this
     refine u (by unfold QS.rs;refine rE K<|rE ar ?_;rfl) (fun H z F g l=>?_) fun D=>?_
     .have J:=cG.mpr g;rcases cC H i with q|q|q
      .have:=L.mono (i:=H) (j:=i) z q (by refine rE Q ?_;exact dI v);exact (la5 0x1d026021080c204004401822021002c4) w l J this
      .replace l:=q▸l;exact (la3 0x1a80450202409800822021002c3) w l W
      .have:=L.mono (i:=i) (j:=H) r q (by refine rE Q ?_;exact dI F);exact (la5 0x15826024020c202080801844084001c4) y w l this
     .have:=L.mono (i:=i) (j:=t) r ((la4 0x790114080982620000c10420840013) w ao W)<|rE Q<|dv b;exact (la5 0xd8260220809008308001844084001c4) y w this D.1
   .have X:=L.gap t b.1 b.2 g1 g2;have ab:T.shf (t%T.n)=false:=by
     have:(T.E0 a B s).shf (t%T.n)=false:=X.2;rw[Fe b,bK fun D=>D.2 g2]at this;simpa using this
    have af:T.occ (t%T.n)=false:=by refine rE A<|rE g2 ?_;rfl
    refine u (by unfold QS.rs;refine rE K<|rE S<|rE R<|rE X.1<|rE ab<|rE af ?_;rfl) (fun H z F g l=>?_) fun D=>D.2 g2;have J:=cG.mpr g;rcases cC H t with q|q|q
    .have:=L.mono (i:=H) (j:=t) z q (by refine rE Q ?_;exact dv b);exact (la4 0x72098080182080c011104084002c4) g1 l J this
    .exact have g:=q▸g;g g2
    .have:=L.ge (i:=H) z (by refine rE Q ?_;exact dI F);exact (la3 0x1a090080100202044002c3) l q this
end
theorem Lin.congr {a:Nat}(L:Lin S a B s) (m:FI S e) (h:∀ t,a<=t/\t<a+S.n->e.occ (t%S.n)=S.occ (t%S.n)/\e.cont (t%S.n)=S.cont (t%S.n)/\e.shf (t%S.n)=S.shf (t%S.n)/\e.rem (t%S.n)=S.rem (t%S.n)):Lin e a B s:=by
 have d:=m.n;refine⟨L.sa,L.ba,fun i c b=>?_,rE d L.top,fun i c b=>?_,fun i k r c b f=>?_,fun t c b f o=>?_,fun i c b=>?_⟩
 .rw [d]at b;exact L.next i c b
 .rw [d]at b ⊢;exact rE ((h i ⟨c,b⟩).1)<|L.occ i c b
 .rw [d]at b ⊢;exact xP (h _<|L.inW c b (bY.mp f).1)<|xA4 fun p j g l=>rE j<|rE g<|rE l<|L.run i k r c b f
 .rw [d]at b ⊢;exact xP (h t ⟨c,b⟩)<|xA4 fun p j g l=>rE j<|rE g<|L.gap t c b f o
 .rw [d]at b;exact L.srt i c b
theorem Lin.RT (L:Lin S a B s)(e:a<=u) (d:u<a+S.n) (b:s u=u) (c:B u≠[]):S.shf (u%S.n)=false:=by
 have:=(L.slot (i:=u) (k:=0) e d<|cG.mpr c).2.1;rw[Nat.add_zero,b]at this;refine rE this ?_;simp
theorem Out.La (O:Out S a B s q k G) (L:Lin S a B s) (R:UD S T a B q (s q+k) G<|k=0)(c:a<=u/\u<a+S.n) (i:¬ (s q+k<=u/\u<G-1)) :
  (T.E0 a (rmB B q k)<|dnS s q G).shf (u%S.n)=T.shf (u%S.n):=by
 have l:=R.same.n;refine xP (O.qG L)<|xA2 fun r p=>?_;have o:=O.g1;have f:=O.k1;have j:=Fe (T:=T) (B:=rmB B q k) (s:=dnS s q G) (u:=u) (a:=a)<|rE l c;rw[l]at j;refine rE j ?_;by_cases b:dnS s q G u=u/\rmB B q k u≠[]
 .refine rE (Ti b) ?_;have F:=R.shf u c;rw[b5 i]at F;have e:T.shf (u%S.n)=false:=by
   refine rE F ?_;by_cases g:u=G-1
   .exact iP g rfl
   .refine iN g ?_;rcases cC u q with h|h|h
    .rw [IG<|cK h,Ej<|by exact dX h]at b;exact L.RT c.1 c.2 b.1 b.2
    .subst h;rw[IG<|To _]at b;exact L.RT c.1 c.2 b.1 (fun m=>by rw[m]at f;simp at f)
    .refine T1 (U1 u G) (fun d=>?_) fun d=>?_
     .have:=O.off L h d;rw[Pr h d]at b;exact(o18 this b.1 f i g d).elim
     .rw [Ml d,Ej<|by exact dS h]at b;exact L.RT c.1 c.2 b.1 b.2
  exact rE e rfl
 .refine rE (bK b) ?_;simp
theorem Mv.iff  [Decidable d] [Decidable b] (h:Mv S T a p i d) (e:d↔b):Mv S T a p i b:=by
 refine⟨h.same,h.occ,fun t g=>rE (h.cont t g) ?_,h.shf,h.rem⟩;by_cases f:p<=t/\t<i
 .refine iP f<|iP f ?_;by_cases c:t=p/\d
  .exact iP c<|iP ⟨c.1,e.mp c.2⟩ rfl
  .exact iN c<|iN (fun z=>c ⟨z.1,e.mpr z.2⟩) rfl
 .exact iN f<|iN f rfl
theorem Out.W3 (O:Out S a B s q k G) (L:Lin S a B s)(hn:S.n+1<n) (hN:S.n<=900):∃ S',S.Mh n (q%S.n) ((s q+k)%S.n)=some S'/\FI S S'/\Lin S' a (rmB B q k) (dnS s q G):=by
 refine xP (O.qG L)<|xA2 fun e1 e2=>have q1:=O.q1;have k1:=O.k1;have g1:=O.g1;have g2:=O.g2;have hend:=O.toG L (To _) e2;xP (O.sro L)<|xA2 fun r1 r2=>?_;have hsro:S.sro ((s q+k)%S.n) ((s q+k+1)%S.n)=decide ((B q).length=1):=by
  unfold QS.sro;refine rE r1<|rE r2 ?_;rw[cF];simp;exact⟨fun h=>(la2 0x6a2114084884000088270020448022) k1 h,fun h=>⟨(la2 0x1701100848821000408022) k1 h,(la2 0xa08c08480212210001) h⟩⟩
 have hst:=L.JS (t:=s q+k+1) ((la4 0xe08c08c001106004901090002) e1 q1)<|(la5 0x382302304120040200213041091001202) g1 g2;rw[Bool.or_comm]at hst;have hhf:(k=0/\2<=(B q).length)↔(k=0/\2<=(B q).length):=Iff.rfl;unfold QS.Mh;refine rE Ez<|rE hst<|rE hsro ?_;by_cases hG:G=s q+k+1
 .refine rE (Ti<|rS hG O.g3)<|have R:=Mv.clear O L (T:=S) (rE hG Mv.start) hhf _ rfl;⟨_,rfl,?_,?_⟩
  .have:=R.same;rw[show G-1=s q+k by exact (la4 0x29c98584301093002849010918220210022) hG rfl]at this;exact this
  .have R':UD S (clq S (decide<|(B q).length=1) ((s q+k)%S.n)<|q%S.n) a B q (s q+k) G (k=0):=by
    rw[show G-1=s q+k by exact (la4 0x29c98584301093002849010918220210022) hG rfl]at R;exact R
   refine(O.lin L R').congr ⟨rfl,rfl,rfl,rfl⟩ fun t ht=>⟨rfl,rfl,?_,rfl⟩;have hNn:(QS.E0 (clq S (decide<|(B q).length=1) ((s q+k)%S.n)<|q%S.n) a (rmB B q k)<|dnS s q G).n=S.n:=R'.same.n;rw[hNn]at ht ⊢;exact(O.La L R' ht<|(la5 0x34a808e0425018a1220024808c1012020020762) hG rfl).symm
 .refine rE (bK<|O.g4 _ (by exact la2 0x821021220024200210)<|by exact (la3 0x19843021220024409880800848091001212) g1 hG) ?_;dsimp only;refine xE1 (L.Wz n (s q+k) ((la4 0x38230230004418020210012) e1 q1) ((la5 0xe08c08c1048010080084c104200212) g1 g2) ((la7 0x2bb008e04c101840288304a014203084409208440004) hn g1 g2 rfl)<|L.nonempty (i:=q) (dH q1) O.q2 k1) fun m=>xA5 fun m1 m2 m3 m4 m5=>rE m5 ?_;dsimp only;have hmq:m<=q:=by
   refine T1 (U1 q m) (fun h=>?_) fun h=>h
   .have:=L.mono (i:=q) (dH q1) h<|(la6 0x782402406100020212805080c2120210003) g1 g2 m2;exact (la6 0x2e098094184080028220810003040440004) k1 m2 m3 this
  have hmv:∃ i T,S.JM ((s q+k)%S.n) ((s q+k+1)%S.n)=(T,i%S.n,(i+1)%S.n)/\Mv S T a (s q+k) i (k=0/\2<=(B q).length)/\s q+k<=i/\i+1<=G/\¬ (i=s q+k/\(k=0/\2<=(B q).length)):=by
   unfold QS.JM;refine rE r1<|rE r2 ?_;by_cases hf:k=0/\2<=(B q).length
   .exact rE (Ti hf.1)<|rE (Ti<|show k+1<(B q).length by exact (la2 0x682402104400802710240211) hf) ⟨s q+k+1,_,(rE Ez rfl:(_,_,S.nx<|(s q+k+1)%S.n)=_),(Mv.head (by exact (la4 0xe08c088084600c00120210002) m1 m2)<|by exact (la6 0x1b82602504400882740a002030412003041091001213) g2 hend hf).iff<|by simp[hf],la2 0x821021220024200200,(la4 0xd82502304400882720600202024488009202) hend hf,la3 0x825022044008827100109100122760⟩
   .have:(decide (k=0)&&decide (k+1<(B q).length))=false:=by
     rw[Bool.eq_false_iff];simp;exact (la2 0x126219008411002009d84804200080291) hf
    exact rE this ⟨s q+k,S,rfl,Mv.start,To _,(la3 0x60880880800848091001201) g1,fun h=>hf h.2⟩
  refine xE2 hmv fun i T=>xA5 fun t1 t2 t3 t4 t5=>rE t1 ?_;dsimp only;refine gG (O.Wy L (dK hN) n i T t2 t3 t4 t5<|(la9 0x2bec00920500c00a80e182070c1280508048204600409208440006) hn g2 m1 m2 t3 rfl) fun T' u1 u2=>rE t2.same.n<|rE u1 ?_;dsimp only;refine have hT':=u2.same.n;rE (Ti<|show(G-1)%S.n<T'.n/\T'.n<=1000/\q%S.n<T'.n by rw[hT'];exact⟨bR _ S.CR,dK hN,bR _ S.CR⟩) ?_;dsimp only;have R:=Mv.clear O L u2 hhf _ rfl;generalize hWd:clq T' (decide<|(B q).length=1) ((G-1)%S.n) (q%S.n)=W at R;refine have hW:=R.same.n;have hF:=O.lin L R;?_;obtain⟨U,x,v1,v2⟩:=W2 (m:=m) (G:=G) hF ((la2 0x160900840020384a2000e128002) hN hW) m1 (rE (IG hmq) m3) ((la4 0x1a09008c102302100020210002) g2 hW) n m W (-1) (To _) ((la5 0x1e0900840940810182080c10400040003) m2 t3 t4) ((la6 0x2bb108e04a0c00a508048204600409208440014) hn g2 m1 rfl)
   ⟨⟨rfl,rfl,rfl,rfl⟩,fun _ _=>rfl,fun _ _=>rfl,fun u hu=>by
    by_cases hum:u<m
    .refine iP hum ?_;rw[hW]at hu ⊢;exact(O.La L R hu<|(la5 0x382402404044004800c1012020020762) m2 hum).symm
    .exact iN hum rfl,rfl⟩<|.inl rfl
  have hq0:(qsW (rmB B q k) (dnS s q G) m m).map (·% W.n)=[]:=by
   unfold qsW;exact rE (Nat.sub_self ..) rfl
  rw[hq0,hW,<- hWd]at v1;refine rE hT' ⟨U,cT (fun o:Option (AF×QS×Nat×Int×List Nat)=>match o with|some (.next,(S5,_))=>some S5|_=>none) v1,⟨v2.same.q.trans R.same.q,v2.same.cnt.trans R.same.cnt,v2.same.auto.trans R.same.auto,v2.same.hf.trans R.same.hf⟩,hF.congr ⟨v2.same.q,v2.same.cnt,v2.same.auto,v2.same.hf⟩ fun t ht=>have hht:(W.E0 a (rmB B q k)<|dnS s q G).n=W.n:=rfl;?_⟩;rw[hht]at ht ⊢;refine⟨v2.occ t ht,v2.cont t ht,?_,by refine rE v2.rem ?_;rfl⟩;refine rE (v2.shf t ht) ?_;by_cases htG:t<G
  .exact iP htG rfl
  .refine iN htG ?_;rw[hW]at ht ⊢;exact(O.La L R ht<|(la5 0x95408c0425018a404058c1012020020762) htG rfl).symm
theorem mem_erase :∀{l:List Nat}{k:Nat},l.Pairwise (·< ·)->l[k]?=some r->(x∈l.eraseIdx k↔x∈l/\x≠r):=by
 intro l;induction l with
 |nil=>intro k _ h;exact xns h
 |cons y l d=>
  intro k a c;rw[List.pairwise_cons]at a;induction k with
  |zero=>
   revert a;refine soE c fun a=>rE List.eraseIdx_cons_zero ?_;rw[bM];constructor
   .intro h;exact⟨.inr h,fun e=>by have:=a.1 x h;exact (la2 0x282302002044002c2) e this⟩
   .rintro ⟨h|h,e⟩
    .exact (e h).elim
    .exact h
  |succ k=>
   have b:l[k]?=some r:=c;refine rE List.eraseIdx_cons_succ ?_;rw[bM,bM,d a.2 b];constructor
   .rintro (h|h)
    .exact ⟨.inl h,fun e=>by have:=a.1 r<|ck b;exact (la3 0x32094088081200084002c3) h e this⟩
    .exact ⟨.inr h.1,h.2⟩
   .rintro ⟨h|h,e⟩
    .exact .inl h
    .exact .inr ⟨h,e⟩
theorem Has.remove (h:Has S C){q r n:Nat}(H:q<S.n) (I:S.n+1<n) (J:S.n<=900) :
  ∃ p,Jv n S [q,r]=some (.v .none,p)/\FI S p/\Has p fun F E=>C F E/\¬ (F=q/\E=r):=by
 refine xE3 h fun a B s=>xA2 fun L t=>gH (JQ S.n a q H) fun i l g e=>have m:decide (q<S.n/\S.n<=1000)=true:=Ti ⟨H,dK J⟩;?_;rcases L.Nn (r:=r) l g I with⟨k,f,d⟩|⟨f,d⟩
 .replace d:=e▸d;have o:=(bY.mp f).1;have A:a<i:=by
   refine T1 (U1 a i) (fun h=>h) fun h=>?_
   .have:i=a:=dR l h;replace o:=L.ba▸this▸o;simp at o
  refine xP (L.inW l g o) (xA2 fun _ y=>xE1 (L.stop _ (s i+k) rfl y) fun G=>xA4 fun Q P N M=>have O:Out S a B s i k G:=⟨A,g,o,Q,P,N,M⟩;gH (O.W3 L I J) fun p D K R=>?_);replace D:=e▸D;have u:Jv n S [q,r]=Mf (S.Mh n q<|(s i+k)%S.n):=by
   unfold Jv;dsimp only;refine rE m ?_;dsimp only;refine rE d ?_;show(match decide ((s i+k)%S.n<S.n)with|true=>_|false=>_)=_;exact rE (Ti<|show(s i+k)%S.n<S.n from bR _ S.CR) rfl
  refine⟨p,by refine rE u<|rE D ?_;rfl,K,a,_,_,R,fun j x c b=>?_⟩;rw[K.n]at b ⊢;by_cases w:j=i
  .subst w;refine rE JR ?_;rw[mem_erase (L.srt j c b) f,t j x c b,e];exact⟨fun h=>⟨h.1,fun z=>h.2 z.2⟩,fun h=>⟨h.1,fun z=>h.2 ⟨rfl,z⟩⟩⟩
  .refine rE (Ej w) ?_;rw[t j x c b];exact⟨fun h=>⟨h,fun z=>w<|Ca c b l g<|z.1.trans e.symm⟩,fun h=>h.1⟩
 .replace d:=e▸d;have u:Jv n S [q,r]=some (.v .none,S):=by
   unfold Jv;dsimp only;refine rE m ?_;dsimp only;exact rE d rfl
  refine⟨S,u,⟨rfl,rfl,rfl,rfl⟩,a,B,s,L,fun j x c b=>?_⟩;rw[t j x c b];refine⟨fun h=>⟨h,fun z=>have:j=i:=Ca c b l g<|z.1.trans e.symm;?_⟩,fun h=>h.1⟩;revert f;exact rS this fun f=>have h:=z.2▸h;f<|(t j r c b).mpr h
noncomputable def codes (N R a:Nat) (B:Nat->List Nat) (k:Nat):List Nat:=(List.range k).flatMap fun d=>(B<|a+d).map fun r=>(a+d)%N*2^R+r
theorem JU :codes N R a B (k+1)=codes N R a B k++(B<|a+k).map fun r=>(a+k)%N*2^R+r:=by
 unfold codes;exact rE List.range_succ<|rE List.flatMap_append<|rE (List.flatMap_singleton ..) rfl
noncomputable def Hu (a:Nat) (B:Nat->List Nat) (s:Nat->Nat) (k:Nat):List Nat:=(List.range k).filter fun d=>decide<|s (a+d)=a+d/\B (a+d)=[]
theorem Pt :(Hu a B s<|k+1).length=(Hu a B s k).length+if s (a+k)=a+k/\B (a+k)=[]then 1 else 0:=by
 unfold Hu;refine rE List.range_succ<|rE (List.filter_append ..)<|rE cE ?_;by_cases h:s (a+k)=a+k/\B (a+k)=[]
 .refine iP h<|rE List.filter_cons<|iP (Ti h) ?_;rfl
 .rw [b5 h,List.filter_cons];rw[b5<|by rw[bK h];exact Bool.false_ne_true];rfl
theorem Lin.count (L:Lin S a B s) (R:Nat):∀ k,k<=S.n->s (a+k)=a+(codes S.n R a B k).length+(Hu a B s k).length:=by
 intro k;induction k with
 |zero=>intro _;exact L.sa
 |succ k e=>
  refine fun b=>have c:=e<|(la2 0x608808409008040001) b;rE Pt<|rE JU<|rE cE<|rE (b7 ..)<|rE (show a+(k+1)=a+k+1 from rfl)<|rE (L.next (a+k) (dO)<|(la3 0x60880880910808004200211) b) ?_;by_cases h:s (a+k)=a+k/\B (a+k)=[]
  .exact iP h<|rE h.2<|rE List.length_nil<|have:=h.1;(la6 0x1334d2288220084a81090140804a8109002702810950212002810027850212023040424808498404821090023) c this<|mxk _ _
  .refine iN h ?_;have:s (a+k)≠a+k\/0<(B<|a+k).length:=by
    by_cases d:s (a+k)=a+k
    .exact .inr<|cG.mpr fun z=>h ⟨d,z⟩
    .exact .inl d
   exact (la7 0x66d964d9225944c944c9224918802300458084a09a04b01091850804b0109002730a10960212030a10027850c04204040424a080a0460821090024) c (L.ge (i:=a+k) (dO)<|(la3 0x60880880910808004200201) b) (mxk _ _) this
theorem Lin.two (L:Lin S a B s)(h:(codes S.n R a B S.n).length+2<=S.n):Two S:=by
 have j:=L.count R S.n<|To _;rw[L.top]at j;have i:2<=(Hu a B s S.n).length:=(la4 0x1609008008309103088811108001102) h j;have c:∀ d∈Hu a B s S.n,d<S.n/\s (a+d)=a+d/\B (a+d)=[]:=fun d q=>by
  exact xP (b9.mp q)<|xA2 fun t r=>⟨List.mem_range.mp t,bU r⟩
 have g:(Hu a B s S.n).Pairwise (·< ·):=List.pairwise_lt_range.filter _;generalize Hu a B s S.n=l at i c g;match l,i,c,g with
 |x::y::l,_,c,g=>
  exact xP (c x<|.head _)<|xA3 fun u p o=>xP (c y<|.tail _<|.head _) (xA3 fun f m k=>have b:x<y:=(List.pairwise_cons.mp g).1 y<|.head _;⟨(a+x)%S.n,(a+y)%S.n,bR _ S.CR,bR _ S.CR,fun e=>have:=Ca (a:=a) (by exact dO) (by exact (la4 0xe08c08c081206048004200212) f b) (by exact dO) (by exact dg f) e;(la3 0x28230210410020884001c2) b this,L.E8 (dO) ((la4 0xe08c08c081206048004200212) f b) p o,L.E8 (dO) (dg f) m k⟩)
structure CS (S:QS) (held:List Nat):Prop where
 has:Has S fun q r=>∃ h∈held,S.hq h=q/\S.hr h=r
 nd:held.Nodup
 lt:∀ h∈held,h<2^32
 q3:3<=S.q
 q9:S.q<=9
theorem hqr (S:QS) (h:Nat):S.hq h*2^S.r+S.hr h=h:=Nat.div_add_mod' h _
theorem Yq (S:QS) (h:Nat):S.hr h<2^S.r:=bR _<|Nat.two_pow_pos _
theorem Vi {S:QS}(h:r<2^S.r):S.hq (q*2^S.r+r)=q:=by
 unfold QS.hq;exact rE (Nat.mul_comm ..)<|rE (Nat.mul_add_div (Nat.two_pow_pos _) ..)<|rE (Nat.div_eq_of_lt h)<|rE (Nat.add_zero ..) rfl
theorem Mn {S:QS}{h:Nat}(a:S.q<=32) (b:h<2^32):S.hq h<S.n:=by
 unfold QS.hq;rw[Nat.div_lt_iff_lt_mul<|Nat.two_pow_pos _,<- Nat.pow_add];exact rE (show S.q+(32-S.q)=32 by exact (la2 0x2986a84281000020a22800828000020a200222) a rfl) b
theorem Lin.JV (L:Lin S a B s)(G:S.q<=32) (D:b.Nodup) (E:∀ h∈b,h<2^32)
  (w:∀ i r,a<=i->i<a+S.n->(r∈B i↔∃ h∈b,S.hq h=i%S.n/\S.hr h=r)):(codes S.n S.r a B S.n).Perm b:=by
 have m:∀ d r,d<S.n->r∈B (a+d)->r<2^S.r:=fun d r g l=>by
  exact gH ((w (a+d) r (dO)<|dg g).mp l) fun h _ _ e=>rS e<|Yq S h
 refine(List.perm_ext_iff_of_nodup ?_ D).mpr fun x=>?_
 .unfold codes List.Nodup;rw[List.pairwise_flatMap];refine⟨fun d g=>?_,?_⟩
  .rw [List.pairwise_map];have c:=List.mem_range.mp g;exact(L.srt (a+d) (dO)<|dg c).imp fun h e=>by exact (la3 0x28230210410020884001c2) h e
  .refine List.Pairwise.imp_of_mem ?_<|List.pairwise_lt_range (n:=S.n);intro d e g H v x j y F f;refine xE1 (List.mem_map.mp j) fun r=>xA2 fun l=>fun k=>?_;revert f;refine rS k fun f=>xE1 (List.mem_map.mp F) fun C=>xA2 fun u=>fun k=>?_;revert f;refine rS k fun f=>have c:=List.mem_range.mp g;have o:=List.mem_range.mp H;have t:=Vi (q:=(a+d)%S.n)<|m d r c l;?_;rw[f,Vi<|m e C o u]at t;exact have:=Ca (a:=a) (by exact dO) (by exact dg o) (by exact dO) (by exact dg c) t;(la3 0x18230200410820884001c2) v this
 .unfold codes;rw[List.mem_flatMap];constructor
  .exact xF1 fun d=>xA2 fun g j=>have c:=List.mem_range.mp g;xE1 (List.mem_map.mp j) fun r=>xA2 fun l=>fun k=>rS k<|gH ((w (a+d) r (dO)<|dg c).mp l) fun h t J I=>rS J<|rS I<|rE (hqr ..) t
  .exact fun j=>gH (JQ S.n a (S.hq x)<|Mn G<|E x j) fun i p A z=>⟨i-a,List.mem_range.mpr<|(la4 0xa9b08c0440c00a10411813040040013) p A rfl,List.mem_map.mpr ⟨S.hr x,rE (show a+(i-a)=i by exact eC p rfl)<|(w i _ p A).mpr ⟨x,j,z.symm,rfl⟩,rE (show a+(i-a)=i by exact eC p rfl)<|rE z<|rE (hqr ..) rfl⟩⟩
theorem CS.two (H:CS S b) (h:b.length+2<=S.n):Two S:=xE3 H.has fun a B s=>xA2 fun L c=>L.two (R:=S.r)<|rE ((L.JV (dj H.q9) H.nd H.lt c).length_eq) h
theorem CS.Pw (H:CS S a):S.n<=512:=by
 have:S.n<=2^9:=Nat.pow_le_pow_right (by exact la [] [] 0x20840888110<|by kernel_rfl) H.q9;exact this
theorem Lb {S:QS}(c:S.hq h=S.hq a) (b:S.hr h=S.hr a):h=a:=rS (hqr S h)<|rE c<|rE b<|rE (hqr ..) rfl
theorem Has.iff (h:Has S C) (e:∀ q r,q<S.n->(C q r↔b q r)):Has S b:=xE3 h fun a B s=>xA2 fun L c=>⟨a,B,s,L,fun i r f d=>(c i r f d).trans<|e _ _<|bR _ S.CR⟩
theorem FI.hqe (h:FI S T) (x:Nat):T.hq x=S.hq x:=by unfold QS.hq QS.r;exact rE h.q rfl
theorem FI.hre (h:FI S T) (x:Nat):T.hr x=S.hr x:=by unfold QS.hr QS.r;exact rE h.q rfl
theorem CS.cal (H:CS S a){h:Nat}(f:h<2^32) (d:S.n+1<n) :
  (h∈a/\∃ j:Nat,QF.cal S n (S.hq h) (S.hr h)=some (j:Int))\/(h∉a/\QF.cal S n (S.hq h) (S.hr h)=some (-1)):=by
 rcases H.has.cal (r:=S.hr h) (Mn (S:=S) (dj H.q9) f) d with⟨⟨i,b,c,g⟩,j,_,e⟩|⟨b,c⟩
 .rw [Lb c g]at b;exact .inl ⟨b,j,e⟩
 .exact .inr ⟨fun z=>b ⟨h,z,rfl,rfl⟩,c⟩
theorem CS.chk (H:CS S a)(d:h<2^32) (e:S.n+1<n):EV n S [h]=some (.v<|.bool<|decide<|h∈a,S):=by
 unfold EV;dsimp only;refine rE (Ti<|show S.hq h<S.n/\S.n<=1000 from⟨Mn (dj H.q9) d,eD H.Pw⟩) ?_;dsimp only;rcases H.cal d e with⟨c,j,b⟩|⟨c,b⟩
 .refine rE b<|rE (Ti c) ?_;have:((j:Int) != -1)=true:=bS.mpr<|la1 0x41101091000560;dsimp only;exact rE this rfl
 .exact rE b<|rE (bK c) rfl
theorem CS.rem (H:CS S a)(m:h<2^32) (l:S.n+1<n) :
  ∃ f,Mj n S [h]=some (.v .none,f)/\FI S f/\CS f (a.filter fun x=>x != h):=by
 refine gH (H.has.remove (r:=S.hr h) (Mn (S:=S) (dj H.q9) m) l<|(la1 0x1822020200a0000e128001) H.Pw) fun f s d p=>⟨f,?_,d,?_,H.nd.filter _,fun x k=>H.lt x (b9.mp k).1,rE d.q H.q3,rE d.q H.q9⟩
 .unfold Mj;dsimp only;exact rE s rfl
 .refine p.iff fun q r _=>?_;constructor
  .refine xA2 fun j=>?_;revert j;refine xF1 fun x=>xA3 fun i c b=>fun g=>⟨x,b9.mpr ⟨i,bS.mpr fun e=>?_⟩,(d.hqe x).trans c,(d.hre x).trans b⟩;rw[e]at c b;exact g ⟨c.symm,b.symm⟩
  .refine xF1 fun x=>xA3 fun i c b=>xP (b9.mp i)<|xA2 fun g o=>?_;rw[d.hqe]at c;rw[d.hre]at b;refine⟨⟨x,g,c,b⟩,fun z=>bS.mp o<|Lb (S:=S) (c.trans z.1)<|b.trans z.2⟩
noncomputable def BB (a:List Nat) (h:Nat):List Nat:=if h∈a then a else a++[h]
theorem CS.JN (H:CS S b)(w:h<2^32) (I:S.n+1<n) (K:h∉b->S.cnt<S.n/\b.length+2<=S.n) :
  ∃ c,S.JN n h=some (.v .none,c)/\c.q=S.q/\c.auto=S.auto/\c.hf=S.hf/\c.cnt=S.cnt+(if h∈b then 0 else 1)/\CS c (BB b h):=by
 have D:=H.Pw;have l:=Mn (S:=S) (dj H.q9) w;unfold QS.JN BB;refine rE (Ti<|show S.hq h<S.n/\S.n<=1000 from⟨l,eD D⟩) ?_;dsimp only;rcases H.cal w I with⟨f,j,E⟩|⟨f,E⟩
 .refine rE E<|iP f<|iP f ?_;have:((j:Int) == -1)=false:=b4.mpr<|la1 0x41101091000560;dsimp only;exact rE this ⟨S,rfl,rfl,rfl,rfl,rfl,H⟩
 .refine rE E<|iN f<|iN f<|xP (K f) (xA2 fun C A=>have u:¬ ∃ o∈b,S.hq o=S.hq h/\S.hr o=S.hr h:=fun⟨o,z,p,d⟩=>f<|rS (Lb p d) z;gH (H.has.add (H.two A) l u I<|eD D) fun c P g O=>⟨c.inc,?_,g.q,g.auto,g.hf,by show c.cnt+1=_;exact rE g.cnt rfl,?_,?_,?_,by refine(rE g.q ?_:3<=c.q);exact H.q3,by exact(rE g.q H.q9:c.q<=9)⟩)
  .show Mg n S [S.hq h,S.hr h]=_;unfold Mg;dsimp only;refine rE (Ti<|show S.hq h<S.n/\S.n<=1000/\S.n≠S.cnt from⟨l,eD D,dS C⟩) ?_;dsimp only;exact rE P rfl
  .have N:Has c.inc fun G F=>(∃ o∈b,S.hq o=G/\S.hr o=F)\/G=S.hq h/\F=S.hr h:=by
    exact xE3 O fun a B s=>xA2 fun L M=>⟨a,B,s,⟨L.sa,L.ba,L.next,L.top,L.occ,L.run,L.gap,L.srt⟩,M⟩
   have k:∀ x,c.inc.hq x=S.hq x:=g.hqe;have i:∀ x,c.inc.hr x=S.hr x:=g.hre;refine N.iff fun q r _=>?_;constructor
   .rintro (⟨x,p,d,m⟩|⟨rfl,rfl⟩)
    .exact ⟨x,Lf _ p,(k x).trans d,(i x).trans m⟩
    .exact ⟨h,Bl _<|.head _,k h,i h⟩
   .refine xF1 fun x=>xA3 fun p d m=>?_;rw[k]at d;rw[i]at m;refine T1 (X1.mp p) (fun z=>.inl ⟨x,z,d,m⟩) fun z=>?_
    .rw [bO.mp z]at d m;exact .inr ⟨d.symm,m.symm⟩
  .refine SF.mpr ⟨H.nd,by simp,fun x t y J e=>?_⟩;rw[bO.mp J]at e;rw[e]at t;exact f t
  .exact fun x t=>T1 (X1.mp t) (fun z=>H.lt x z) fun z=>rE (bO.mp z) w
noncomputable def Sg (M:Model) (A:Around) (d:End->Shared->Prop) (c:Code) (t:Sem Fin) (f:List Frame) (s:Shared):Prop:=
 ∀ a p,a.code=c->a.Woken A->∃ e b,Runs M a p t f s e b/\d e b
section
variable {M:Model}{A:Around}{i:End->Shared->Prop}{c:Code}{d:List Frame}{s:Shared}{j:Env}
theorem EH {K:n->Sem Fin}
  (h:wpAny M (A.over c d) m (fun a e=>Sg M A i c (K a) d e) (fun x e=>Sg M A i c (H x) d e) s):Sg M A i c (m.wrap K H gd lv) d s:=by
 rintro f p g b;subst g;exact runs_wrap_of_wp K H gd lv m (h (f.over d) p<|b.over d) (fun a k e l=>l f k rfl b) fun x k e l=>l f k rfl b
theorem Mo (h:Sg M A i c (k ()) d s):Sg M A i c (.at a k) d s:=
 EH (m:=standAt a) (K:=k) (H:=.raise) (gd:=id) (lv:=id)<|wpAny_standAt h
theorem RU (h:Sg M A i c (k ()) d s):Sg M A i c (.point l k) d s:=
 EH (m:=point) (K:=k) (H:=.raise) (gd:=id) (lv:=fun _=>l)<|wpAny_point h
theorem UE {h g l}(t:∀ p,Sg M A i a (M.den a) (.ret k h g l c p []::d) s):Sg M A i c (.call a h g l k) d s:=by
 rintro m p b f;subst b;exact bc fun o=>xE2 (t p (m.goto a) p rfl<|f.goto a) fun e n=>xA2 fun q r=>o ⟨e,n,runs_call_seg q,r⟩
theorem UG {k h g l c₁ a n}(r:Result) (q:Sg M A i c₁ (k r) d s):Sg M A i c (leafOf r) (.ret k h g l c₁ a n::d) s:=by
 rintro f p rfl b;exact xE2 (q (f.goto c₁) a rfl<|b.goto c₁) fun e m=>xA2 fun o t=>⟨e,m,Runs.pop r o,t⟩
theorem JW (k:a.quiet=true) (m:Sg M A i a (M.den a) d s):Sg M A i c (.pure<|.again a) d s:=by
 rintro f p rfl b;exact xE2 (m (f.goto a) p rfl<|b.goto a) fun e g=>xA2 fun h l=>⟨e,g,Runs.head (c₁:=a) (fun _ _ x=>.again k x) h,l⟩
theorem W4 (r:Result) (h:i (.ret r) s):Sg M A i c (leafOf r) [] s:=by
 rintro a p rfl _;exact⟨.ret r,s,Runs.leaf r,h⟩
theorem RV {v g l}(b:splitAtGen d=none) (h:∀ p,i (.susp v g l k c p d) s):Sg M A i c (.yield v g l k) d s:=by
 rintro e p a _;subst a;exact⟨_,s,Runs.yield' d b,h p⟩
section
variable {K:Flow->Sem Fin}{H:Value->Sem Fin}{a:Bool->Bool}{b:List Value->List Value}
set_option backward.match.sparseCases true in
theorem Ov 
  (h:Sg M A i c ((exec g j).wrap (fun f=>match f with|.next=>(execs e j).wrap K H a b|f=>K f) H a b) d s):Sg M A i c ((execs (g::e) j).wrap K H a b) d s:=rE (execs_cons_wrap ..) h
theorem RW (r:splitAtGen d=none)
  (h:wpAny M (A.over c d) (eval e j) (fun v o=>∀ g l k p,g=a false->(∀ u q m,Sg M u q c (K .next) d m->Sg M u q c (k<|.send .none) d m)->i (.susp v g l k c p d) o)
   (fun x o=>Sg M A i c (H x) d o) s) (t:j.scope.isCoroutine=false) (y:interactive j=false) :
  Sg M A i c ((exec (.Expr (.Yield (some e) f) n) j).wrap K H a b) d s:=by
 refine rE (exec_Expr j _ n y rfl) ?_;have w:∀ v,yieldOut j v=yieldValue v:=fun v=>by simp only [yieldOut,t,dD,if_false]
 refine Mo ?_;show Sg M A i c (((eval e j >>= fun v=>(standAt f >>= fun _=>yieldOut j v)) >>= fun x=>dropValue (.Yield (some e) f) n x).wrap K H a b) d s;simp only [w];exact rE (c5 ..)<|rE (c5 ..)<|rE (Sem.wrap_wrap ..)<|rE (Sem.wrap_wrap ..)<|EH<|cg h (fun v o z=>Mo<|RV r fun p=>z _ _ _ p rfl fun u q m x=>x) fun _ _ x=>x
end
end
noncomputable def Wk (M:Model) (A:Around) (a:End->Shared->Prop) (b:GenState) (s:Shared):Prop:=match b with
 |.fresh c=>Sg M A a c (M.den c) [] s
 |.suspended k _ c _ d _=>Sg M A a c (k<|.send .none) d s
 |_=>False
theorem Py 
  (B:s.gens[g]?=some u) (b:Wk M A n u<|s.setGen g .running)
  (D:∀ e a,n e a->e.quiet=true/\wpAny M A (k e.result) Q E (a.setGen g e.genState)):wpAny M A (.resume g (.send .none) l k) Q E s:=by
 refine fun m p d=>rE (Sem.wp_resume ..) ?_;have j:∀ c t w o,Sg M A n c t w (s.setGen g .running)->∃ e a,Runs M (m.wake c p) o t w (s.setGen g .running) e a/\e.quiet=true/\wpAny M A (k e.result) Q E (a.setGen g e.genState):=fun c t w o h=>by
  exact xE2 (h (m.wake c p) o rfl<|d.wake c p) fun e a=>xA2 fun i C=>⟨e,a,i,D e a C⟩
 induction u with
 |fresh c=>
  exact bc fun q=>xE2 (j _ _ _ p b) fun e a=>xA3 fun i r h=>q ⟨_,_,by unfold Wakes;exact rE B ⟨e,a,i,r,rfl,rfl⟩,h m p d⟩
 |suspended z y c₀ f v cl=>
  exact bc fun q=>xE2 (j _ _ _ f b) fun e a=>xA3 fun i r h=>q ⟨_,_,by unfold Wakes;exact rE B ⟨e,a,i,r,rfl,rfl⟩,h m p d⟩
 |running=>exact b.elim
 |finished=>exact b.elim
theorem UH 
  (C:A.handled=none) (B:s.heap.NoLimit) (f:A.depth<recursionLimit) (k:s.heap.IsGen a g) (j:s.gens[g]?=some gs) (i:Wk (model d w) A.in1 Φ gs<|s.setGen g .running)
  (G:∀ e c,Φ e c->e.quiet=true/\match e with
   |.susp v _ _ _ _ _ _=>Q (some v)<|c.setGen g e.genState
   |.ret r=>r=.ok (.ret .none)/\∀ t,(∀ b o,c.heap.get? b=some o->t.get? b=some o)->Q none {c.setGen g .finished with heap:=t}) :
  wpAny (model d w) A (pyNext<|.ref a) Q E s:=by
 unfold pyNext;refine U2<|wpAny_attempt<|wpAny_callSpecial?_slot (name:=Str.ofString "__next__") k.typeIs slot_gen_next
  (wpAny_call_entry slot_gen_next k.typeIs entry_gen_next ?_<|args_gen_next _)
 show wpAny _ _ (Builtin.Generator.genWake (.ref a)<|.send .none) _ _ s;unfold Builtin.Generator.genWake;refine U2<|cz<|wpAny_genNumber k<|U2<|wpAny_genState j ?_;induction gs with
 |running=>exact i.elim
 |finished=>exact i.elim
 |_=>
  refine U2<|wpAny_roomToWake B f (Py j i (fun e c D=>xP (G e c D)<|xA2 fun y h=>⟨y,?_⟩):wpAny _ _ (.resume g (.send .none) [] _) _ _ s);induction e with
  |susp v u p q c₀ n l=>exact bZ ⟨v,rfl,bZ h⟩
  |ret r=>
   refine xP h<|xA2 fun x=>rE x fun z=>(U2 ?_:wpAny _ _ (newExc (.type "StopIteration") [] >>= _) _ _ _);simp only[newExc,newTuple];refine U2<|wpAny_newObj_type (U2 (m:=firstArgMember _ _)<|wpAny_of_eq (a:=Value.none) (by first|rfl|(simp only[firstArgMember];rfl))<|wpAny_newObj_type ?_<|by size_fits) (by size_fits);unfold raiseNew;dsimp only;refine U2<|U2<|wpAny_handled<|rE (show A.in1.handled=none from C)<|wpAny_throw<|U2<|wpAny_isInstance (T:="StopIteration") (b:=true) ⟨_,Heap.get?_push_size _ rfl,rfl⟩ isSubtype_stop ?_;exact bZ<|z _ fun b o F=>cS _<|cS _ F
section
variable {M:Model}{A:Around}{j:End->Shared->Prop}{c:Code}{d:List Frame}{s:Shared}{b:Env}
 {K:Flow->Sem Fin} {H:Value->Sem Fin} {e:Bool->Bool} {i:List Value->List Value}
theorem Lc (r:List Stmt):∀ l:List Stmt,(execs (l++r) b).wrap K H e i=(execs l b).wrap (fun f=>match f with|.next=>(execs r b).wrap K H e i|f=>K f) H e i:=by
 intro l;induction l with
 |nil=>rfl
 |cons st l a=>
  exact rE List.cons_append<|rE (execs_cons_wrap ..)<|rE (execs_cons_wrap ..)<|rE a<|Sem.wrap_congr _ _ _ (fun f=>by induction f<;>rfl) fun _=>rfl
theorem Kj (h:wpAny M (A.over c d) (execs l b) (fun f a=>Sg M A j c (match f with|.next=>(execs r b).wrap K H e i|f=>K f) d a) (fun _ _=>False) s) :
  Sg M A j c ((execs (l++r) b).wrap K H e i) d s:=rE (Lc ..)<|EH<|cg h (fun _ _ g=>g) fun _ _ h=>h.elim
theorem W5 (t:∀ x,foldedSetIterable iter b x=pure x)
  (h:wpAny M (A.over c d) (eval iter b) (fun x m=>wpAny M (A.over c d) (pyIter x) (fun o n=>
   ∀ k g l p,g=e false->(∀ f,k (.ok f)=K f)->Sg M A j (.forLoop target o body [] b) (M.den<|.forLoop target o body [] b) (.ret k none g l c p []::d) n) (fun _ _=>False) m) (fun _ _=>False) s) :
  Sg M A j c ((exec (.For target iter body [] pos) b).wrap K H e i) d s:=rE (exec_For ..)<|Mo (rE (c5 ..) (rE (Sem.wrap_wrap ..)<|EH<|cg h (fun x m r=>rE (t ..)<|Mo (rE (c5 ..) (rE (Sem.wrap_wrap ..)<|EH<|cz<|cg r (fun o n q=>UE fun p=>q _ _ _ p rfl fun f=>rfl) fun _ _ h=>h.elim):Sg M A j c ((holding [x] (pyIter x) >>= fun o=>runOwn (.forLoop target o body [] b) b).wrap K H _ _) d m)) fun _ _ h=>h.elim):Sg M A j c ((eval iter b >>= fun a=>foldedSetIterable iter b a >>= fun x=>standAt iter.pos >>= fun _=>holding [x] (pyIter x) >>= fun o=>runOwn (.forLoop target o body [] b) b).wrap K H e i) d s)
end
theorem Ow (m:∀ v,letOwnedTupleGo e i v=pure ())
  (h:wpAny (model b w) (A.over (.forLoop e i f [] a) c) (pyNext i) (fun o g=>match o with
   |none=>Sg (model b w) A d (.block [] a) (.pure<|.done .next) c g
   |some v=>wpAny (model b w) (A.over (.forLoop e i f [] a) c) (assign e a v) (fun _ j=>
     ∀ K H,(K .next=.pure (.again<|.forLoop e i f [] a))->(K .cont=.pure (.again<|.forLoop e i f [] a))->
      Sg (model b w) A d (.forLoop e i f [] a) ((execs f a).wrap K H id id) c j) (fun _ _=>False) g) (fun _ _=>False) s) :
  Sg (model b w) A d (.forLoop e i f [] a) ((model b w).den<|.forLoop e i f [] a) c s:=by
 show Sg _ A d _ ((forTurn e i f [] a).onRaise fun x=>do noteFrame x a;theTreesLotGoes x) c s;unfold forTurn;refine rE (Sem.onRaise_eq_wrap ..)<|Mo (rE (c5 ..) (rE (Sem.wrap_wrap ..)<|rE (Sem.onRaise_eq_wrap ..)<|rE (Sem.wrap_wrap ..)<|EH<|cg h (fun o g k=>?_) fun _ _ h=>h.elim):Sg _ A d _ (((pyNext i).onRaise (fun _=>standAt {e.pos with line:=0}) >>= _).wrap _ _ _ _) c s);induction o with
 |none=>exact JW rfl k
 |some v=>
  refine(rE (m v) ?_:Sg _ A d _ ((letOwnedTupleGo e i v >>= fun _=>assign e a v >>= _).wrap _ _ _ _) c g);refine(rE (c5 ..) (rE (Sem.wrap_wrap ..)<|EH<|cg k (fun _ j l=>?_) fun _ _ h=>h.elim):Sg _ A d _ ((assign e a v >>= _).wrap _ _ _ _) c g);show Sg _ A d _ ((execs f a >>= _).wrap _ _ _ _) c j;exact rE (c5 ..)<|rE (Sem.wrap_wrap ..)<|l _ _ rfl rfl
theorem UI (h:∀ K H,(∀ f,K f=.pure (.done<|.ret<|match f with|.ret v=>v|_=>.none))->Sg (model b w) A d (.func e a) ((execs e a).wrap K H id id) c s) :
  Sg (model b w) A d (.func e a) ((model b w).den<|.func e a) c s:=by
 refine(RU ?_:Sg (model b w) A d _ (.point [] fun _=>((execs e a).onRaise<|leaving a) >>= _) c s);refine rE (Sem.onRaise_eq_wrap ..)<|rE (c5 ..)<|rE (Sem.wrap_wrap ..) ?_;exact h _ _ fun f=>by induction f<;>rfl
noncomputable def Ld (h:Heap) (n:Nat):Heap:=⟨h.objs.extract 0 n,h.life⟩
theorem Le {b:Nat}(c:b<n):(Ld h n).get? b=h.get? b:=by
 have e:(Ld h n).objs[b]?=h.objs[b]?:=by
  refine(rE Array.getElem?_extract ?_:(h.objs.extract 0 n)[b]?=_);by_cases a:b<h.objs.size
  .exact iP (Nat.lt_min.mpr ⟨c,a⟩)<|rE (Nat.zero_add _) rfl
  .exact iN (fun h=>a (Nat.lt_min.mp h).2)<|rE (Array.getElem?_eq_none<|Nat.le_of_not_lt a) rfl
 unfold Heap.get?;exact rE e rfl
theorem HZ :(Ld h n).objs.size<=n:=(rE Array.size_extract (Nat.min_le_left _ _):(h.objs.extract 0 n).size<=n)
theorem UJ (a:n<=b):(Ld h n).get? b=none:=oE ((Ld h n).get? b) (fun e=>rfl) fun o e=>absurd (cj (Heap.lt_size e) HZ)<|Nat.not_lt.mpr a
theorem Np {s:Shared}(H:Cx Z n A c L E) (F:Fr c L s.heap m) (R:SR c L s.heap G)
  (W:L<f) (hn:s.heap.Ns f U) (hG:G f=none) :
  ∃ g,Fr g f s.heap U/\SR g f s.heap G/\(∃ v t d,Below v t d g/\A.frames=some d)/\Z.K.In g/\Top Z.p Z.loose Z.K3 Z.mg Z.mb g/\
   ∀ D V S,Fr g f D V->SR g f D S->Fr c L D m/\SR c L D S:=by
 refine bc fun C=>gG R fun j N r=>C ?_;let z:=j.filter fun p=>decide<|p.1≠f;have I:∀ p,p∈z↔p∈j/\p.1≠f:=fun p=>by
  show p∈j.filter _↔_;rw[b9,b0]
 let g:=Ld (hideAll s.heap (z.map (·.1))) f;have l:∀ b o,b<f->(∀ p∈j,p.1≠b)->s.heap.get? b=some o->g.get? b=some o:=fun b o hb i e=>by
  refine(rE (Le hb) ?_:(Ld _ f).get? b=_);exact hideAll_get _ e fun M=>gG (List.mem_map.mp M) fun p P J=>i p ((I p).mp P).1 J
 have u:∀ b o,g.get? b=some o->s.heap.get? b=some o:=fun b o e=>by
  have e':(Ld (hideAll s.heap (z.map (·.1))) f).get? b=some o:=e;rw[Le<|cj (Heap.lt_size e) HZ]at e';exact of_hideAll _ e'
 have O:∀ p∈z,g.get? p.1=none:=fun p i=>by
  refine T1 (U1 p.1 f) (fun h=>?_) fun h=>UJ h
  .show (Ld _ f).get? p.1=none;exact rE (Le h)<|hideAll_none _<|List.mem_map_of_mem i
 have k:∀ b o,c.get? b=some o->g.get? b=some o:=fun b o e=>by
  refine l b o (cj (Heap.lt_size e)<|bW F.above<|cK W) (fun p i q=>?_)<|F.keep b o e;have:=(N p i).2.2;rw[q,e]at this;exact xsn this
 refine bc fun C=>xE3 F.ns fun y Y ep=>xA2 fun P J=>have x:g.get? L=some y:=l L y W (fun p i=>(N p i).2.1) P;have Fg:Fr c L g m:=⟨⟨y,Y,ep,x,J⟩,k,F.above⟩;xE3 H.bel fun v t d=>xA2 fun B hA=>C ⟨g,⟨hn,u,HZ⟩,⟨z,fun p i=>⟨(N p ((I p).mp i).1).1,((I p).mp i).2,O p i⟩,fun a o e=>?_⟩,⟨_,t,E::d,pushX B Fg H.fr H.kf,hA⟩,H.X.keeps k,H.T.keeps k,fun D V S F' R'=>?_⟩
 .refine gG (r a o e) fun ob M hi=>⟨ob,(I _).mpr ⟨M,fun q=>have q:a=f:=q;?_⟩,hi⟩;rw[q,hG]at e;exact xns e
 .refine bc fun C=>gG R' fun w Q r'=>C ⟨⟨⟨y,Y,ep,F'.keep L y x,J⟩,fun b o e=>F'.keep b o<|k b o e,F.above⟩,w,fun p i=>⟨(Q p i).1,fun q=>?_,?_⟩,r'⟩
  .have:=(Q p i).2.2;rw[q,x]at this;exact xsn this
  .refine oE (c.get? p.1) (fun e=>rfl) fun o e=>?_
   .have:=(Q p i).2.2;rw[k _ _ e]at this;exact xsn this
theorem W6 {A:Around}(k:A.handled=none) (l:A.depth+n+1<recursionLimit) (i:A.units+8*n+3<cLine)
  (X:Z.K.In g) (T:Top Z.p Z.loose Z.K3 Z.mg Z.mb g) (e:∃ d b a,Below d b a g/\A.frames=some a) (j:iK c) (m:c.cdv≠.ref 503) :
  Cx Z n (A.over (.func body<|c.env L') []) g L' (c.env L'):=by
 refine bc fun f=>xE3 e fun d b a=>xA2 fun B o=>f ⟨k,o14 l,o15 i,X,T,⟨d,b,a,B,?_⟩,rfl,j,fun h=>(m h).elim⟩
 .refine (rE o ?_:(A.frames.map _)=_);rfl
theorem Ox {A:Around}{g:Heap}{c:FC}(m:A.handled=none) (o:A.depth+n+1<recursionLimit) (i:A.units+8*n+3<cLine)
  (X:Z.K.In g) (T:Top Z.p Z.loose Z.K3 Z.mg Z.mb g) (e:∃ d b a,Below d b a g/\A.frames=some a) (j:iK c) (q:c.cdv≠.ref 503) :
  Cx Z n (A.over (.forLoop target it body' []<|c.env L') [.ret k none gd l (.func body<|c.env L') p []]) g L' (c.env L'):=by
 refine bc fun f=>xE3 e fun d b a=>xA2 fun B r=>f ⟨m,o14 o,o15 i,X,T,⟨d,b,a,B,?_⟩,rfl,j,fun h=>(q h).elim⟩
 .refine (rE r ?_:(A.frames.map _)=_);rfl
inductive E9 (N R e:Nat) (B:Nat->List Nat) (s:Nat->Nat):Nat->List Nat->Prop
 |done:E9 N R e B s e []
 |gap {t xs}:t<e->s t=t->B t=[]->E9 N R e B s (t+1) xs->E9 N R e B s t xs
 |val {t i k r xs}:t<e->i<=t->e<=i+N->t=s i+k->(B i)[k]?=some r->E9 N R e B s (t+1) xs->E9 N R e B s t ((i%N*2^R+r)::xs)
noncomputable def EW (N R:Nat) (B:Nat->List Nat):Nat->Nat->List Nat
 |_,0=>[]
 |i,e+1=>(B i).map (fun r=>i%N*2^R+r)++EW N R B (i+1) e
theorem Nq :∀(k i e:Nat),EW N R B i (k+e)=EW N R B i k++EW N R B (i+k) e:=by
 intro k;induction k with
 |zero=>intro i e;refine rE (Nat.zero_add ..) ?_;rfl
 |succ k a=>
  refine fun i e=>rE (Nat.succ_add ..) ?_;show _++EW N R B (i+1) (k+e)=(_++EW N R B (i+1) k)++_;exact rE (a ..)<|rE (c6 ..)<|rE (show i+1+k=i+(k+1) by exact la2 0x610408488401081201220) rfl
theorem UK :∀ k,codes N R a B k=EW N R B a k:=by
 intro k;induction k with
 |zero=>rfl
 |succ k b=>
  exact rE JU<|rE (Nq ..)<|rE b (rE (cb ..) rfl:_=_++(_++[]))
theorem Lin.Yr (L:Lin S a B s) (R:Nat):∀ e i,i+e=a+S.n->a<=i->E9 S.n R (a+S.n) B s (s i) (EW S.n R B i e):=by
 intro e;induction e with
 |zero=>
  exact fun i f g=>rE (show i=a+S.n by exact (la3 0x5c10c0880840402220210021) f)<|rE L.top .done
 |succ e v=>
  intro i f g;have t:=L.next i g<|(la4 0x28230220210930802220210011) f;have j:=L.ge (i:=i) g<|(la4 0x28230220210930802220210001) f;have b:=v (i+1) ((la4 0x17043023041091080223041081201221) f)<|dZ g;have o:E9 S.n R (a+S.n) B s (s i+(B i).length) (EW S.n R B (i+1) e):=by
   refine T1 (U1 (s i+(B i).length)<|i+1) (fun h=>?_) fun h=>?_
   .refine have q:s i=i:=(la3 0x6a10c084884400210020040022) j h;have u:B i=[]:=List.length_eq_zero_iff.mp<|(la3 0x1b0110088082124100108408022) h q;rE u<|rE q<|.gap (by exact((la4 0x28230220210930802220210011) f:i<_)) q u ?_;rw[show s (i+1)=i+1 by exact (la5 0x49a49120870212212030804884409d0184244204061102781221203084800212210023) t h (mxk _ _)]at b;exact b
   .rw [show s (i+1)=s i+(B i).length by exact (la5 0x4de52690870212811010804a04609c8084250202021182782021094080c00220210023) t h (mxk _ _)]at b;exact b
  have m:∀ d k,k+d=(B i).length->E9 S.n R (a+S.n) B s (s i+k) (((B i).drop k).map (fun r=>i%S.n*2^R+r)++EW S.n R B (i+1) e):=by
   intro d;induction d with
   |zero=>
    exact fun k l=>rE (show k=(B i).length by exact (la2 0x5c10c08401008840021) l)<|rE List.drop_length o
   |succ d p=>
    exact fun k l=>have c:k<(B i).length:=(la3 0x282302102482008840011) l;rE (List.drop_eq_getElem_cons c)<|.val (L.inW g ((la4 0x28230220210930802220210011) f) c).2 ((la3 0x608808400020210001) j) ((la3 0x182202200004104200201) g) rfl (cB c)<|p (k+1)<|eE l
  have:=m (B i).length 0<|la1 0x18410200000a20;rw[List.drop_zero]at this;exact this
theorem Lin.W7 (L:Lin S a B s) (R:Nat):E9 S.n R (a+S.n) B s a (codes S.n R a B S.n):=by
 have:=L.Yr R S.n a rfl<|To _;rw[L.sa]at this;exact rE (UK ..) this
noncomputable def Ff (k:Int):Int->Nat->List MV
 |_,0=>[]
 |x,n+1=>.int x::Ff k (x+k) n
abbrev Fi (x:Int) (n:Nat):List MV:=Ff 1 x n
noncomputable def Fj (x:Int) (n:Nat) (k:Int:=1):Obj:={cls:=.type "range_iterator",data:=.fields #[rawInt x,rawInt n,rawInt k]}
inductive CG (G:St):Addr->List Addr->List MV->Prop
 |lst {I l:Addr} {ob:Obj} {xs:List MV} (i:Nat) (h1:G I=some (.obj ob)) (h2:ob.cls=.type "list_iterator") (h3:ob.data=.fields #[.ref l,.int i 0]) (h4:G l=some (.list xs)) (h5:I≠l):CG G I [I,l]<|xs.drop i
 |rng {I:Addr} (x:Int) (n:Nat) {k:Int} (h1:G I=some (.obj<|Fj x n k)):CG G I [I]<|Ff k x n
theorem CG.self {f xs}(h:CG G I f xs):I∈f:=by induction h<;>exact .head _
theorem CG.dom {f xs}(h:CG G I f xs):∀ a∈f,G a≠none:=by
 intro a b;induction h with
 |lst _ c _ _ h4 d=>
  exact mC b (rE c<|L0 _) fun b=>rE (bO.mp b)<|rE h4<|L0 _
 |rng _ _ c=>exact rE (bO.mp b)<|rE c<|L0 _
theorem CG.mono {I:Addr}{f xs}(h:CG G I f xs) (e:∀ a∈f,c a=G a):CG c I f xs:=by
 induction h with
 |lst i b j g h4 d=>exact .lst i ((e _<|.head _).trans b) j g ((e _<|.tail _<|.head _).trans h4) d
 |rng x n b=>exact .rng x n<|(e _<|.head _).trans b
section
variable {Z:PX}{c:FC}{A:Around}{d:Heap}{L:Addr}{s:Shared}{m:Str->Option Value}{G:St}{Q:Option Value->Shared->Prop}{E:Value->Shared->Prop}{I:Addr}{f:List Addr}{x:MV}{g:List MV}
theorem Lg (F:Fr d L s.heap m) (R:SR d L s.heap G) (M:CG G I f<|x::g)
  (q:∀ v H r,VR v x->CG H I f g->(∀ a,a≠I->H a=G a)->Sm s r->Fr d L r.heap m->SR d L r.heap H->Q (some v) r):wpAny Z.md A (pyNext<|.ref I) Q E s:=by
 generalize b:x::g=ys at M;induction M with
 | @lst l ob o i p W V h4 O=>
  refine xP (R.Cv p)<|xA3 fun C g2 Y=>?_;have N:i<o.length:=by
   refine T1 (U1 i o.length) (fun h=>h) fun h=>?_
   .rw [List.drop_eq_nil_of_le h]at b;exact xcn b
  rw[List.drop_eq_getElem_cons N]at b;refine xP (List.cons.inj b)<|xA2 fun u=>?_;revert q;refine rE u fun q=>fun t=>?_;revert q;exact rE t fun q=>gG (R.isList h4) fun vs U T=>gG (T.some<|cB N) fun v e1 e2=>wpAny_pyNext_list_item (l:=l) (i:=i) ⟨_,C,W,V⟩ U (by simpa using e1) fun X j z=>gH j fun y S P K=>xP (R.turn (mo:=.obj y) F p z S ⟨rfl,Obj.isFreed_of_fields K⟩)<|xA2 fun J D=>q v _ _ e2 (.lst (i+1) (St.AH ..) P K ((St.AG _ _<|cZ O).trans h4) O) (fun a B=>St.AG _ _ B) (Sm.h _ _) J D
 | @rng x0 n k p=>
  refine xP (R.Cv p)<|xA3 fun C g2 Y=>?_;cases n with
  |zero=>exact xcn b
  |succ n=>
   refine xP (List.cons.inj b)<|xA2 fun u=>?_;revert q;refine rE u fun q=>fun t=>?_;revert q;refine rE t fun q=>wpAny_pyNext_range_item (x:=x0) (left:=((n+1:Nat):Int)) (step:=k) C (la1 0x208408480400840) fun X j z=>have e:((n+1:Nat):Int)-1=(n:Int):=la1 0xc20810002409008350;?_;rw[e]at j;exact xP (R.turn (mo:=.obj<|Fj (x0+k) n k) F p z j ⟨rfl,rfl⟩)<|xA2 fun J D=>q _ _ _ (.int _ _) (.rng _ _<|St.AH ..) (fun a B=>St.AG _ _ B) (Sm.ht _ _ _) J D
theorem SR.drop (R:SR d L s.heap G){I:Addr}(n:Heap.ExtBut I s.heap k):SR d L k fun a=>if a=I then none else G a:=by
 refine gG R fun b N r=>⟨b.filter fun p=>decide<|p.1≠I,fun p q=>xP (b9.mp q)<|xA2 fun h j=>⟨n _ _ (bU j) (N p h).1,(N p h).2⟩,fun a o e=>?_⟩
 .change (if a=I then none else G a)=some o at e;by_cases i:a=I
  .rw [cA i]at e;exact xns e
  .rw [b5 i]at e;exact gG (r a o e) fun l h j=>⟨l,b9.mpr ⟨h,Ti i⟩,j⟩
theorem Fr.RX (F:Fr d L s.heap m)(a:Heap.ExtBut I s.heap h) (i:I≠L) (j:d.get? I=none):Fr d L h m:=
 ⟨F.ns.extBut a<|cZ i,fun b o e=>a b o (fun q=>by rw[q,j]at e;exact xns e)<|F.keep b o e,F.above⟩
theorem Nr (y:A.handled=none) (F:Fr d L s.heap m) (R:SR d L s.heap G) (v:CG G I f [])
  (q:∀ j,Sm s j->Fr d L j.heap m->SR d L j.heap (fun a=>if a=I then none else G a)->Q none j):wpAny Z.md A (pyNext<|.ref I) Q E s:=by
 generalize b:([]:List MV)=M at v;induction v with
 | @lst l O o i p H D h4 P=>
  exact xP (R.Cv p) (xA4 fun u K t r=>gG (R.isList h4) fun N B z=>have C:o.length<=i:=List.drop_eq_nil_iff.mp b.symm;wpAny_pyNext_list_end y (l:=l) (i:=i) ⟨_,u,H,D⟩ B (by simp;exact (la3 0x160900880021040040002) C z.length) fun J e=>q _ (Sm.h _ _) (Fr.RX F e t r)<|R.drop e)
 | @rng x0 n k p=>
  refine xP (R.Cv p)<|xA4 fun u K t r=>?_;induction n with
  |succ n=>exact xnc b
  |zero=>
   exact wpAny_pyNext_range_end y (x:=x0) (left:=((0:Nat):Int)) (step:=k) u (la [] [] 0x821020200830<|by kernel_rfl) fun J e=>q _ (Sm.h _ _) (Fr.RX F e t r)<|R.drop e
end
noncomputable abbrev MI:=Nat->PL->Option (List MV×PL)
inductive lI (M:MI) (ls:LS) (G:St) (P:Addr->St->Prop):Prop
 |mk (n:Nat) (fs:FS) (pl:PL) (xs:List MV) (pl':PL) (lo:LN G fs pl ls) (e:M n pl=some (xs,pl'))
  (hp:∀ fs' G' I f,LN G' fs' pl' ls->CG G' I f xs->(f++fs'.flatten).Nodup->FmN fs G (f::fs') G'->G I=none->P I G')
noncomputable def Ei (Z:PX) (c:FC) (e:Expr) (M:MI):Prop:=
 ∀ ⦃A:Around⦄ ⦃a:Heap⦄ ⦃L:Addr⦄ ⦃s:Shared⦄ ⦃m:Str->Option Value⦄ ⦃f:LS⦄ ⦃G:St⦄ ⦃P:Addr->St->Prop⦄ ⦃Q:Value->Shared->Prop⦄ ⦃E:Value->Shared->Prop⦄,
  Cx Z c.n A a L (c.env L)->Fr a L s.heap m->LR c.vs f m->SR a L s.heap G->lI M f G P->
  (∀ I g d,P I g->Sm s d->Fr a L d.heap m->SR a L d.heap g->Q (.ref I) d)->
  wpAny Z.md A (eval e<|c.env L) (fun x b=>wpAny Z.md A (pyIter x) Q E b) E s
noncomputable def fGo (i:Nat) (X:MX) (n:Nat):List MV->PL->Option (AF×PL)
 | [],c=>some (.next,c)
 |x::xs,c=>match X n (AY c i<|.v x)with
  |some (.next,b)=>fGo i X n xs b
  |some (.cont,b)=>fGo i X n xs b
  |some (.brk,b)=>some (.next,b)
  |some (.ret a,b)=>some (.ret a,b)
  |none=>none
def RY (i:Nat) (M:MI) (X:MX):MX:=fun n b=>match M n b with
 |some (xs,a)=>fGo i X n xs a
 |none=>none
theorem LN.mono {a d ls}(h:LN G a d ls) (e:∀ b∈a.flatten,f b=G b):LN f a d ls:=⟨h.lo.mono e,h.nd⟩
theorem Oy {h d:FS}{q:List MV}(r:CG p I f q) (x:(f++h.flatten).Nodup) (n:d.flatten.Nodup) (F:FmN h p (o::d) l) :
  CG l I f q/\(f++d.flatten).Nodup/\∀{k:FS} {G:St},FmN k G (f::h) p->FmN k G (o::d) l/\FmN k G (f::d) l:=by
 have j:=SF.mp x;have t:=r.dom;have v:∀ b∈d.flatten,b∈(o::d).flatten:=fun b g=>rE D4<|Bl _ g;have s:∀ b∈f,b∉h.flatten:=fun b g i=>j.2.2 b g b i rfl;refine⟨r.mono fun a u=>F.fm.keep a (t a u)<|s a u,SF.mpr ⟨j.1,n,fun b g y i e=>(F.fm.sub b<|v b<|e▸i).elim (s b g)<|t b g⟩,?_⟩
 .intro k G w;have m:=(BE w).trans F;refine⟨m,⟨m.fm.keep,fun b g=>?_,m.fm.dom⟩⟩;rw[D4]at g;exact T1 (X1.mp g) (fun g=>w.fm.sub b<|rE D4<|Lf _ g) fun g=>m.fm.sub b<|v b g
theorem FmN.congr {G g:St}(F:FmN e G fs' g) (h:∀ a,G a≠none->f a=g a):FmN e G fs' f:=
 ⟨⟨fun a b d=>(h a b).trans<|F.fm.keep a b d,F.fm.sub,fun a b d=>rE (h a b)<|F.fm.dom a b d⟩⟩
inductive lI2 (M:MI) (fin:List MV->PL->PL) (ls:LS) (G:St) (P:Addr->St->Prop):Prop
 |mk (n:Nat) (fs:FS) (pl:PL) (xs:List MV) (pl':PL) (lo:LN G fs pl ls) (e:M n pl=some (xs,pl'))
  (hp:∀ fs' G' I f (K:St->Prop),LN G' fs' pl' ls->CG G' I f xs->(f++fs'.flatten).Nodup->FmN fs G (f::fs') G'->G I=none->K G'->(∀ G1 G2,K G1->(∀ a∈f,a≠I->G2 a=G1 a)->K G2)->
   (∀ G2 fs2 pl2 ls2,K G2->LN G2 fs2 pl2 ls2->(f++fs2.flatten).Nodup->FmN fs G (f::fs2) G2->ls2.head?=ls.head?->∃ fs3,LN (fun a=>if a=I then none else G2 a) fs3 (fin xs pl2) ls2/\FmN fs G ([]::fs3) fun a=>if a=I then none else G2 a)->P I G')
noncomputable def Ei2 (Z:PX) (c:FC) (e:Expr) (M:MI) (f:List MV->PL->PL):Prop:=
 ∀ ⦃A:Around⦄ ⦃a:Heap⦄ ⦃L:Addr⦄ ⦃s:Shared⦄ ⦃m:Str->Option Value⦄ ⦃g:LS⦄ ⦃G:St⦄ ⦃P:Addr->St->Prop⦄ ⦃Q:Value->Shared->Prop⦄ ⦃E:Value->Shared->Prop⦄,
  Cx Z c.n A a L (c.env L)->Fr a L s.heap m->LR c.vs g m->SR a L s.heap G->lI2 M f g G P->
  (∀ I h d,P I h->Sm s d->Fr a L d.heap m->SR a L d.heap h->Q (.ref I) d)->
  wpAny Z.md A (eval e<|c.env L) (fun x b=>wpAny Z.md A (pyIter x) Q E b) E s
theorem RZ (l:I∈f) (j:LN h d e g) (i:(f++d.flatten).Nodup):LN (fun a=>if a=I then none else h a) d e g:=
 j.mono fun b k=>b5 fun(q:b=I)=>(SF.mp i).2.2 I l b k q.symm
theorem Ei.two (h:Ei Z c e M):Ei2 Z c e M fun _ d=>d:=by
 refine fun A t L s m T G P Q E O F D R j q=>bc fun B=>?_;obtain⟨n,N,d,u,b,H,e,J⟩:=j;exact B<|h O F D R ⟨n,N,d,u,b,H,e,fun l S I f x r w v p=>J l S I f (fun _=>True) x r w v p trivial (fun _ _ _ _=>trivial) fun U k y C _ i g o _=>
  ⟨k,RZ r.self i g,((BE o).congr fun a K=>b5 fun(z:a=I)=>K<|z▸p).cons⟩⟩ q
noncomputable def Tg (Z:PX) (c:FC) (x:Str) (n:MV->PL->Option PL):Prop:=
 ∀ ⦃A:Around⦄ ⦃a:Heap⦄ ⦃L:Addr⦄ ⦃s:Shared⦄ ⦃m:Str->Option Value⦄ ⦃i:LS⦄ ⦃G:St⦄ ⦃j:FS⦄ ⦃k e:PL⦄ ⦃y:MV⦄ ⦃v:Value⦄ ⦃Q:Unit->Shared->Prop⦄ ⦃E:Value->Shared->Prop⦄,
  Fr a L s.heap m->LR c.vs i m->SR a L s.heap G->LN G j k i->n y k=some e->VR v y->
  (∀ l d h f g,Sm s g->Fr a L g.heap l->LR c.vs d l->SR a L g.heap h->LN h f e d->(∀ b∈f.flatten,b∈j.flatten)->(∀ b,b∉j.flatten->h b=G b)->(∀ b,G b≠none->h b≠none)->d.head?=i.head?->Q () g)->
  wpAny Z.md A (storeName (c.env L) x v) Q E s
def stLoc (i:Nat):MV->PL->Option PL:=fun y a=>some<|AY a i<|.v y
theorem Ra (i:Nat) (r:c.vs[i+1]?=some x) (p:iK c) (n:iL c x):Tg Z c x (stLoc<|i+1):=by
 intro A d L s m B G C w g y v Q E F k R l e o q;have z:=so e;clear e;subst z;exact CZ r p n F k R o fun j f a u b t=>q j _ G _ f a u b t (l.Gm (i+1) y) BM (fun _ _=>rfl) (fun _ h=>h) DV
noncomputable def IH (e:MV->PL->Option PL) (d:PL->PL) (X:MX) (n:Nat):List MV->PL->Option (AF×PL)
 | [],g=>some (.next,d g)
 |x::xs,g=>match e x g with
  |some f=>(match X n f with
   |some (.next,b)=>IH e d X n xs b
   |some (.cont,b)=>IH e d X n xs b
   |some (.brk,b)=>some (.next,b)
   |some (.ret a,b)=>some (.ret a,b)
   |none=>none)
  |none=>none
def Mp (d:MV->PL->Option PL) (M:MI) (b:List MV->PL->PL) (X:MX):MX:=fun n e=>match M n e with
 |some (xs,a)=>IH d (b xs) X n xs a
 |none=>none
inductive FP (fs:FS) (G:St) (pl1:PL) (ls:LS) (xs:List MV) (fin:PL->PL) (I:Addr) (G':St):Prop
 |mk (fs1:FS) (f:List Addr) (K:St->Prop) (h1:LN G' fs1 pl1 ls) (h2:CG G' I f xs) (h3:(f++fs1.flatten).Nodup) (h4:FmN fs G (f::fs1) G') (h5:G I=none) (h6:K G') (h7:∀ G1 G2,K G1->(∀ a∈f,a≠I->G2 a=G1 a)->K G2)
  (h8:∀ G2 fs2 pl2 ls2,K G2->LN G2 fs2 pl2 ls2->(f++fs2.flatten).Nodup->FmN fs G (f::fs2) G2->ls2.head?=ls.head?->∃ fs3,LN (fun a=>if a=I then none else G2 a) fs3 (fin pl2) ls2/\FmN fs G ([]::fs3) fun a=>if a=I then none else G2 a)
inductive Zq (c:FC) (h₀:Heap) (L:Addr) (ls:LS) (s:Shared) (fs:FS) (G:St) (I:Addr) (f:List Addr) (K:St->Prop) (F:List MV->PL->Option (AF×PL)) (r:AF×PL) (k:Nat) (s2:Shared):Prop
 |mk (xs2:List MV) (m2:Str->Option Value) (ls2:LS) (G2:St) (fs2:FS) (pl2:PL) (h1:k=xs2.length) (h2:Sm s s2) (h3:Fr h₀ L s2.heap m2) (h4:LR c.vs ls2 m2) (h5:SR h₀ L s2.heap G2) (h6:LN G2 fs2 pl2 ls2) (h7:CG G2 I f xs2) (h8:(f++fs2.flatten).Nodup) (h9:FmN fs G (f::fs2) G2)
  (hA:F xs2 pl2=some r) (hB:ls2.head?=ls.head?) (hC:K G2)
inductive FB (fs:FS) (G:St) (ls:LS) (pl4:PL) (I:Addr) (f:List Addr) (ys:List MV) (K:St->Prop) (r4:AF) (mf:MF) (ls5:LS) (G5:St):Prop
 |mk (fs5:FS) (f5:List Addr) (h1:LN G5 fs5 pl4 ls5) (h2:DI G5 f5 r4 mf) (h3:(f5++fs5.flatten).Nodup) (h4:CG G5 I f ys) (h5:(f++fs5.flatten).Nodup) (h6:FmN fs G (f5::fs5) G5) (h7:FmN fs G (f::fs5) G5) (h8:ls5.head?=ls.head?) (h9:K G5)
theorem mv3002 {h:Type}{i:List MV->PL->Option h}{r:h}{g:Prop}(e:(match f with|some (b,a)=>i b a|none=>none)=some r) (l:∀ b a,f=some (b,a)->i b a=some r->g):g:=by
 generalize j:f=d at e;revert e j;exact Option.casesOn d eS fun k=>Prod.casesOn k fun n m=>l _ _
theorem Lh {st:MV->PL->Option PL}(tg:Tg Z c x st) (h:Ei2 Z c aa M ah) (o:Bx Z c ag X) (hs:∀ bk x,foldedSetIterable aa bk x=pure x) :
  Sx Z c (.For (.Name x px) aa ag [] aV) (Mp st M ah X):=by
 refine fun A ab L s m ls G P Q E cx F lr R bg q=>bc fun ng=>?_;obtain⟨n,fs,pl,r,aY,lo,e,hp⟩:=bg;refine ng ?_;unfold Mp at e;refine mv3002 e ?_
 .refine fun xs ak e1 e=>cg (E:=fun _ _=>False) ?_ (fun _ _ x=>x) fun _ _ x=>x.elim;refine wpAny_For (h (P:=FP fs G ak ls xs<|ah xs) cx F lr R
   ⟨n,fs,pl,xs,ak,lo,e1,fun ax G1 I f K C N W T V q6 q7 U=>⟨ax,f,K,C,N,W,T,V,q6,q7,U⟩⟩ fun I G1 s1 hP aU F1 R1=>?_)<|hs _
  refine bc fun ng=>?_;obtain⟨ax,f,K,a5,a7,aZ,bj,hI,bb,aw,aL⟩:=hP;refine ng ?_;let ay:=Zq c ab L ls s fs G I f K (IH st (ah xs) X n) (r,aY);refine codeAny_forLoop ay ?_ xs.length ⟨xs,m,ls,G1,ax,ak,rfl,aU,F1,lr,R1,a5,a7,aZ,bj,e,rfl,bb⟩ fun _=>rfl;intro k s2 hh;refine bc fun ng=>?_;obtain⟨aR,m2,a0,G2,af,aX,z0,az,F2,aF,R2,aI,ao,aE,aP,J,ar,aN⟩:=hh;have D:=SF.mp aE;have bf:∀ b∈af.flatten,b≠I:=fun b o q=>D.2.2 I ao.self b o q.symm;cases aR with
  |nil=>
   refine ng ?_;revert hp;exact BH J fun hp=>Nr cx.hh F2 R2 ao fun s3 aj F3 R3=>wpAny_execs_nil<|gG (aL G2 af aX a0 aN aI aE aP ar) fun bp aH S=>q _ _ _ _ _ _ .next (hp _ _ _ _ _ aH .next aH.nd' S ar) (az.trans aj) F3 aF R3
  |cons y ys=>
   refine ng<|Lg F2 R2 ao fun v G3 s3 hv a6 aq aj F3 R3=>have S:FmN fs G (f::af) G3:=aP.congr fun a O=>aq a fun z=>O<|z▸hI;?_;conv at J=>lhs;whnf
   refine mv41 J ?_
   .refine fun aW ex J=>wpAny_assign_Name (tg F3 aF R3 (aI.mono fun b o=>aq b<|bf b o) ex hv fun m4 bo G4 aO s4 aT F4 a4 R4 aG ai ae aM a8=>have aK:∀ b∈f,b∉af.flatten:=fun b o av=>D.2.2 b o b av rfl;have aJ:CG G4 I f ys:=a6.mono fun a O=>ae a<|aK a O;have a9:K G4:=aw _ _ (aw _ _ aN fun a _ O=>aq a O) fun a O _=>ae a<|aK a O;have aD:(f++aO.flatten).Nodup:=SF.mpr ⟨D.1,aG.nd,fun b o b' av e=>D.2.2 b o b' (ai b' av) e⟩;?_);have bh:FmN fs G (f::aO) G4:=by
     refine⟨⟨fun a h1 h2=>?_,fun b o=>?_,fun a h1 h2=>aM a<|S.fm.dom a h1 h2⟩⟩
     .by_cases O:a∈af.flatten
      .exact absurd h1<|((S.fm.sub a<|rE D4<|Bl _ O).resolve_left h2)▸fun z=>z rfl
      .exact (ae a O).trans<|S.fm.keep a h1 h2
     .rw [D4]at o;exact S.fm.sub b<|rE D4<|(X1.mp o).elim (Lf _) fun o=>Bl _<|ai b o
    have H:∀{r4 j} {E':Value->Shared->Prop},X n aW=some (r4,j)->(∀ g p i f5 mf m5 l,LN p g j i->DI p f5 r4 mf->(f5++g.flatten).Nodup->CG p I f ys->(f++g.flatten).Nodup->
       FmN fs G (f5::g) p->FmN fs G (f::g) p->i.head?=ls.head?->Sm s l->Fr ab L l.heap m5->LR c.vs i m5->SR ab L l.heap p->K p->∀ fl,FlR fl mf->(match fl with
        |.next|.cont=>∃ k',k'<k/\ay k' l
        |.brk=>Q .next l
        |.ret v=>Q (.ret v) l))->
      wpAny Z.md A (execs ag<|c.env L) (fun fl l=>match fl with
        |.next|.cont=>∃ k',k'<k/\ay k' l
        |.brk=>Q .next l
        |.ret v=>Q (.ret v) l) E' s4:=by
     intro r4 j E' e4 k;refine o (P:=FB fs G ls j I f ys K r4) cx F4 a4 R4
      ⟨n,_,_,r4,j,aG,e4,fun g p i f5 mf C N W T V=>?_⟩ fun fl mf i p m5 l d hP aS F5 a3 R5=>?_
     .exact bc fun ng=>xP (Oy aJ aD C.nd T)<|xA3 fun k1 k2 k3=>xP (k3 bh)<|xA2 fun k4 k5=>ng ⟨g,f5,C,N,W,k1,k2,k4,k5,V.trans<|a8.trans ar,aw _ _ a9 fun a O _=>T.fm.keep a (aJ.dom a O) fun o=>(SF.mp aD).2.2 a O a o rfl⟩
     .refine bc fun ng=>?_;obtain⟨g,f5,C,N,W,T,V,q6,q7,U,q9⟩:=hP;exact ng<|k g p i f5 mf m5 l C N W T V q6 q7 U (((az.trans aj).trans aT).trans aS) F5 a3 R5 q9 fl d
    refine mv30 J ?_ ?_ ?_ ?_<;>clear J
    .refine fun j e4 J=>H e4 fun g p i f5 mf m5 l C N W T V q6 q7 U q9 B u t Y fl d=>N.kne fun _ z=>have d:=z▸d;?_;exact rE d.ine ⟨_,z0▸dB _,ys,m5,i,p,g,j,rfl,q9,B,u,t,C,T,V,q7,J,U,Y⟩
    .refine fun j e4 J=>H e4 fun g p i f5 mf m5 l C N W T V q6 q7 U q9 B u t Y fl d=>N.kcn fun _ z=>have d:=z▸d;?_;exact rE d.ico ⟨_,z0▸dB _,ys,m5,i,p,g,j,rfl,q9,B,u,t,C,T,V,q7,J,U,Y⟩
    .refine fun j e4 J=>H e4 fun g p i f5 mf m5 l C N W T V q6 q7 U q9 B u t Y fl d=>N.kbr fun z1 z=>have d:=z▸d;?_;refine rE d.ibr ?_;revert hp;exact BH J fun hp=>q _ _ _ _ _ _ .next (hp _ _ _ _ _ C .next (z1▸W) (z1▸q6) U) q9 B u t
    .refine fun a j e4 J=>H e4 fun g p i f5 mf m5 l C N W T V q6 q7 U q9 B u t Y fl d=>N.kre fun mv z h2=>have d:=z▸d;d.kre fun v z hv=>rE z ?_;revert hp;exact BH J fun hp=>q _ _ _ _ _ _ (.ret hv) (hp _ _ _ _ _ C (.ret h2) W q6 U) q9 B u t
theorem Ys :∀(b:List MV) (a:PL),fGo i X n b a=IH (stLoc i) (fun a=>a) X n b a:=by
 intro b;induction b with
 |nil=>intro a;rfl
 |cons x b e=>
  intro a;conv=>lhs;whnf
  conv=>rhs;whnf
  cases X n (AY a i<|.v x)with
  |none=>rfl
  |some r=>
   obtain⟨f,d⟩:=r;induction f<;>first|rfl|exact e d
theorem Ha {X:MX}(i:Nat)(h:Ei Z c a M)(t:Bx Z c b X)(o:∀ g x,foldedSetIterable a g x=pure x)(s:autoParam (c.vs[i+1]?=some x) rf)(q:autoParam (iK c) rf)(m:autoParam (iL c x) rf):Sx Z c (.For (.Name x j) a b [] d) (RY (i+1) M X):=by
 refine Ss.weaken (Lh (Ra i s q m) h.two t o) ?_;rintro v G P ⟨n,u,k,r,f,l,e,p⟩;refine⟨n,u,k,r,f,l,?_,p⟩;unfold RY at e;unfold Mp;split at e
 .exact (Ys _ _).symm.trans e
 .exact xns e
section
variable {Z:PX}{c:FC}
def Pz (j:Nat):PE:=fun a=>match AL a j with
 |some (.lst xs)=>if xs.length<=1000 then some (.int xs.length)else none
 |_=>none
theorem mv67 {f:Type}{h:(List MV)->Option f}{r:f}{g:Prop}(e:(match d with|some (AV.lst a)=>h a|_=>none)=some r) (k:∀ a,d=some (AV.lst a)->h a=some r->g):g:=by
 generalize i:d=b at e;revert e i;exact Option.casesOn b (fun _=>xns) fun j=>AV.casesOn j (fun _ _=>xns) (fun l=>k _) (fun _ _ _=>xns) (fun _ _ _=>xns) (fun _ _ _=>xns) (fun _ _=>xns) (fun _ _=>xns) (fun _ _ _=>xns) fun _=>xns
theorem GO (j:Nat)(m:Ev Z c (.Name "len" f)<|Br<|.bi "len")(o:autoParam (c.vs[j]?=some x) rf)(n:autoParam (iK c) rf)(k:autoParam (iL c x) rf)(p:autoParam (jD x) rf) :
  Pu Z c (.Call (.Name "len" f) [.Name x g] [] b) (Pz j):=by
 refine(FK m (AS (AQ j o n k p) Az) WH<|cO _).weaken ?_;rintro w G P ⟨z,v,r,i,e,d⟩;unfold Pz at e;refine mv67 e ?_
 .refine fun a u e=>bc fun h=>xP (Au e)<|xA2 fun t e=>?_;revert d;refine soE e fun d=>gH (i.lst u) fun l y s q=>h ?_;unfold OY DC B3;exact rE s (rE q ⟨t,d⟩:(match G l with|some (.list a)=>a.length<=1000/\P (.int a.length) G|_=>False))
abbrev Jw (a b:Int):Prop:=(-(2^62)<=a/\a<2^62)/\-(2^62)<=b/\b<2^62
inductive P0:Obj->Int->Int->Prop
 |mk (a b:Int) (t u v:Tok):P0 {cls:=.type "range",data:=.fields #[.int a t,.int b u,.int 1 v]} a b
noncomputable def Rb:List MV->St->(MV->St->Prop)->Prop:=fun d G P=>match d with
 | [.int b]=>Jw 0 b/\∀ r o,G r=none->P0 o 0 b->P (.ref r) (G.set r<|.obj o)
 | [.int a,.int b]=>Jw a b/\∀ r o,G r=none->P0 o a b->P (.ref r) (G.set r<|.obj o)
 |_=>False
theorem mv68 {i:Int->Prop}{h:Int->Int->Prop}{g:Prop}(e:match d with | [MV.int a]=>i a | [MV.int a,MV.int b]=>h a b|_=>False) (p:∀ a,d=[MV.int a]->i a->g) (o:∀ a b,d=[MV.int a,MV.int b]->h a b->g):g:=by
 generalize j:d=f at e;revert e j;exact List.casesOn f fR fun n m=>MV.casesOn n fR (fun _ _=>False.elim) (fun r=>List.casesOn m (p _) fun l k=>MV.casesOn l fR (fun _ _=>False.elim) (fun q=>List.casesOn k (o _ _) fun _ _ _=>False.elim) (fun _ _=>False.elim) (fun _ _=>False.elim) (fun _ _=>False.elim) fun _ _=>False.elim) (fun _ _=>False.elim) (fun _ _=>False.elim) (fun _ _=>False.elim) fun _ _=>False.elim
theorem Mq:Bi Z 0 (.type "range") Rb:=by
 intro A h L n s m G P Q E g i u F R a t q;unfold Rb at t;refine mv68 t ?_ ?_
 .refine fun _=>fun z=>?_;revert a;refine rE z fun a=>fun t=>VRs.kco a fun v w z d b=>rE z<|rE (VRs.inl b)<|VR.kin d fun j z=>rE z<|call_range_1 ?_;obtain⟨f,e⟩:=R.push (ob:={cls:=.type "range",data:=.fields #[.int 0 s.toks,.int _ _,.int 1<|s.toks+1]}) (mo:=.obj _) F ⟨rfl,rfl⟩;exact q _ _ _ _ (.ref _) (t.2 _ _ R.fresh<|.mk _ _ _ _ _) (Sm.ht _ _ _) f e
 .refine fun _ _=>fun z=>?_;revert a;refine rE z fun a=>fun t=>VRs.kco a fun v w z d b=>rE z<|VRs.kco b fun p o z b l=>rE z<|rE (VRs.inl l)<|VR.kin d fun j z=>rE z<|VR.kin b fun r z=>rE z<|call_range_2 ?_;obtain⟨f,e⟩:=R.push (ob:={cls:=.type "range",data:=.fields #[.int _ _,.int _ _,.int 1 s.toks]}) (mo:=.obj _) F ⟨rfl,rfl⟩;exact q _ _ _ _ (.ref _) (t.2 _ _ R.fresh<|.mk _ _ _ _ _) (Sm.ht _ _ _) f e
def JX (f:PE):MI:=fun _ a=>match mI (f a)with
 |some b=>if Jw 0 b then some (Fi 0 b.toNat,a)else none
 |_=>none
def Rc (f g:PE):MI:=fun _ d=>match mI (f d),mI (g d)with
 |some a,some b=>if Jw a b then some (Fi a (b-a).toNat,d)else none
 |_,_=>none
theorem JY (j:P0 o a b) (g:Jw a b)
  (F:Fr d L s.heap m) (R:SR d L s.heap G) (e:G r=some (.obj o))
  (q:∀ I f,G I=none->Sm s f->Fr d L f.heap m->SR d L f.heap (G.set I<|.obj<|Fj a (b-a).toNat)->Q (.ref I) f):wpAny Z.md A (pyIter<|.ref r) Q E s:=by
 refine xP (R.Cv e)<|xA3 fun k x _=>?_;cases j with
 |mk t u v=>
  exact wpAny_pyIter_range k (small_one g.1.1 g.1.2 g.2.1 g.2.2)<|have i:Builtin.Range.rangeSize a b 1=((b-a).toNat:Int):=rE (rangeSize_one ..)<|o27 a b;rE i<|xP (R.push (ob:=Fj a (b-a).toNat) (mo:=.obj _) F ⟨rfl,rfl⟩)<|xA2 fun n l=>q _ _ R.fresh (Sm.h _ _) n l
theorem LN.Rd {e d ls}(h:LN G e d ls)(o:MO) (g:G a=none):LN (G.set a o) e d ls:=
 h.mono fun b f=>St.AG _ _ fun q=>h.lo.dom b f<|q▸g
theorem Rf (h:FmN i G (f::i) m) (o:MO) (n:m a=none):FmN i G ((a::f)::i) (m.set a o):=by
 have d:∀ b,G b≠none->b∉i.flatten->b≠a:=fun b g l q=>h.fm.dom b g l<|q▸n;refine⟨⟨fun b k j=>(St.AG _ _<|d b k j).trans<|h.fm.keep b k j,fun b g=>?_,fun b k j=>rE (St.AG _ _<|d b k j)<|h.fm.dom b k j⟩⟩;rw[D4,List.cons_append]at g;refine T1 (bM.mp g) (fun rfl=>?_) fun g=>h.fm.sub b<|rE D4 g
 .by_cases l:b∈i.flatten
  .exact .inl l
  .refine .inr<|oE (G b) (fun e=>?_) fun o e=>(d b (rE e<|L0 _) l rfl).elim
   .rfl
theorem Li {o:Obj}{P:Addr->St->Prop}(m:LN G j q s) (t:G r=none) (i:(G.set r<|.obj o) I=none)
  (v:∀ d l I f,LN l d q s->CG l I f (Ff k a n)->(f++d.flatten).Nodup->FmN j G (f::d) l->G I=none->P I l):P I ((G.set r<|.obj o).set I<|.obj<|Fj a n k):=by
 have p:I≠r:=fun e=>by rw[e,St.AH]at i;exact xsn i
 have g:G I=none:=(St.AG G (.obj o) p).symm.trans i;refine v j _ I [I] ((m.Rd _ t).Rd _ i) (.rng a n<|St.AH ..) (bL.mpr ⟨fun h=>m.lo.dom I h g,m.nd⟩) ⟨(Rf (Rf (f:=[]) (FmN.refl (fs:=j) (G:=G)).cons (.obj o) t) (.obj<|Fj a n k) i).fm.mono fun b u=>?_⟩ g
 .rw [D4]at u ⊢;exact T1 (X1.mp u) (fun h=>Lf _<|rE (bO.mp h)<|.head _) fun h=>Bl _ h
theorem mv69 {f:Type}{h:Int->Option f}{r:f}{g:Prop}(e:(match d with|some a=>h a|_=>none)=some r) (j:∀ a,d=some a->h a=some r->g):g:=by
 generalize i:d=b at e;revert e i;exact Option.casesOn b eS fun k=>j _
theorem Hb (O:Ev Z c (.Name "range" w)<|Br<|.ty "range") (p:Pu Z c g f) (t:notStar g=true):Ei Z c (.Call (.Name "range" w) [g] [] a) (JX f):=by
 refine fun A B L s m ls G P Q E Y F N R l q=>bc fun d=>?_;obtain⟨n,X,pl,xs,M,y,e,k⟩:=l;refine d ?_;unfold JX at e;refine mv69 e ?_
 .refine fun b g e=>xP (Au e)<|xA2 fun x e=>?_;revert k;refine BH e fun k=>(Gh (pos:=a) O (AS p Az t) Mq<|cO _) (P:=fun v D=>∃ r o,v=.ref r/\G r=none/\P0 o 0 b/\D=G.set r (.obj o)) Y F N R
   ⟨X,_,_,y.lo,BA g,x,fun r o p W=>⟨r,o,rfl,p,W,rfl⟩⟩ fun v mv D s1 j U i F1 u=>?_
  refine bc fun d=>xE2 U fun r o=>xA2 fun J=>?_;revert j;refine rE J fun j=>xA3 fun S T=>fun H=>?_;revert u;refine rE H fun u=>have z:=VR.irf j;?_;revert d;refine rE z fun d=>d<|JY T x F1 u (St.AH ..) fun I K V h F2 C=>?_;rw[Int.sub_zero]at C;exact q I _ K (Li y S V k) (i.trans h) F2 C
theorem P1 (W:Ev Z c (.Name "range" H)<|Br<|.ty "range") (y:Pu Z c j f) (x:Pu Z c i g) (C:notStar j=true) (B:notStar i=true):Ei Z c (.Call (.Name "range" H) [j,i] [] d) (Rc f g):=by
 refine fun A K L s m ls G P Q E cx F V R w q=>bc fun h=>?_;obtain⟨n,M,pl,xs,U,p,e,u⟩:=w;refine h ?_;unfold Rc at e;refine mv18 e ?_
 .refine fun a b j i e=>xP (Au e)<|xA2 fun J e=>?_;revert u;refine BH e fun u=>(Gh (pos:=d) W (AS y (AS x Az B) C) Mq<|cO _) (P:=fun v N=>∃ r o,v=.ref r/\G r=none/\P0 o a b/\N=G.set r (.obj o)) cx F V R
   ⟨M,_,_,p.lo,BA j,M,_,_,p.lo,BA i,J,fun r o y x=>⟨r,o,rfl,y,x,rfl⟩⟩ fun v mv N s1 t hP l F1 D=>?_
  refine bc fun h=>xE2 hP fun r o=>xA2 fun S=>?_;revert t;refine rE S fun t=>xA3 fun X Y=>fun O=>?_;revert D;refine rE O fun D=>have z:=VR.irf t;?_;revert h;exact rE z fun h=>h<|JY Y J F1 D (St.AH ..) fun I T hI k F2 R2=>q I _ T (Li p X hI u) (l.trans k) F2 R2
end
theorem GP (k:KF Z)(d:autoParam (iK c) rf)(b:autoParam (c.scope.names.lookup (Str.ofString "len")=some .globalImplicit) rf)(e:autoParam ((("len":Str)==("__debug__":Str))=false) rf):Ev Z c (.Name "len" a) (Br<|.bi "len"):=
 DN k.Yi PySem.boot_len (.bi _) d b e
theorem Fl (k:KF Z)(d:autoParam (iK c) rf)(b:autoParam (c.scope.names.lookup (Str.ofString "range")=some .globalImplicit) rf)(e:autoParam ((("range":Str)==("__debug__":Str))=false) rf):Ev Z c (.Name "range" a) (Br<|.ty "range"):=
 DN k.Tp PyProof.Rows.boot_range (.ty _) d b e
def Yt (s:Stmt):Expr:=(sPa s).2.2.1
def UL (s:Stmt):List Stmt:=(sPa s).1
def Yu (s:Stmt):Expr:=(ePa (sPa s).2.2.1).1.getD dE
def hB:List Stmt:=BO<|BP 10 17
def hF:Stmt:=nth hB 4
def hBB:List Stmt:=UL hF
def cH (n:Nat):FC:=fc 330 "QuotientFilter.hashes" (BP 10 17) ["self","queue","start","cur_quot","i","idx","is_occupied","is_continuation","is_shifted"] n
def plH (S:QS) (q:List Nat) (b a:Nat) (r:PL):PL:=some (.qf S)::some (.lst<|ofN q)::some (.v<|.int b)::some (.v<|.int a)::r
noncomputable def no5:PL:=[none,none,none,none,none]
theorem UM (k:KF Z):∃ M,Bx Z (cH 12) (hB.take 4) M/\∀(S:QS) (x n:Nat),x<S.n->x<n->S.empty x=true->(∀ u,u<x->S.empty u=false)->
  M n (some (.qf S)::none::none::none::no5)=some (.next,plH S [] x 0 no5):=by
 refine⟨_,(AA (Fs 0<|Et Aa)<|AA (Ab 1<|Ac<|AD AE)<|AA (C5 (Al<|Iq<|A3<|By 0 k.A7 (A8 k)<|AN (AB 2) Aa)<|AA (Ir 1<|AD AE) AI)<|AA (Ab 2<|Ac<|AD AE) AI),fun S x n f l m i=>?_⟩;have g:∀ d u j,u+d=x->d<j->wGo (upB<|IA<|pTr<|BZ 0 (q1 QS.empty)<|Ai (AM 2) BY) (Ag (Jr (1+1) .Add<|AP<|.int 1) Ar) n j [some<|.qf S,some<|.lst [],some<|.v<|.int (u:Nat),none,none,none,none,none,none] =
   some (.next,[some<|.qf S,some<|.lst [],some<|.v<|.int (x:Nat),none,none,none,none,none,none]):=by
  intro d;induction d with
  |zero=>
   intro u j a b;have:u=x:=(la2 0x5c10c08401008840021) a;subst this;induction j with
   |zero=>exact False.elim<|la [] [] 0x2084080811c1 (by kernel_rfl) b
   |succ j=>
    conv=>lhs;whnf;simp only[upB,wPl,IA,pTr,BZ,Ai,BY,mT,AM,AL,GD f,m,Bool.not_true]
  |succ d h=>
   intro u j a b;induction j with
   |zero=>exact False.elim<|(la1 0x821020224021c1) b
   |succ j=>
    have c:u<S.n:=(la4 0x16090088093080221040440012) f a;conv=>lhs;whnf;simp only[upB,wPl,IA,pTr,BZ,Ai,BY,mT,AM,AL,GD c,i u<|(la3 0x282302102482008840011) a,Bool.not_false]
    have e:Ag (Jr (1+1) .Add<|AP<|.int 1) Ar n [some<|.qf S,some<|.lst [],some<|.v<|.int (u:Nat),none,none,none,none,none,none]=some (.next,[some<|.qf S,some<|.lst [],some<|.v<|.int ((u+1:Nat):Int),none,none,none,none,none,none]):=rfl;exact rE e<|h (u+1) j (eE a)<|(la2 0x182202122109008440011) b
 exact(AK rfl).trans<|(AK rfl).trans<|(AK<|g x 0 n (la1 0x18410200000a20) l).trans<|(AK rfl).trans rfl
theorem BC (t N:Nat)(h:autoParam (0<N) dc):DH .Mod (t:Int) (N:Int)=some ((t%N:Nat):Int):=by
 refine(iP (by exact (la1 0x608c08001102000561) h) (rE (Int.fmod_eq_emod_of_nonneg _<|bX _) ?_):(if(N:Int)≠0 then some ((t:Int).fmod (N:Int))else none)=_);rfl
noncomputable def hq1 (S:QS) (x:Nat) (q:List Nat):List Nat:=match S.occ x with|true=>q++[x]|false=>q
theorem Rg (k:KF Z):∃ M,Bx Z (cH 12) (hBB.take 7) M/\∀(S:QS) (q:List Nat) (b a t n:Nat) (h i g e:Option AV),S.n<=1000->q.length<=900->
  ∃ y w u,(S.empty (t%S.n)=true->q=[]->M n (plH S q b a [some<|.v<|.int t,h,i,g,e])=some (.cont,plH S q b a [some<|.v<|.int t,some<|.v<|.int (t%S.n:Nat),y,w,u]))/\
   (S.empty (t%S.n)=false->S.rs (t%S.n)=false->M n (plH S q b a [some<|.v<|.int t,h,i,g,e])=some (.next,plH S (hq1 S (t%S.n) q) b a [some<|.v<|.int t,some<|.v<|.int (t%S.n:Nat),y,w,u]))/\
   ∀ j A,S.empty (t%S.n)=false->S.rs (t%S.n)=true->hq1 S (t%S.n) q=j::A->M n (plH S q b a [some<|.v<|.int t,h,i,g,e])=some (.next,plH S A b j [some<|.v<|.int t,some<|.v<|.int (t%S.n:Nat),y,w,u]):=by
 refine⟨_,(AA (Ab 4<|Ac<|AJ (AB 4)<|An 0 k.DK EC)<|AA (Ab 5<|Ac<|Di 0 .o k.Ah k.Bo (DR k)<|AB 5)<|AA (Ab 6<|Ac<|Di 0 .c k.AO k.Bo (DR k)<|AB 5)<|AA (Ab 7<|Ac<|Di 0 .s k.Ap k.Bo (DR k)<|AB 5)<|AA (Ao (Al<|AW (AJ (AJ (AB 6)<|AB 7)<|AB 8)<|AD AE) (AA (Pk<|Al<|AW (GO 1<|GP k)<|AD AE)<|AA Tb AI) AI)<|AA (Ao (Al<|AW (AB 6)<|AD AE) (AA (Ax<|JD 1<|AB 5) AI) AI)<|AA (Ao (Al<|A3<|By 0 k.Du (Dv k)<|AN (AB 5) Aa) (AA (Ab 2<|Qp 1 rfl rfl rfl rfl rfl) AI) AI) AI),fun S q b a t n h i g e P E=>⟨some<|.v<|.int<|b2i<|S.occ<|t%S.n,some<|.v<|.int<|b2i<|S.cont<|t%S.n,some<|.v<|.int<|b2i<|S.shf<|t%S.n,have p:t%S.n<S.n:=bR _ S.CR;have G:=BC t S.n S.CR;?_⟩⟩;generalize t%S.n=x at p G ⊢;have K:∀ h:Option AV,BX (4+1) (up<|Aj .Mod (AM 4)<|Bq 0<|aQ fun S=>MV.int ↑S.n) n (plH S q b a [some<|.v<|.int t,h,i,g,e])=some (.next,plH S q b a [some<|.v<|.int t,some<|.v<|.int (x:Nat),i,g,e]):=by
  intro h;simp only[plH,BX,up,wPl,Aj,Bq,aQ,mI,AM,AL,AY,G]
 have J:BX (5+1) (up<|pBit 0 .o<|AM 5) n (plH S q b a [some<|.v<|.int t,some<|.v<|.int (x:Nat),i,g,e])=some (.next,plH S q b a [some<|.v<|.int t,some<|.v<|.int (x:Nat),some<|.v<|.int<|b2i<|S.occ x,g,e]):=by
  simp only[plH,BX,up,wPl,pBit,mI,AM,AL,AY,CV p,QS.bit]
 have I:BX (6+1) (up<|pBit 0 .c<|AM 5) n (plH S q b a [some<|.v<|.int t,some<|.v<|.int (x:Nat),some<|.v<|.int<|b2i<|S.occ x,g,e])=some (.next,plH S q b a [some<|.v<|.int t,some<|.v<|.int (x:Nat),some<|.v<|.int<|b2i<|S.occ x,some<|.v<|.int<|b2i<|S.cont x,e]):=by
  simp only[plH,BX,up,wPl,pBit,mI,AM,AL,AY,CV p,QS.bit]
 have H:BX (7+1) (up<|pBit 0 .s<|AM 5) n (plH S q b a [some<|.v<|.int t,some<|.v<|.int (x:Nat),some<|.v<|.int<|b2i<|S.occ x,some<|.v<|.int<|b2i<|S.cont x,e])=some (.next,plH S q b a [some<|.v<|.int t,some<|.v<|.int (x:Nat),some<|.v<|.int<|b2i<|S.occ x,some<|.v<|.int<|b2i<|S.cont x,some<|.v<|.int<|b2i<|S.shf x]):=by
  simp only[plH,BX,up,wPl,pBit,mI,AM,AL,AY,CV p,QS.bit]
 have m:(upB<|Aw .Eq (Aj .Add (Aj .Add (AM 6)<|AM 7)<|AM 8)<|AP<|.int 0) n (plH S q b a [some<|.v<|.int t,some<|.v<|.int (x:Nat),some<|.v<|.int<|b2i<|S.occ x,some<|.v<|.int<|b2i<|S.cont x,some<|.v<|.int<|b2i<|S.shf x]) =
   some (S.empty x,plH S q b a [some<|.v<|.int t,some<|.v<|.int (x:Nat),some<|.v<|.int<|b2i<|S.occ x,some<|.v<|.int<|b2i<|S.cont x,some<|.v<|.int<|b2i<|S.shf x]):=by
  simp only[plH,upB,wPl,Aw,CF,Aj,mI,AM,AP,AL,BR,CD,Vc];rfl
 have z:(mIf (upB<|Aw .Eq (AM 6)<|AP<|.int 1) (Ag (C4<|JC 1<|AM 5) Ar) Ar) n (plH S q b a [some<|.v<|.int t,some<|.v<|.int (x:Nat),some<|.v<|.int<|b2i<|S.occ x,some<|.v<|.int<|b2i<|S.cont x,some<|.v<|.int<|b2i<|S.shf x]) =
   some (.next,plH S (hq1 S x q) b a [some<|.v<|.int t,some<|.v<|.int (x:Nat),some<|.v<|.int<|b2i<|S.occ x,some<|.v<|.int<|b2i<|S.cont x,some<|.v<|.int<|b2i<|S.shf x]):=by
  unfold hq1;refine bE (S.occ x) (fun L=>?_) (fun L=>?_)<;>simp only[plH,mIf,Ag,Ar,C4,JC,upB,wPl,Aw,CF,mI,AM,AP,AL,AY,CD,Fw,Om,Ol];exact iP (by exact dK E) rfl
 have F:∀ B,(upB<|pTr<|BZ 0 (q1 QS.rs)<|Ai (AM 5) BY) n (plH S B b a [some<|.v<|.int t,some<|.v<|.int (x:Nat),some<|.v<|.int<|b2i<|S.occ x,some<|.v<|.int<|b2i<|S.cont x,some<|.v<|.int<|b2i<|S.shf x]) =
   some (S.rs x,plH S B b a [some<|.v<|.int t,some<|.v<|.int (x:Nat),some<|.v<|.int<|b2i<|S.occ x,some<|.v<|.int<|b2i<|S.cont x,some<|.v<|.int<|b2i<|S.shf x]):=by
  intro B;simp only[plH,upB,wPl,pTr,mT,BZ,Ai,BY,AM,AL,GD p]
 have f:∀{N:MX},Ag (BX (4+1)<|up<|Aj .Mod (AM 4)<|Bq 0<|aQ fun S=>MV.int ↑S.n) (Ag (BX (5+1)<|up<|pBit 0 .o<|AM 5)<|Ag (BX (6+1)<|up<|pBit 0 .c<|AM 5)<|Ag (BX (7+1)<|up<|pBit 0 .s<|AM 5) N) n
   (plH S q b a [some<|.v<|.int t,h,i,g,e])=N n (plH S q b a [some<|.v<|.int t,some<|.v<|.int (x:Nat),some<|.v<|.int<|b2i<|S.occ x,some<|.v<|.int<|b2i<|S.cont x,some<|.v<|.int<|b2i<|S.shf x]):=
  (AK<|K h).trans<|(AK J).trans<|(AK I).trans<|AK H
 have l:(hq1 S x q).length<=901:=by unfold hq1;cases S.occ x;(exact Nat.le_succ_of_le E);exact(rE cE (Nat.succ_le_succ E):(q++[x]).length<=901)
 refine⟨fun r D=>?_,fun r C=>?_,fun j A r C O=>?_⟩
 .subst D;rw[r]at m;refine f.trans ?_;unfold Ag;exact rE (Df m) rfl
 .rw [r]at m;have d:=F<|hq1 S x q;rw[C]at d;exact f.trans<|(AK<|CE m).trans<|(AK z).trans<|(AK<|CE d).trans rfl
 .rw [r]at m;have d:=F<|hq1 S x q;rw[C]at d;rw[O]at d z l;refine f.trans<|(AK<|CE m).trans<|(AK z).trans<|(AK<|(Df d).trans ?_).trans rfl;simp only[plH,Ag,Ar,BX,Qo,AL,AY,ofN,List.map];rw[cA<|by rw[b7];simp at l;exact dK l];rfl
theorem UN (k:KF Z):∃ f,Pu Z (cH 12) (Yu<|nth hBB 7) f/\∀(S:QS) (q:List Nat) (e a t x:Nat) (d c b:Option AV),x<S.n->S.n<=1000->a<S.n->
  f (plH S q e a [some<|.v<|.int t,some<|.v<|.int (x:Nat),d,c,b])=some (.int ((a*2^S.r+S.rem x:Nat):Int)):=by
 refine⟨_,(AJ (AJ (AB 3)<|An 0 k.a_r JI)<|Cj 0 k.BQ Cp<|AB 5),fun S q e a t x d c b g h i=>have l:Iv (.qf S) (x:Int)=some (.int<|S.rem x):=cA ⟨bX _,Int.ofNat_lt.mpr g,(la2 0x38230203e8a200400103e8a00042) g h⟩;?_⟩;have j:DH .LShift (a:Int) ((32-S.q:Nat):Int)=some ((a*2^S.r:Nat):Int):=by
  show(if 0<=((32-S.q:Nat):Int)/\((32-S.q:Nat):Int)<=1000/\(a:Int).natAbs<2^64 then some ((a:Int)*2^((32-S.q:Nat):Int).toNat)else none)=_;exact iP ⟨dJ,(la2 0xa60880420008280a03e8a00031) rfl,cj (cj i h)<|by decide⟩<|rE (cL ..)<|rE (c8 ..)<|rE (Int.natCast_pow ..) rfl
 simp only[plH,Aj,DD,Bq,aQ,mI,AM,AL,l,j,BR];rfl
theorem Rh (k:KF Z):∃ M,Ei Z (cH 12) (Yt hF) M/\∀(S:QS) (q:List Nat) (a b n:Nat) (r:PL),S.n<=1000->a<S.n->M n (plH S q a b r)=some (Fi (a:Nat) S.n,plH S q a b r):=by
 refine⟨_,(P1 (Fl k) (AB 2) (AJ (An 0 k.DK EC)<|AB 2) rfl rfl),fun S q a b n r d c=>have e:((S.n:Int)+(a:Int)-(a:Int)).toNat=S.n:=(la3 0x235821008080202080200404d1c80200404c005200801013020de040021)<|tnk _;?_⟩;simp only[plH,Rc,Aj,Bq,aQ,mI,AM,AL,BR];exact iP (show Jw _ _ from⟨⟨k62 _,j62<|bW (cK c)<|bW d<|by decide⟩,k62<|S.n+a,j62 (n:=S.n+a)<|Nat.add_le_add d<|bW (cK c) d⟩)<|rE e rfl
noncomputable abbrev JT:=St->List Addr->Prop
structure Fk (F:List Addr) (G:St) (F':List Addr) (G':St):Prop where
 keep:∀ a,G a≠none->a∉F->G' a=G a
 sub:∀ a∈F',a∈F\/G a=none
theorem Fm.k {F G b a}(h:Fm F G b a):Fk F G b a:=⟨h.keep,h.sub⟩
theorem Fk.trans {F G F1 G1 i g}(a:Fk F G F1 G1) (b:Fk F1 G1 i g):Fk F G i g:=by
 refine⟨fun x c d=>?_,fun x c=>?_⟩
 .exact have f:=a.keep x c d;(b.keep x (rE f c) fun h=>(a.sub x h).elim d c).trans f
 .refine T1 (b.sub x c) (fun h=>a.sub x h) fun h=>?_
  .by_cases d:x∈F
   .exact .inl d
   .by_cases e:G x=none
    .exact .inr e
    .rw [a.keep x e d]at h;exact(e h).elim
theorem Fk.mono {F G d b c}(a:Fk F G d c) (h:∀ x∈b,x∈d):Fk F G b c:=⟨a.keep,fun x e=>a.sub x<|h x e⟩
structure GC where
 h₀:Heap
 L:Addr
 m:Str->Option Value
 s:Shared
 G:St
 fg:List Addr
structure Vj (C:GC) (J:JT) (s':Shared):Prop where
 ex:∃ G' fg',J G' fg'/\Fr C.h₀ C.L s'.heap C.m/\SR C.h₀ C.L s'.heap G'/\Fk C.fg C.G fg' G'/\fg'.Nodup/\Sm C.s s'
noncomputable def W8 (x:Addr) (S:QS) (o:Option<|Nat×(GenState->JT->Prop)) (C:GC) (e:End) (a:Shared):Prop:=match o,e with
 |none,.ret r=>r=.ok (.ret .none)/\Vj C (fun G b=>∃ D:QD,D.x=x/\Bz G D S/\b=D.foot) a
 |some (y,P),.susp v g l k c p fr=>(End.susp v g l k c p fr).quiet=true/\VR v (.int y)/\∃ J,P (End.susp v g l k c p fr).genState J/\Vj C J a
 |_,_=>False
structure GIn (Z:PX) (A:Around) (L':Addr) (J:JT) (C:GC):Prop where
 cx:∃ env,Cx Z 16 A C.h₀ C.L env
 F:Fr C.h₀ C.L C.s.heap C.m
 R:SR C.h₀ C.L C.s.heap C.G
 lt:C.L<L'
 j:J C.G C.fg
 nd:C.fg.Nodup
structure W9 (Z:PX) (L':Addr) (x:Addr) (S:QS) (o:Option<|Nat×(GenState->JT->Prop)) (gs:GenState) (J:JT):Prop where
 fr:∀ G fg G',J G fg->(∀ a∈fg,G' a=G a)->J G' fg
 dm:∀ G fg,J G fg->∀ b∈fg,G b≠none
 run:∀ A C,GIn Z A L' J C->Wk Z.md A (W8 x S o C) gs C.s
noncomputable def Rdy (Z:PX) (a:Addr) (x:Addr) (S:QS):List Nat->GenState->JT->Prop
 | []=>W9 Z a x S none
 |y::b=>W9 Z a x S<|some (y,Rdy Z a x S b)
noncomputable def oOf (Z:PX) (b:Addr) (x:Addr) (S:QS):List Nat->Option (Nat×(GenState->JT->Prop))
 | []=>none
 |y::a=>some (y,Rdy Z b x S a)
theorem JZ (Z:PX) (b:Addr) (x:Addr) (S:QS) (a:List Nat):Rdy Z b x S a=W9 Z b x S (oOf Z b x S a):=by induction a<;>rfl
noncomputable def noA (G:St) (a:Addr):St:=fun b=>if b=a then none else G b
theorem Ja (G:St) (a:Addr):noA G a a=none:=cA rfl
theorem E1 (G:St)(h:b≠a):noA G a b=G b:=b5 h
theorem Ri (h:Fk i (noA G c) g f):Fk (c::i) G (c::g) (f.set c o):=by
 refine⟨fun a j e=>?_,fun a d=>?_⟩
 .have b:a≠c:=fun q=>e<|q▸.head _;exact rE (St.AG _ _ b)<|rE (h.keep a (by rw[E1 _ b];exact j) fun q=>e<|.tail _ q)<|rE (E1 _ b) rfl
 .refine mC d (.inl<|.head _) fun d=>?_
  .by_cases b:a=c
   .exact .inl<|b▸.head _
   .exact (h.sub a d).imp (.tail _) fun q=>by rw[E1 _ b]at q;exact q
theorem SR.noA (R:SR c L h G) (a:Addr):SR c L h (noA G a):=R.sub fun b o e=>by
 by_cases d:b=a
 .rw [d,Ja]at e;exact xns e
 .rw [E1 _ d]at e;exact e
theorem SR.frame (R:SR b L h G) (F:b.objs.size<=L) (k:L<c) (j:h.get? c=some o):SR b L h (G.set c<|.obj o):=by
 refine gG R fun d N r=>?_;have f:o.isFreed=false:=(PySem.Heap.get?_some_iff.mp j).2;refine⟨(c,o)::d,fun p g=>mC g ⟨j,Nat.ne_of_gt k,oE (b.get? c) (fun e=>rfl) fun s e=>absurd (cj (Heap.lt_size e) F)<|Nat.not_lt.mpr<|cK k⟩ fun g=>N p g,fun a m e=>?_⟩
 .by_cases i:a=c
  .rw [i,St.AH]at e;(refine soE e ?_;clear e);exact rE i ⟨o,.head _,rfl,f⟩
  .rw [St.AG _ _ i]at e;exact gG (r a m e) fun l q n=>⟨l,.tail _ q,n⟩
def UO (s:Stmt):Pos:=(ePa (sPa s).2.2.2.1).2
def Zr (s:Stmt):Pos:=(sPa s).2.2.2.2.2.2
def Zs (s:Stmt):Pos:=(ePa (sPa s).2.2.1).2
def Zt (s:Stmt):Pos:=(sPa s).2.2.2.2.2.2
def clH (a b:Addr):Code:=.forLoop (.Name "i"<|UO hF) (.ref b) hBB []<|(cH 12).env a
structure Gr (Z:PX) (A:Around) (C:GC) (g:Heap) (L':Addr):Prop where
 hh:A.handled=none
 hd:A.depth+12+1<recursionLimit
 hu:A.units+8*12+3<cLine
 X:Z.K.In g
 T:Top Z.p Z.loose Z.K3 Z.mg Z.mb g
 bel:∃ A₀ base outer,Below A₀ base outer g/\A.frames=some outer
 back:∀ h' m' G',Fr g L' h' m'->SR g L' h' G'->Fr C.h₀ C.L h' C.m/\SR C.h₀ C.L h' G'
 lt:C.L<L'
 above:C.h₀.objs.size<=C.L
inductive HT (C:GC) (g:Heap) (L':Addr) (x:Addr) (S:QS) (F0:List Addr) (I0:Addr) (fi:List Addr) (q:List Nat) (st cur:Nat) (ys:List MV) (s:Shared):Prop
 |mk (G:St) (ls:LS) (fs:FS) (mg:Str->Option Value) (x4 x5 x6 x7 x8:Option AV) (h1:Fr g L' s.heap mg) (h2:LR (cH 12).vs ls mg) (h3:SR g L' s.heap G) (h4:LN G fs (plH S q st cur [x4,x5,x6,x7,x8]) ls) (h5:ls.head?=some (some<|.ref x))
  (h6:CG G I0 fi ys) (h7:(fi++fs.flatten).Nodup) (h8:G L'=none) (h9:Fk F0 (noA C.G L') (fi++fs.flatten) G) (hA:Sm C.s s)
inductive JH (L':Addr) (x:Addr) (S:QS) (I0:Addr) (fi:List Addr) (q:List Nat) (st cur:Nat) (ys:List MV) (G:St) (fg:List Addr):Prop
 |mk (oL:Obj) (mg:Str->Option Value) (ls:LS) (fs:FS) (x4 x5 x6 x7 x8:Option AV) (h1:G L'=some (.obj oL)) (h2:∀ h:Heap,h.get? L'=some oL->h.Ns L' mg) (h3:LR (cH 12).vs ls mg) (h4:LN G fs (plH S q st cur [x4,x5,x6,x7,x8]) ls) (h5:ls.head?=some (some<|.ref x))
  (h6:CG G I0 fi ys) (h7:fg=L'::(fi++fs.flatten))
theorem JH.fr (G:St) (f:List Addr) (m:St) (h:JH k x S l j q i c g G f) (e:∀ a∈f,m a=G a):JH k x S l j q i c g m f:=by
 refine bc fun v=>?_;obtain⟨u,w,y,F,t,s,r,p,o,E,D,C,B,A,z,n⟩:=h;refine v ?_;revert e;exact rE n fun e=>⟨u,w,y,F,t,s,r,p,o,(e _<|.head _).trans E,D,C,B.mono fun b d=>e b<|.tail _<|Bl _ d,A,z.mono fun b d=>e b<|.tail _<|Lf _ d,rfl⟩
theorem JH.dm (G:St) (d:List Addr) (h:JH n x S o m q g c f G d):∀ b∈d,G b≠none:=by
 refine bc fun i=>?_;obtain⟨v,w,y,C,u,t,s,r,p,l,B,A,k,z,j,e⟩:=h;exact i<|rE e fun b a=>mC a (rE l<|L0 _) fun a=>(X1.mp a).elim (j.dom b)<|k.lo.dom b
theorem Kk (x:GIn Z A a J C) (q:C.G a=some (.obj d)) (c:∀ h:Heap,h.get? a=some d->h.Ns a e) :
  ∃ g,Gr Z A C g a/\Fr g a C.s.heap e/\SR g a C.s.heap (noA C.G a):=by
 refine bc fun p=>xE1 x.cx fun t=>fun b=>xE1 (x.R.get q) fun u=>xA3 fun r i=>?_;revert i;refine xA2 fun f=>?_;revert c;exact rS f fun c=>fun _=>fun _=>xE1 (Np b x.F (x.R.noA a) x.lt (c _ r)<|Ja _ _) fun g=>xA6 fun o n m l k j=>p ⟨g,⟨b.hh,(la2 0x6088084000850084409c201211) b.dep,(la2 0x182202100021421804220ce108601211) b.un,l,k,m,j,x.lt,x.F.above⟩,o,n⟩
theorem E9.fin (h:E9 N R e B s t b) (c:e<=t):b=[]:=by
 induction h with
 |done=>rfl
 |gap a=>exact False.elim<|(la2 0x182202002004001c2) a c
 |val a=>exact False.elim<|(la2 0x182202002004001c2) a c
section
variable {S:QS}{a:Nat}{B:Nat->List Nat}{b:Nat->Nat}
theorem Lin.one (l:Lin S a B b)(p:a<=i) (o:i<a+S.n) (k:a<=c) (g:c<a+S.n) (m:j<(B i).length) (f:d<(B c).length) (e:b i+j=b c+d):c=i/\d=j:=by
 rcases cC i c with h|h|h
 .have:=l.mono p h<|dI g;exact (la7 0x35ad688502608142020c1185089018130408400273) m e this
 .revert e;exact rS h fun e=>(la4 0x1ac820c08418440c2220208000271) e
 .have:=l.mono k h<|dI o;exact (la7 0x2d6b588502508182020c1185089010130408400273) f e this
theorem Lin.Zu (m:Lin S a B b)(p:a<=t) (k:t<a+S.n) (h:b t=t) (o:B t=[]):qsW B b a t=[]/\qsW B b a (t+1)=[]:=by
 constructor
 .unfold qsW;rw[List.filter_eq_nil_iff];refine fun i g=>xP (List.mem_range'_1.mp g)<|xA2 fun d f=>lE' (B i) (fun c=>?_) fun r l c=>?_
  .simp
  .have:=m.mono (i:=i) (j:=t) d ((la4 0xa8b08c0440418a30410010040040013) d f rfl)<|dI k;rw[c]at this;simp at this ⊢;exact (la4 0x1a090088093080201040840012) h this
 .unfold qsW;rw[List.filter_eq_nil_iff];refine fun i g=>xP (List.mem_range'_1.mp g)<|xA2 fun d f=>lE' (B i) (fun c=>?_) fun r l c=>?_
  .simp
  .by_cases e:i=t
   .rw [e,o]at c;exact xnc c
   .have:=m.mono (i:=i) (j:=t) d ((la4 0x558058b10e042001310122118a30410010040040014) d f rfl e)<|dI k;rw[c]at this;simp at this ⊢;exact (la4 0x6824022024c20080410212210012) h this
theorem Lin.Yv (h:Lin S a B b)(s:a<=t) (p:t<a+S.n) (r:a<=i) (C:i<=t) (o:j<(B i).length) (e:t=b i+j) (E:0<j->cur=i%S.n) :
  S.empty (t%S.n)=false/\((S.rs (t%S.n)=false/\cur=i%S.n/\hq1 S (t%S.n) ((qsW B b a t).map (·% S.n))=(qsW B b a<|t+1).map (·% S.n))\/
   (S.rs (t%S.n)=true/\hq1 S (t%S.n) ((qsW B b a t).map (·% S.n))=i%S.n::(qsW B b a<|t+1).map (·% S.n))):=by
 have g:i<a+S.n:=dM p C;refine xP (h.slot (i:=i) (k:=j) r g o)<|xA3 fun q F _=>?_;have l:=h.nonempty (i:=i) (k:=j) r g o;have u:B i≠[]:=fun z=>by rw[z]at o;simp at o
 have d:hq1 S (t%S.n) ((qsW B b a t).map (·% S.n))=((List.range' a<|t+1-a).filter fun i=>!(B i).isEmpty&&decide (t<=b i)).map (·% S.n):=by
  unfold hq1;refine rS (h.push (m:=a) (To _) s p)<|rE (h.occ t s p) ?_;cases(B t).isEmpty
  .simp
  .rfl
 refine⟨rE e l,?_⟩;rw[<- e]at q F;have c:S.empty (t%S.n)=false:=rE e l;by_cases f:j=0
 .right;refine xP (h.pop (m:=a) (To _) s p h.sa r ((la3 0x12a8450202408800420840022) e f) u g)<|xA3 fun _ _ v=>rE d<|rE v ⟨?_,rfl⟩;rw[f]at q;unfold QS.empty at c;rw[q]at c;unfold QS.rs;refine rE q ?_;revert c;cases S.occ (t%S.n)<;>cases S.shf (t%S.n)<;>simp
 .left;refine⟨by unfold QS.rs;refine rE (q.trans<|bS.mpr f) ?_;rfl,E<|(la1 0x68420202009800111) f,?_⟩;refine rE d ?_;rw[h.Vh (m:=a) (To _) s p fun D A y x w=>?_];have:=h.one r g A y o (cG.mpr x) (show b i+j=b D+0 by exact (la4 0x1aa845023040840046080904200222) e w);exact (la3 0x62011408090262004840027c2) this f
theorem UP (h:t<=m+N):((qsW B b m t).map (·% S.n)).length<=N:=by
 refine rE (b7 ..) ?_;have:(qsW B b m t).length<=(List.range' m<|t-m).length:=List.length_filter_le ..;rw[List.length_range']at this;exact (la5 0xada08c0460820a40000418440040003) h this rfl
end
theorem SR.XA (R:SR b L h G):G L=none:=oE (G L) (fun e=>rfl) fun o e=>xE1 (R.get e) fun _=>xA4 fun _ _ h _=>(h rfl).elim
theorem UQ {f:PL}{x:Addr}(g:LN G e (some (.qf S)::f) c) (h:c.head?=some (some<|.ref x)):∃ D:QD,D.x=x/\B0 e 0=D.foot/\Bz G D S:=by
 refine gH (g.lo.qf (i:=0) rfl) fun D k b j=>⟨D,?_,k,j⟩;cases c with
 |nil=>exact xns h
 |cons y l=>
  have z:=so h;clear h;revert b;refine rE z fun b=>have b:some (MV.ref x)=some (.ref D.x):=b;?_;cases b;rfl
noncomputable def cnF:AF->MF
 |.cont=>.cont
 |_=>.next
theorem Yw (k:KF Z) (Ln:Lin S a B I) (hN:S.n<=900)(aY:O=a%S.n)(aZ:kf (.ok .next)=.pure (.done<|.ret .none)) (a3:gd=false) :
  ∀ U u xs N,u+U=S.n->E9 S.n S.r (a+S.n) B I (a+u) xs->N<S.n->(∀ i j,a<=i->i<a+S.n->0<j->j<(B i).length->a+u=I i+j->N=i%S.n)->
  ∀{A:Around} {C:GC} {g:Heap} {F0:List Addr} {s:Shared},Gr Z A C g d->C.fg=d::F0->HT C g d x S F0 q m ((qsW B I a<|a+u).map (·% S.n)) O N (Fi ((O+u:Nat):Int) U) s->
  Sg Z.md A (W8 x S (oOf Z d x S xs) C) (clH d q) (Z.md.den<|clH d q) [.ret kf none gd l (.func hB<|(cH 12).env d) p []] s:=by
 intro U;induction U with
 |zero=>
  intro u xs N hu he hc aG A C g F0 s Q ae ht;obtain aM:=(he.fin<|(la3 0xc08c0840120888004200201) hu);revert he;refine rE aM fun he=>bc fun ng=>?_;obtain⟨G,ls,fs,mg,x4,x5,x6,x7,x8,F,lr,R,lo,hx,it,nd,hL,fk,sm⟩:=ht;refine ng<|have cx:=Ox (c:=cH 12) (body:=hB) (body':=hBB) (target:=.Name "i"<|UO hF) (it:=.ref q) (k:=kf) (gd:=gd) (l:=l) (p:=p) (n:=12) (L':=d) Q.hh Q.hd Q.hu Q.X Q.T Q.bel rfl<|D9 (f:=330);Ow (fun _=>rfl)<|Nr cx.hh F R it fun s' aS F' R'=>UG (.ok .next)<|rE aZ<|W4 (.ok<|.ret .none) ⟨rfl,bc fun ng=>xP (Q.back _ _ _ F' R') (xA2 fun F2 R2=>gH (UQ lo hx) fun D bg aJ hq=>ng<|have hI:=it.self;have aa:=SF.mp nd;have aI:∀ b∈D.foot,b∈fs.flatten:=fun b y=>Ad (i:=0)<|aJ▸y;⟨_,D.foot,⟨D,bg,hq.mono fun b y=>b5 fun(z:b=q)=>aa.2.2 q hI b (aI b y) z.symm,rfl⟩,F2,R2,⟨fun b h1 h2=>?_,fun b y=>?_⟩,aJ▸Ay lo.nd 0,sm.trans aS⟩)⟩
  .rw [ae]at h2;have ab:b≠d:=fun z=>h2<|z▸.head _;have hG:noA C.G d b≠none:=rE (E1 _ ab) h1;have a5:b≠q:=fun z=>by
    exact T1 (fk.sub b<|Lf _<|z▸hI) (fun h=>h2<|.tail _ h) fun h=>hG h
   exact(iN a5 (rE (fk.keep b hG fun z=>h2<|.tail _ z)<|rE (E1 _ ab) rfl):(if b=q then none else G b)=C.G b)
  .refine rE ae ?_;by_cases ab:b=d
   .exact .inl<|ab▸.head _
   .exact (fk.sub b<|Bl _<|aI b y).imp (.tail _) fun z=>by rw[E1 _ ab]at z;exact z
 |succ U ih=>
  refine fun u xs N hu he hc aG A C g F0 s Q ae ht=>bc fun ng=>?_;obtain⟨G,ls,fs,mg,x4,x5,x6,x7,x8,F,lr,R,lo,hx,it,nd,hL,fk,sm⟩:=ht;refine ng<|have cx:=Ox (c:=cH 12) (body:=hB) (body':=hBB) (target:=.Name "i"<|UO hF) (it:=.ref q) (k:=kf) (gd:=gd) (l:=l) (p:=p) (n:=12) (L':=d) Q.hh Q.hd Q.hu Q.X Q.T Q.bel rfl<|D9 (f:=330);Ow (fun _=>rfl)<|Lg F R it fun v G2 s2 hv av aD aR F2 R2=>wpAny_assign_Name (CZ (c:=cH 12) (i:=4) rfl rfl rfl F2 lr R2 hv fun m3 s3 aP F3 aW R3=>fun K H bf bb=>have aL:((O+u:Nat):Int)+1=((O+(u+1):Nat):Int):=la2 0xc2081091080202408008250;?_);rw[aL]at av;refine have aa:=SF.mp nd;have hI:=it.self;have ay:∀ b∈fs.flatten,b≠q:=fun b y z=>aa.2.2 q hI b y z.symm;have ar:LN G2 (BD fs 4 []) (plH S ((qsW B I a<|a+u).map (·% S.n)) O N [some<|.v<|.int ((O+u:Nat):Int),x5,x6,x7,x8]) (ls.set 4<|some<|.int ((O+u:Nat):Int)):=(lo.mono fun b y=>aD b<|ay b y).Gm 4 _;?_;have bj:Fk F0 (noA C.G d) (m++(BD fs 4 []).flatten) G2:=by
   have:Fk (m++fs.flatten) G (m++fs.flatten) G2:=⟨fun b _ h2=>aD b fun z=>h2<|Lf _<|z▸hI,fun b y=>.inl y⟩;exact(fk.trans this).mono fun b y=>(X1.mp y).elim (Lf _) fun y=>Bl _<|BM b y
  refine gG (Rg k) fun M hM a8=>xE3 (a8 S ((qsW B I a<|a+u).map (·% S.n)) O N (O+u) 1000 x5 x6 x7 x8 (dK hN)<|UP<|(la4 0x16090088093084220384a4000e12804200202) hN hu) fun y6 y7 y8=>xA3 fun b1 b2 b3=>have az:(O+u)%S.n=(a+u)%S.n:=rE aY<|rE (Nat.mod_add_mod ..) rfl;?_;rw[az]at b1 b2 b3;have aq:∀{r:AF} {af:PL} {W:Flow->Shared->Prop},M 1000 (plH S ((qsW B I a<|a+u).map (·% S.n)) O N [some<|.v<|.int ((O+u:Nat):Int),x5,x6,x7,x8])=some (r,af)->
    (r=.next\/r=.cont)->(∀ V o L m5 s5 fl,FlR fl (cnF r)->LN V o af L->L.head?=some (some<|.ref x)->CG V q m (Fi ((O+(u+1):Nat):Int) U)->(m++o.flatten).Nodup->
     Fk F0 (noA C.G d) (m++o.flatten) V->Sm C.s s5->Fr g d s5.heap m5->LR (cH 12).vs L m5->SR g d s5.heap V->W fl s5)->
    wpAny Z.md (A.over (clH d q) [.ret kf none gd l (.func hB<|(cH 12).env d) p []]) (execs (hBB.take 7)<|(cH 12).env d) W (fun _ _=>False) s3:=by
   intro r af W e4 hr kk;refine hM (P:=fun mf L V=>mf=cnF r/\∃ o,LN V o af L/\L.head?=some (some<|.ref x)/\CG V q m (Fi ((O+(u+1):Nat):Int) U)/\(m++o.flatten).Nodup/\Fk F0 (noA C.G d) (m++o.flatten) V) cx F3 aW R3
    ⟨1000,_,_,r,_,ar,e4,fun o V L f5 mf q1 q2 q3 q4 q5=>?_⟩ fun fl mf L V m5 s5 Y hP aO F5 aV R5=>?_
   .refine xP (Oy av (SF.mpr ⟨aa.1,ar.nd,fun b y b' a6 e=>aa.2.2 b y b' (BM b' a6) e⟩) q1.nd q4)<|xA3 fun k1 k2 k3=>?_;have kx:Fk (m++(BD fs 4 []).flatten) G2 (m++o.flatten) V:=by
     exact⟨fun b h1 h2=>q4.fm.keep b h1 fun z=>h2<|Bl _ z,fun b y=>T1 (X1.mp y) (fun y=>.inl<|Lf _ y) fun y=>(q4.fm.sub b<|rE D4<|Bl _ y).imp (Bl _) id⟩
    refine⟨?_,o,q1,q5.trans<|DV.trans hx,k1,k2,bj.trans kx⟩;rcases hr with rfl|rfl
    .refine DI.kne q2 fun z z'=>rE z' ?_;rfl
    .refine DI.kcn q2 fun z z'=>rE z' ?_;rfl
   .refine xP hP<|xA2 fun z0=>?_;revert Y;exact rE z0 fun Y=>xF1 fun o=>xA5 fun q1 q2 q3 q4 q5=>kk V o L m5 s5 fl Y q1 q2 q3 q4 q5 (((sm.trans aR).trans aP).trans aO) F5 aV R5
  refine Kj (l:=hBB.take 7) (r:=[.Expr (.Yield (some<|Yu<|nth hBB 7)<|Zs<|nth hBB 7)<|Zt<|nth hBB 7]) ?_;generalize aX:xs=bp at he;generalize ai:a+u=t at he;induction he with
  |done=>exact False.elim<|(la4 0x4824022061003088809108022c2) hu ai
  |gap e1 e2 e3 e4=>
   subst ai aX;refine have J:=Ln.E8 (t:=a+u) (dO) e1 e2 e3;xP (Ln.Zu (t:=a+u) (dO) e1 e2 e3)<|xA2 fun g1 g2=>aq (b1 J<|by refine rE g1 ?_;rfl) (.inr rfl) fun V o L m5 s5 fl Y q1 q2 q3 q4 q5 q6 q7 q8 q9=>?_;refine have z:=FlR.ico Y;rE z (rE bb ?_:Sg _ _ _ _ (K .cont) _ _);refine JW rfl<|ih (u+1) _ N (eE hu) e4 hc (fun i j i1 i2 j1 j2 e=>have hf:=Ln.nonempty (i:=i) (k:=j-1) i1 i2<|(la3 0x2ad08a0424800a1040440012) j2 rfl;?_) Q ae ⟨V,L,o,m5,_,_,_,_,_,q7,q8,q9,rE (show a+(u+1)=a+u+1 from rfl)<|rE g2<|rS g1 q1,q2,q3,q4,q9.XA,q5,q6⟩;rw[show I i+(j-1)=a+u by exact (la5 0xa989aaa10e0425008a40010930882240044c104200223) j1 e rfl,J]at hf;exact xtf hf
  | @val _ i j r ys e1 e2 e3 e4 e5 e6=>
   subst ai;have i1:a<=i:=(la3 0x182202202110008040001) e3;have hj:j<(B i).length:=(bY.mp e5).1;have hr:S.rem ((a+u)%S.n)=r:=by
    have:=(Ln.run i j r i1 ((la4 0xe08c08c08400080846042120210012) e1 e2) e5).2.2;rw[<- e4]at this;exact this
   have aw:i%S.n<S.n:=bR _ S.CR;refine xP (Ln.Yv (t:=a+u) (cur:=N) (dO) e1 i1 e2 hj e4 fun h=>aG i j i1 ((la4 0xe08c08c08400080846042120210012) e1 e2) h hj e4)<|xA2 fun J aj=>?_;have a9:M 1000 (plH S ((qsW B I a<|a+u).map (·% S.n)) O N [some<|.v<|.int ((O+u:Nat):Int),x5,x6,x7,x8])=some (.next,plH S ((qsW B I a<|a+u+1).map (·% S.n)) O (i%S.n) [some<|.v<|.int ((O+u:Nat):Int),some<|.v<|.int (((a+u)%S.n:Nat):Int),y6,y7,y8]):=by
    rcases aj with⟨c1,c2,c3⟩|⟨c1,c2⟩
    .exact rE (b2 J c1)<|rE c3<|rE c2 rfl
    .exact b3 _ _ J c1 c2
   have aF:∀ i' j',a<=i'->i'<a+S.n->0<j'->j'<(B i').length->a+(u+1)=I i'+j'->i%S.n=i'%S.n:=fun i' j' k1 k2 k3 k4 k5=>by
    have:=(Ln.one i1 ((la4 0xe08c08c08400080846042120210012) e1 e2) k1 k2 hj (show j'-1<_ by exact (la3 0x2ad08a0424800a1040440012) k4 rfl)<|show I i+j=I i'+(j'-1) by exact (la7 0x31551553544481096062981042542408980111001284088c104200224) e4 k3 k5 rfl).1;exact rE this rfl
   skip;refine aq a9 (.inl rfl) fun V o L m5 s5 fl Y q1 q2 q3 q4 q5 q6 q7 q8 q9=>have z:=FlR.ine Y;rE z ?_;show Sg _ _ _ _ ((execs [_] _).wrap K H id id) _ _;refine Ov<|RW rfl (gG (UN k) fun f hf a4=>cg (E:=fun _ _=>False) (hf (P:=fun v G'=>v=.int ((i%S.n*2^S.r+r:Nat):Int)/\G'=V) cx q7 q8 q9 ⟨o,_,_,q1.lo,a4 S _ O (i%S.n) (O+u) ((a+u)%S.n) y6 y7 y8 (bR _ S.CR) (dK hN) aw,rE hr rfl,rfl⟩ fun v mv G6 s6 ah a7 aN F6 R6=>xP a7<|xA2 fun z0=>?_) (fun _ _ h=>h) fun _ _ h=>h.elim) rfl rfl;revert ah;refine rE z0 fun ah=>fun z1=>?_;subst z1;refine fun bq l' k' p' aE a0=>rE aE ⟨by refine rE a3 ?_;rfl,ah,JH d x S q m ((qsW B I a<|a+(u+1)).map (·% S.n)) O (i%S.n)<|Fi ((O+(u+1):Nat):Int) U,?_,?_⟩
   .refine rE (JZ ..) ⟨JH.fr,JH.dm,fun A2 C2 gi=>a0 _ _ _ (rE bf ?_:Sg _ _ _ _ (K .next) _ _)⟩;refine JW rfl<|bc fun ng=>?_;obtain⟨oL,aT,aU,aK,z4,z5,z6,z7,z8,j1,j2,j3,j4,j5,j6,j7⟩:=gi.j;refine gH (Kk gi j1 j2) fun g2 bh bo bk=>ng<|have ag:=gi.nd;?_;rw[j7,bL]at ag;exact have ax:∀ b∈m++aK.flatten,noA C2.G d b=C2.G b:=fun b y=>E1 _ fun z=>ag.1<|z▸y;ih (u+1) ys (i%S.n) (eE hu) e6 aw aF bh j7 ⟨noA C2.G d,aU,aK,aT,z4,z5,z6,z7,z8,bo,j3,bk,j4.mono fun b y=>ax b<|Bl _ y,j5,j6.mono fun b y=>ax b<|Lf _ y,ag.2,Ja _ _,⟨fun _ _ _=>rfl,fun b y=>.inl y⟩,Sm.refl _⟩
   .refine bc fun ng=>xE3 F6.ns fun oL es ep=>xA2 fun o1 o2=>xP (Q.back _ _ _ F6 R6)<|xA2 fun FC RC=>?_;refine ng<|have aH:G6 d=none:=q9.XA;have ak:d∉m++o.flatten:=fun hm=>(X1.mp hm).elim (fun h=>q3.dom d h aH) fun h=>q1.lo.dom d h aH;⟨G6.set d<|.obj oL,d::(m++o.flatten),⟨oL,m5,L,o,_,_,_,_,_,St.AH ..,fun h e=>⟨oL,es,ep,e,o2⟩,q8,q1.mono fun b y=>St.AG _ _ fun z=>ak<|z▸Bl _ y,q2,q3.mono fun b y=>St.AG _ _ fun z=>ak<|z▸Lf _ y,rfl⟩,FC,
     RC.frame Q.above Q.lt o1,rE ae<|Ri q5,bL.mpr ⟨ak,q4⟩,q6.trans aN⟩
theorem Rj (p:Nat->Bool):∀ n,p n=true->∃ x,x<=n/\p x=true/\∀ u,u<x->p u=false:=by
 intro n;induction n using Nat.strongRecOn with
 |ind n j=>
  intro h;by_cases c:∃ u,u<n/\p u=true
  .exact bc fun i=>gG c fun u a g=>gH (j u a g) fun x f e d=>i ⟨x,(la3 0xe08c0880001040440002) a f,e,d⟩
  .exact ⟨n,To _,h,fun u k=>by
    refine bE (p u) (fun b=>?_) fun b=>?_
    .rfl
    .exact (c ⟨u,k,b⟩).elim⟩
theorem Has.first (h:Has S C):∃ a B s,Lin S a B s/\(∀ i r,a<=i->i<a+S.n->(r∈B i↔C (i%S.n) r))/\S.empty (a%S.n)=true/\∀ u,u<a%S.n->S.empty u=false:=by
 refine bc fun p=>xE3 h fun a B s=>xA2 fun L f=>have b:=S.CR;have m:=L.E8 (t:=a) (To _) (du b) L.sa L.ba;gH (Rj S.empty _ m) fun x o e g=>?_;have z:x<S.n:=by have:=bR a b;exact (la3 0xe08c0841012000040012) o this
 refine gH (JQ S.n a x z) fun i l d c=>p<|T1 (U1 a i) (fun h=>?_) fun h=>?_
 .have A:s i=i/\B i=[]:=by
   rcases L.cover l d with⟨j,k,y,w,v,q⟩|F
   .rw [<- c,q,L.nonempty y (dM d w) v]at e;exact xft e
   .exact F
  refine⟨i,_,_,L.rebase h d A,fun j r E D=>?_,rE c e,rE c g⟩;unfold rbB;by_cases h:j<a+S.n
  .exact iP h<|f j r (dN (by assumption) E) h
  .refine iN h ?_;rw[f (j-S.n) r ((la4 0xcac22811820228c004405840002) h rfl)<|df d D rfl];have:j%S.n=(j-S.n)%S.n:=by
    conv=>lhs;rw[show j=j-S.n+S.n by exact (la4 0xc514d10a0440008a2061001620210022) h rfl]
    exact rE (cV ..) rfl
   exact rE this Iff.rfl
 .have:i=a:=dR l h;subst this;exact⟨i,B,s,L,f,m,rE c g⟩
noncomputable def J0 (a x:Addr) (S:QS):JT:=fun G f=>∃ c d b e,G a=some (.obj c)/\(∀ h:Heap,h.get? a=some c->h.Ns a d)/\LR (cH 12).vs b d/\LN G e (some (.qf S)::none::none::none::no5) b/\b.head?=some (some<|.ref x)/\f=a::e.flatten
theorem J0.fr (G:St) (c:List Addr) (f:St) (h:J0 d x S G c) (e:∀ a∈c,f a=G a):J0 d x S f c:=by
 refine xE4 h fun i j k r=>xA6 fun q p o n m=>fun g=>?_;revert e;exact rE g fun e=>⟨i,j,k,r,(e _<|.head _).trans q,p,o,n.mono fun b l=>e b<|.tail _ l,m,rfl⟩
theorem J0.dm (G:St) (c:List Addr) (h:J0 g x S G c):∀ b∈c,G b≠none:=xE4 h fun i j k o=>xA6 fun f n m e l=>fun d=>rE d fun b a=>mC a (rE f<|L0 _) fun a=>e.lo.dom b a
theorem XB (k:KF Z)(Ln:Lin S a B sB) (hN:S.n<=900) (he:S.empty (a%S.n)=true) (hu:∀ u,u<a%S.n->S.empty u=false) :
  Rdy Z v x S (codes S.n S.r a B S.n) (.fresh<|.func hB<|(cH 12).env v) (J0 v x S):=by
 refine rE (JZ ..) ⟨J0.fr,J0.dm,fun A C gi=>bc fun q=>xE4 gi.j fun oL mg ls fs=>xA6 fun j1 j2 j3 j4 j5 j6=>gH (Kk gi j1 j2) fun g t F R=>q<|have y:=gi.nd;?_⟩;rw[j6,bL]at y;refine have cx:=W6 (c:=cH 12) (body:=hB) (n:=12) (L':=v) t.hh t.hd t.hu t.X t.T t.bel rfl<|D9 (f:=330);have hx:a%S.n<S.n:=bR _ S.CR;(UI fun K H hK=>?_:Sg _ _ _ _ _ _ _);refine Kj (l:=hB.take 4) (r:=[hF])<|bc fun q=>gG (UM k) fun M0 ak J=>q<|ak (P:=fun W o L=>W=.next/\∃ m,LN L m (plH S [] (a%S.n) 0 no5) o/\FmN fs (noA C.G v) m L/\o.head?=some (some<|.ref x)) cx F j3 R
  ⟨1000,fs,_,.next,_,(j4.mono fun b hb=>E1 _ fun z=>y.1<|z▸hb),J S (a%S.n) 1000 hx ((la2 0xe08c0840010384a2000fa28012) hN hx) he hu,fun m L o f W U Q q3 O q5=>?_⟩ fun fl W o L m1 s1 s hP N F1 D R1=>?_
 .exact DI.kne Q fun z z'=>rE z' ⟨rfl,m,U,BE O,q5.trans j5⟩
 .refine bc fun q=>xP hP<|xA2 fun z0=>?_;revert s;refine rE z0 fun s=>xF1 fun m=>xA3 fun aa aq ae=>have z:=FlR.ine s;?_;revert q;refine rE z fun q=>q ?_;show Sg _ _ _ _ ((execs [hF] _).wrap K H id id) _ _;refine Ov<|W5 (target:=.Name "i"<|UO hF) (iter:=Yt hF) (body:=hBB) (pos:=Zr hF) (fun _=>rfl) ?_;refine bc fun q=>gG (Rh k) fun Mi aj E=>q<|aj (P:=fun I w=>∃ d f,LN w d (plH S [] (a%S.n) 0 no5) o/\CG w I f (Fi ((a%S.n:Nat):Int) S.n)/\(f++d.flatten).Nodup/\FmN m L (f::d) w) cx F1 D R1
   ⟨1000,m,_,_,_,aa,E S [] (a%S.n) 0 1000 no5 (dK hN) hx,fun d w I f U Q q3 O q5=>⟨d,f,U,Q,q3,O⟩⟩ fun I w s2 ai M F2 R2=>?_
  refine bc fun q=>xE2 ai fun d f=>xA4 fun Y ab V ao=>q fun kf gd l p ah ag=>?_;have af:(qsW B sB a<|a+0).map (·% S.n)=[]:=by
   unfold qsW;exact rE (Nat.add_zero ..)<|rE (Nat.sub_self ..) rfl
  refine Yw k Ln hN rfl (by exact rE (ag ..)<|hK .next) ah S.n 0 _ 0 (la1 0x18410200000a20) (Ln.W7 S.r) S.CR (fun i j i1 i2 j1 j2 e=>?_) t j6 ⟨w,o,d,m1,none,none,none,none,none,F2,D,R2,rE af Y,ae,ab,V,R2.XA,?_,N.trans M⟩
  .have:=Ln.ge (i:=i) i1<|dI i2;exact (la5 0x10361180901003081011088c0112020000124) i1 j1 e this
  .have h:=(aq.trans ao).fm.k;rw[D4]at h;exact h
structure XC (o:Obj) (gi:Nat):Prop where
 cls:o.cls=.type "generator"
 data:∃ nm qn,o.data=.fields #[.int gi 0,nm,qn]
 slots:o.slots = #[]
structure GenAt (Z:PX) (a:Addr) (gi:Nat) (L' x:Addr) (S:QS) (xs:List Nat) (s:Shared) (G:St) (fg:List Addr):Prop where
 ex:∃ og gs J,G a=some (.obj og)/\XC og gi/\s.gens[gi]?=some gs/\Rdy Z L' x S xs gs J/\J G fg/\a∉fg
structure SmG (gi:Nat) (s s':Shared):Prop where
 os:s'.os=s.os
 drawn:s'.drawn=s.drawn
 gens:AllBare s.gens->AllBare s'.gens
 De:∀(i:Nat) (g:GenState),i≠gi->s.gens[i]?=some g->s'.gens[i]?=some g
theorem SR.keeps {G:St}(R:SR a L h G) (f:∀ b o,h.get? b=some o->e.get? b=some o):SR a L e G:=gG R fun c N r=>⟨c,fun p d=>⟨f _ _ (N p d).1,(N p d).2⟩,r⟩
theorem Dy {s:Shared}{x:GenState}:(s.setGen g x).gens[i]?=if i=g then(if g<s.gens.size then some x else none)else s.gens[i]?:=by
 refine(rE Array.getElem?_setIfInBounds ?_:(s.gens.setIfInBounds g x)[i]?=_);by_cases h:g=i
 .exact iP h<|iP h.symm<|rE h rfl
 .exact iN h<|iN (fun z=>h z.symm) rfl
theorem Hv {s:Shared}{x:GenState}(h:AllBare s.gens) (c:x.bare=true):AllBare (s.setGen g x).gens:=by
 refine fun y b=>xE1 (Array.getElem?_of_mem b) fun i=>fun a=>?_;replace a:=Dy▸a;split at a
 .split at a
  .exact soE a c
  .exact xns a
 .exact h y<|Array.mem_of_getElem? a
theorem SmG.of {s a:Shared}(b:Sm (s.setGen c .running) a) (f:d.bare=true):SmG c s {a.setGen c d with heap:=h'}:=
 ⟨b.os,b.drawn,fun h=>Hv (b.gens<|Hv h rfl) f,fun i g e h=>by
  refine(rE Dy (iN e ?_):(a.setGen c d).gens[i]?=some g);refine b.De i g ?_;exact rE Dy<|iN e h⟩
theorem Jb 
  (O:Cx Z 17 A b L I) (F:Fr b L s.heap m) (R:SR b L s.heap G) (hL:L<P) (hg:GenAt Z a n P x S B s G u) (nd:u.Nodup)
  (hy:∀ y K,B=y::K->∀ v f d h,VR v (.int y)->GenAt Z a n P x S K h f d->Fk u G d f->d.Nodup->SmG n s h->Fr b L h.heap m->SR b L h.heap f->Q (some v) h)
  (he:B=[]->∀ D f h,D.x=x->Bz f D S->Fk u G D.foot f->D.foot.Nodup->SmG n s h->Fr b L h.heap m->SR b L h.heap f->Q none h) :
  wpAny Z.md A (pyNext<|.ref a) Q E s:=by
 refine bc fun C=>?_;obtain⟨Y,gs,J,N,⟨c1,⟨w,X,c2⟩,c3⟩,h3,U,h5,h6⟩:=hg.ex;refine xP (R.Cv N)<|xA3 fun g1 g2 _=>C ?_;replace U:=(JZ ..)▸U;refine UH (gs:=gs) (Φ:=W8 x S (oOf Z P x S B) ⟨b,L,m,s.setGen n .running,G,u⟩) O.hh (O.T.nolimit.keeps F.keep) ((la2 0x60880840008d008440011) O.dep) ⟨_,w,X,g1,c1,c2,c3⟩ h3 (U.run A.in1 ⟨b,L,m,s.setGen n .running,G,u⟩ ⟨⟨I,O.in1<|la [] [] 0x821020011a240042a00<|by kernel_rfl⟩,F,R,hL,h5,nd⟩) fun e j i=>?_;have q:∀{d:List Addr} {f:St},Fk u G d f->f a=some (.obj Y)/\a∉d:=fun t=>
  ⟨(t.keep a (by refine rE N ?_;exact L0 _) h6).trans N,fun hm=>(t.sub a hm).elim h6 fun z=>by replace z:=N▸z;exact xsn z⟩
 cases B with
 |nil=>
  induction e with
  |susp v g l k c p fr=>exact i.elim
  |ret r=>
   refine bc fun C=>?_;obtain⟨rfl,f,d,⟨D,d1,d2,rfl⟩,W,V,t,o,M⟩:=i;exact C ⟨rfl,rfl,fun h' hk=>he rfl D f _ d1 d2 t o (SmG.of M rfl) (W.keeps hk)<|V.keeps hk⟩
 |cons y K=>
  induction e with
  |ret r=>exact i.elim
  |susp v g l k c p fr=>
   refine bc fun C=>?_;obtain⟨hq,hv,J',hr,f,d,j',W,V,t,o,M⟩:=i;have H:n<j.gens.size:=by
    have:=M.De n .running<|rE Dy<|iP rfl<|iP ((dF.mp h3).1) rfl;exact(dF.mp this).1
   exact xP (q t)<|xA2 fun ka kb=>C ⟨hq,hy y K rfl v f d _ hv ⟨Y,_,J',ka,⟨c1,⟨w,X,c2⟩,c3⟩,rE Dy<|iP rfl<|iP H rfl,hr,j',kb⟩ t o (SmG.of (h':=j.heap) M<|End.bare_of_quiet hq) W V⟩
theorem UR:∀ x∈(Af<|BP 10 17).names,x.2≠.cell:=by decide
theorem US:(Af<|BP 10 17).names.lookup ("self":Str)=some NameKind.local:=by decide
theorem Rk (k:KF Z){S:QS}{C:Nat->Nat->Prop}
  (Y:Cx Z (n+1) A c L V) (F:Fr c L s.heap m) (R:SR c L s.heap G) (hD:Bz G D S) (w:D.foot.Nodup) (Ln:Lin S a B sB) (hN:S.n<=900) (he:S.empty (a%S.n)=true) (hu:∀ u,u<a%S.n->S.empty u=false)
  (q:∀ M gi L' N U H,GenAt Z M gi L' D.x S (codes S.n S.r a B S.n) H N U->U.Nodup->L<L'->G M=none->(∀ b,G b≠none->N b=G b)->(∀ b∈U,b∈D.foot\/G b=none)->N M≠none->s.gens.size<=gi->Sm s H->Fr c L H.heap m->SR c L H.heap N->R' (.ok<|.ret<|.ref M) H) :
  codeAny Z.md A (.call (.ref 330) ⟨[.ref D.x],[]⟩) R' s:=by
 refine bc fun O=>xE8 k.Th.ex fun oc od kV W pm an ct aa=>xA2 fun ho Q=>O<|have X:=Y.X.keeps F.keep;codeAny_call_generator (body:=BO<|BP 10 17) ((la3 0x182202102482008440011) Y.dep) (X _ _ ho) rfl rfl rfl rfl (codeRec_of X Q)<|have t:BindsTo s (fnOf "hashes" "QuotientFilter.hashes" (EO<|BP 10 17) (BO<|BP 10 17) (Af<|BP 10 17) .none kV W pm an (.ref<|330-1) ct) ⟨[.ref D.x],[]⟩ [("self",.ref D.x)]:=.of_eq rfl;t _ _ _ _<|wpAny_newFunctionEnv UR (fun y hy=>rE (bO.mp hy) US) (fun v hn hs=>have d:∀ b o,s.heap.get? b=some o->v.get? b=some o:=fun b o e=>(hs.2 b<|Nat.ne_of_lt<|Heap.lt_size e).trans<|cS _ e;have P:v.objs.size=s.heap.objs.size+1:=rE hs.1<|rE (Heap.size_push ..) rfl;have J:L<s.heap.objs.size:=F.ns.lt;⟨(Y.T.nolimit.keeps F.keep).keeps d,bc fun O=>xE3 hn fun K es ep=>xA2 fun o1 o2=>have R2:SR c L v (G.set s.heap.objs.size<|.obj K):=(R.keeps d).frame F.above J o1;have p:=R.fresh;xP (SR.push (ob:={cls:=.type "generator",data:=.fields #[.int s.gens.size 0,.str "hashes"<|s.toks+1,.str "QuotientFilter.hashes"<|s.toks+1+1]}) (mo:=.obj _) (F.keeps d) R2 ⟨rfl,rfl⟩) (xA2 fun F3 R3=>O<|have l:v.objs.size≠s.heap.objs.size:=rE P<|Nat.succ_ne_self _;have f:G v.objs.size=none:=(St.AG G _ l).symm.trans R2.fresh;?_)⟩) rfl;have I:∀ b,G b≠none->((G.set s.heap.objs.size<|.obj K).set v.objs.size<|.obj {cls:=.type "generator",data:=.fields #[.int s.gens.size 0,.str "hashes"<|s.toks+1,.str "QuotientFilter.hashes"<|s.toks+1+1]}) b=G b:=fun b j=>by
  exact rE (St.AG _ _ fun z=>j<|by rw[z];exact f)<|rE (St.AG _ _ fun z=>j<|by rw[z];exact p) rfl
 have E:=(Own.qf hD).dom;refine q v.objs.size s.gens.size s.heap.objs.size _ (s.heap.objs.size::D.foot) _ ⟨_,_,J0 s.heap.objs.size D.x S,St.AH ..,⟨rfl,⟨_,_,rfl⟩,rfl⟩,Array.getElem?_push_size ..,XB k Ln hN he hu,?_,?_⟩ (bL.mpr ⟨(fun z=>E _ z p),w⟩) J f I (fun b j=>?_) (rE (St.AH ..)<|L0 _) (To _) ?_ F3 R3
 .exact⟨K,_,(some (.ref D.x)::List.replicate 8 none),HL D.foot 0 8,(St.AG _ _<|cZ l).trans<|St.AH ..,fun h e=>⟨K,es,ep,e,o2⟩,LR.start (names:=["self"]) (rest:=["queue","start","cur_quot","i","idx","is_occupied","is_continuation","is_shifted"]) (vals:=[.ref D.x]) (args:=[.ref D.x]) (by decide) rfl<|.cons (.ref _) .nil,⟨(Loc.start (Own.qf hD) [] [] 8).mono fun b j=>I b<|E b<|by rw[DW]at j;exact j,rE (DW ..) w⟩,rfl,rE (DW ..) rfl⟩
 .exact fun hm=>T1 (bM.mp hm) (fun h=>l h) fun h=>(fun z=>E _ z f) h
 .exact mC j (.inr p) fun j=>.inl j
 .exact⟨rfl,rfl,fun j=>AllBare.push j rfl,fun i g e=>(rE Array.getElem?_push (iN (Nat.ne_of_lt<|(dF.mp e).1) e):(s.gens.push _)[i]?=some g)⟩
theorem Fk.cons {F G e d}(h:Fk F G e d) (a:Addr):Fk (a::F) G (a::e) d:=⟨fun b g f=>h.keep b g fun z=>f<|.tail _ z,fun b c=>mC c (.inl<|.head _) fun c=>(h.sub b c).imp (.tail _) id⟩
theorem Fk.set {F G}(d:a∈F) (o:MO):Fk F G F (G.set a o):=⟨fun b _ e=>St.AG _ _ fun z=>e<|z▸d,fun b c=>.inl c⟩
theorem Fk.m {F G d c}(h:Fk F G d c):Fm F G d c:=⟨h.keep,h.sub,fun a b e=>rE (h.keep a b e) b⟩
theorem GenAt.frame (h:GenAt Z f d k x S j s G a) (e:∀ b∈f::a,G' b=G b) (n:∀(i:Nat) (g:GenState),i=d->s.gens[i]?=some g->s'.gens[i]?=some g) :
  GenAt Z f d k x S j s' G' a:=by
 refine bc fun m=>xE3 h.ex fun l v J=>xA6 fun u t r c q p=>m ⟨l,v,J,(e _<|.head _).trans u,t,n _ _ rfl r,c,?_,p⟩;rw[JZ]at c;exact c.fr G a G' q fun b o=>e b<|.tail _ o
theorem SmG.trans (x:SmG d a b) (y:SmG d b c):SmG d a c:=
 ⟨y.os.trans x.os,y.drawn.trans x.drawn,fun h=>y.gens<|x.gens h,fun i g e h=>y.De i g e<|x.De i g e h⟩
theorem Sm.g (h:Sm s a) (b:Nat):SmG b s a:=⟨h.os,h.drawn,h.gens,fun i g _ e=>h.De i g e⟩
noncomputable def AX (l:List Nat):List MV:=l.map fun(y:Nat)=>MV.int (y:Int)
theorem UT (cx:Cx Z 17 A.in1 j L Y) (hL:L<L') :
  ∀(I:List Nat) (d:List MV) (s:Shared) (G:St) (E:List Addr),d.length+I.length<=1000->Fr j L s.heap m->SR j L s.heap G->GenAt Z N gi L' x S I s G E->E.Nodup->G l=some (.list d)->l∉E->l≠N->
  (∀ D r t,D.x=x->Bz r D S->r l=some (.list<|d++AX I)->Fk (l::E) G (l::D.foot) r->(l::D.foot).Nodup->SmG gi s t->Fr j L t.heap m->SR j L t.heap r->H (.ok<|.ret J) t)->
  codeAny Z.md A (.builtin "list.extend.loop" ⟨[.ref l,.ref N,J],[]⟩) H s:=by
 intro I;induction I with
 |nil=>
  refine fun d s G E k F R W U n o u q=>codeAny_builtin PySem.F.entry_extend_loop<|rE (Around.under_plainId PySem.F.plain_extend_loop _) (U2 (Jb cx F R hL W U (fun y ys e=>xnc e) fun _ D r t d1 d2 B w C F' H=>have Q:r l=G l:=B.keep _ (rE n<|L0 _) o;?_):wpAny _ A.in1 (pyNext (.ref N) >>= _) _ _ s);have P:l∉D.foot:=fun z=>(B.sub _ z).elim o fun z=>by rw[n]at z;exact xsn z
  exact bZ<|q D r t d1 d2 (by refine rE Q<|rE n ?_;simp[AX]) (B.cons _) (bL.mpr ⟨P,w⟩) C F' H
 |cons y ys ih=>
  intro d s G E k F R W U n o u q;rw[cJ]at k;refine codeAny_builtin PySem.F.entry_extend_loop<|rE (Around.under_plainId PySem.F.plain_extend_loop _) (U2 (Jb cx F R hL W U (fun y' aa e v G1 O s1 hv V B T C F1 R1=>?_) fun e=>xcn e):wpAny _ A.in1 (pyNext (.ref N) >>= _) _ _ s);cases e;have Q:G1 l=some (.list d):=(B.keep _ (rE n<|L0 _) o).trans n;have P:l∉O:=fun z=>(B.sub _ z).elim o fun z=>by rw[n]at z;exact xsn z
  refine bc fun ng=>xE2 (R1.D8 Q) fun vs c=>xA2 fun hS K=>ng<|have M:=K.length;(U2 ?_:wpAny _ A.in1 (updateSeq l (·.push v) >>= _) _ _ _);refine xP (R1.EX (f:=fun a=>a.push v) (vs':=vs++[v]) (ys:=d++[.int y]) F1 Q hS (by simp)<|K.append<|.cons hv .nil)<|xA2 fun F2 R2=>?_;refine wpAny_updateSeq hS rfl (bZ ⟨plainId_quiet PySem.F.plain_extend_loop _,ih (d++[.int y]) _ (G1.set l<|.list<|d++[.int y]) O (by simp;exact (la2 0x18220203e8a244200800fa2881201201) k) F2 R2 (V.frame (fun b hb=>St.AG _ _ fun z=>?_) fun i g _ e=>e) T (St.AH ..) P u fun D r t d1 d2 w X d4 p F' H=>?_⟩)
   (by refine rE b8<|rE M<|rE cN ?_;exact (la2 0x18220203e8a2442008000040000030001) k) (by exact(rE (Array.size_push ..) (rE b8<|rE M<|rE cN<|(la2 0x18220203e8a244200804800080000064240201) k):((List.toArray vs).push v).size<=sizeLine+1))
  .exact T1 (bM.mp hb) (fun h=>u<|z.symm.trans h) fun h=>P<|z▸h
  .refine q D r t d1 d2 (by refine rE w ?_;simp[AX]) (((B.cons l).trans<|Fk.set (.head _) _).trans X) d4 ?_ F' H;exact⟨p.os.trans C.os,p.drawn.trans C.drawn,fun h=>p.gens<|C.gens h,fun i g hi h=>p.De i g hi<|C.De i g hi h⟩
theorem GenAt.dom (h:GenAt Z e j k x S f s G c):∀ b∈e::c,G b≠none:=by
 refine xE3 h.ex fun l m J=>xA6 fun i _ _ d g _=>?_;rw[JZ]at d;exact fun b a=>mC a (rE i<|L0 _) fun a=>d.dm G c g b a
theorem GenAt.Vk (h:GenAt Z d c q x S e f G p) (R:SR a L b G):b.IsGen d c:=by
 refine bc fun j=>?_;obtain⟨r,s,J,n,⟨m,⟨i,g,l⟩,k⟩,_⟩:=h.ex;exact xP (R.Cv n)<|xA3 fun o _ _=>j ⟨_,i,g,o,m,l,k⟩
theorem sz0:(0:Nat)<=sizeLine:=cO _
theorem sz1:(1:Nat)<=sizeLine:=rE cN<|la [] [] 0x20840800040000030900<|by kernel_rfl
theorem Rl {W:List Nat}
  (cx:Cx Z 19 A d L aa) (hL:L<L') (U:W.length<=1000) (Fh:Fr d L s.heap m) (R:SR d L s.heap G) (Y:GenAt Z t gi L' x S W s G V) (nd:V.Nodup)
  (q:∀ l D K B,D.x=x->Bz K D S->G l=none->K l=some (.list<|AX W)->Fk V G (l::D.foot) K->(l::D.foot).Nodup->SmG gi s B->Fr d L B.heap m->SR d L B.heap K->Q (.ref l) B) :
  wpAny Z.md A (call (.type "list") [.ref t]) Q E s:=by
 have k:=R.fresh;generalize H:s.heap.objs.size=a at k;refine have M:=Y.dom;have n:∀ b,G b≠none->b≠a:=fun b c z=>c<|z▸k;have v:a≠t:=fun z=>M _ (.head _)<|z▸k;xP (R.push (ob:={cls:=.type "list",data:=.seq #[]}) (mo:=.list []) Fh ⟨[],0,rfl,.nil⟩)<|xA2 fun F1 R1=>?_;have p:IsL (s.heap.push {cls:=.type "list",data:=.seq #[]}) a (List.toArray ([]:List Value)) 0:=rS H<|Heap.get?_push_size _ rfl;rw[H]at R1;refine bc fun ng=>xP (R1.EX (f:=fun _=>#[]) (vs':=[]) (ys:=[]) F1 (St.AH ..) p rfl .nil) (xA2 fun F2 R2=>have J:=IsL.update p fun _=>#[];xP (R2.EX (f:=(·.push Value.none)) (vs':=[Value.none]) (ys:=[MV.none]) F2 (St.AH ..) J rfl<|.cons .none .nil) (xA2 fun F3 R3=>have I:=IsL.update J (·.push Value.none);xP (R3.EX (vs:=[Value.none]) (f:=(·.pop)) (vs':=[]) (ys:=[]) F3 (St.AH ..) I rfl .nil) (xA2 fun F4 R4=>ng<|have ae:=IsL.update I (·.pop);have O:∀{o:MO} b,b∈t::V->(G.set a o) b=G b:=fun b c=>St.AG _ _<|n b<|M b c;have g1:=Y.frame (s':={s with heap:=s.heap.push {cls:=.type "list",data:=.seq #[]}}) (fun b c=>O (o:=.list []) b c) fun i g _ e=>e;?_)));have j:∀ b,b≠a->((((G.set a<|.list []).set a<|.list []).set a<|.list [MV.none]).set a<|.list []) b=G b:=fun b c=>by
  exact rE (St.AG _ _ c)<|rE (St.AG _ _ c)<|rE (St.AG _ _ c)<|rE (St.AG _ _ c) rfl
 refine callType_codes (Q₁:=fun P u=>P=.ref a/\u = {s with heap:=s.heap.push {cls:=.type "list",data:=.seq #[]}}) PySem.F.called_list (PySem.F.typeCall_list_1 _) PySem.F.entry_list_init
  (code_list_new _ ⟨rE H rfl,rfl⟩) fun P u T=>?_
 refine xP T<|xA2 fun z0=>rE z0 fun z1=>rE z1 ⟨⟨_,p,rfl⟩,PySem.F.args_list_init_2 _ _,(U2 ?_:wpAny _ A.in1.in1 (do let old <- Builtin.List.listItems (.ref a);Builtin.List.listUpdate (.ref a) fun _=>#[];letGo old.toList.reverse;Builtin.List.listExtendWith (.ref a) (.ref t) .none) _ _ _)⟩;unfold Builtin.List.listItems;refine U2<|wpAny_seqItems p rfl<|bZ ?_;show wpAny _ A.in1.in1 (updateSeq a (fun _=>#[]) >>= fun _=>letGo ([]:List Value) >>= fun _=>Builtin.List.listExtendWith (.ref a) (.ref t) .none) _ _ _;refine U2<|wpAny_updateSeq (hz:=sz0) (_hz':=Nat.le_succ_of_le sz0) p rfl<|U2<|wpAny_letGo ?_;unfold Builtin.List.listExtendWith;refine have r:=(Y.frame (G':=(G.set a<|.list []).set a<|.list []) (fun b c=>rE (St.AG _ _<|n b<|M b c)<|rE (St.AG _ _<|n b<|M b c) rfl) fun i g _ e=>e).Vk R2;U2<|wpAny_typeOf r.typeIs ?_;have h1:Builtin.List.listSameRef (.ref a) (.ref t)=false:=by simp[Builtin.List.listSameRef,v]
 have h2:(Value.type "generator" == Value.type "list")=false:=by decide
 have h3:(Value.type "generator" == Value.type "tuple")=false:=by decide
 simp only[h1,h2,h3,Bool.or_false,dD,if_false];refine U2<|wpAny_pyIter_gen r<|U2<|cz ?_;unfold Builtin.List.listLengthHint;refine U2<|wpAny_specialOf r.typeIs PySem.F.gen_no_len ?_;show wpAny _ A.in1.in1 (specialOf (Value.ref t) (Str.ofString "__length_hint__") >>= _) _ _ _;refine U2<|wpAny_specialOf r.typeIs PySem.F.gen_no_hint<|bZ (U2 (wpAny_rule<|U2 ?_):wpAny _ A.in1.in1 (rule "list.extend.makes-room" >>= fun _=>Builtin.List.listTouch (.ref a) >>= fun _=>again<|.builtin "list.extend.loop" ⟨[.ref a,.ref t,.none],[]⟩) _ _ _);show wpAny _ A.in1.in1 (updateSeq a (·.push .none) >>= fun _=>updateSeq a (·.pop)) _ _ _;refine U2<|wpAny_updateSeq (hz:=sz0) (_hz':=Nat.le_succ_of_le sz1) J rfl<|wpAny_updateSeq (hz:=sz1) (_hz':=Nat.le_succ_of_le sz0) I rfl<|bZ ⟨plainId_quiet PySem.F.plain_extend_loop _,UT ((cx.in1 (n':=18)<|la [] [] 0x821020013a24004aa00<|by kernel_rfl).in1<|la [] [] 0x821020012a240046a00<|by kernel_rfl) hL W [] _ _ V (by simpa using U) F4 R4 (Y.frame (fun b c=>j b<|n b<|M b c) fun i g _ e=>e) nd (St.AH ..) (fun z=>M _ (.tail _ z) k) v fun D K B d1 d2 d3 fk d4 X F' R'=>⟨rfl,q a D K B d1 d2 k (by simpa using d3) ⟨fun b k1 k2=>?_,fun b c=>?_⟩ d4 ⟨X.os,X.drawn,X.gens,X.De⟩ F' R'⟩⟩
 .have c:=n b k1;exact rE (fk.keep b (by rw[j b c];exact k1) fun z=>(bM.mp z).elim c k2)<|rE (j b c) rfl
 .by_cases C:b=a
  .exact .inr<|C▸k
  .refine T1 (fk.sub b c) (fun h=>.inl<|(bM.mp h).resolve_left C) fun h=>?_
   .rw [j b C]at h;exact .inr h
theorem Sm.gsz (h:Sm s a):s.gens.size<=a.gens.size:=by
 refine T1 (U1 a.gens.size s.gens.size) (fun b=>?_) fun c=>c
 .have:=h.De a.gens.size _<|Array.getElem?_eq_getElem b;rw[Array.getElem?_eq_none<|To _]at this;exact xns this
structure Rm (S:QS) (l:List Nat):Prop where
 ex:∃ a B s,Lin S a B s/\S.n<=900/\S.empty (a%S.n)=true/\(∀ u,u<a%S.n->S.empty u=false)/\l=codes S.n S.r a B S.n/\l.length<=900
open Classical in
noncomputable def hsh (S:QS):Option (List Nat):=if h:∃ l,Rm S l then some (choose h)else none
theorem Mr (h:hsh S=some l):Rm S l:=by
 unfold hsh at h;split at h
 .rename_i a;exact soE h<|Classical.choose_spec a
 .exact xns h
theorem CS.hsh (H:CS S b):∃ l,QF.hsh S=some l/\l.Perm b:=by
 have p:=H.Pw;have m:∃ l,Rm S l:=by
  refine xE3 H.has.first fun a B s=>xA4 fun L q w u=>⟨_,a,B,s,L,(la1 0x1822020200a0000e128001) p,w,u,rfl,have:=L.count S.r S.n<|To _;?_⟩;rw[L.top]at this;exact (la4 0x6824023000824208220200a2000e128002) p this
 have e:QF.hsh S=some (Classical.choose m):=by
  unfold QF.hsh;exact dif_pos m
 refine⟨_,e,bc fun t=>?_⟩;obtain⟨a,B,s,L,_,_,_,v,_⟩:=Classical.choose_spec m;refine t<|rE v<|(fun L q=>L.JV (dj H.q9) H.nd H.lt q) L fun i r y x=>have c:S.n+1<S.n+2:=dB _;?_;rcases L.Nn (r:=r) y x c with⟨k,g,f⟩|⟨g,f⟩<;>rcases H.has.cal (r:=r) (bR i S.CR) c with⟨o,j,_,d⟩|⟨o,d⟩
 .exact ⟨fun _=>o,fun _=>ck g⟩
 .rw [f]at d;have:=cw d;exact False.elim<|(la1 0x411010910005c1) this
 .rw [f]at d;have:=cw d;exact False.elim<|(la1 0x811010002445c1) this
 .exact ⟨fun h=>(g h).elim,fun h=>(o h).elim⟩
theorem Kl (k:KF Z)(i:Nat) (hi:c.vs[i]?=some x) (hk:iK c) (hx:iL c x) (hd:jD x) (hp:(g.endLine==h.line)=true) (hn:1<=c.n)
   {f:Heap} {L:Addr}   {Y:LS} {G:St}  {E:Value->Shared->Prop} {fs:FS} {pl:PL} {S:QS} {l:List Nat}
  (N:Cx Z c.n A f L<|c.env L) (F:Fr f L s.heap m) (lr:LR c.vs Y m) (R:SR f L s.heap G) (lo:LN G fs pl Y) (e:AL pl i=some (.qf S)) (hs:hsh S=some l)
  (q:∀ t M O (D:QD) u K p,B0 fs i=D.foot->(Y[i]?).join=some (.ref D.x)->GenAt Z t M O D.x S l p u K->K.Nodup->L<O->G t=none->(∀ b,G b≠none->u b=G b)->(∀ b∈K,b∈D.foot\/G b=none)->u t≠none->s.gens.size<=M->Sm s p->Fr f L p.heap m->SR f L p.heap u->Q (.ref t) p) :
  wpAny Z.md A (eval (.Call (.Attribute (.Name x xp) "hashes" g) [] [] h)<|c.env L) Q E s:=by
 refine bc fun j=>xE1 (Cm (o:=.Name x xp) (args:=[]) (apos:=g) (pos:=h) rfl DU hp "hashes"<|c.env L) fun W=>fun he=>gH (lo.lo.qf e) fun D d1 d2 d3=>j<|MethodCall_ ((AQ i hi hk hx hd) (P:=fun v G1=>v=.ref D.x/\G1=G) N F lr R (by unfold B3;exact rE d2 ⟨rfl,rfl⟩) fun v mv G1 s1 hv hP H F1 R1=>bc fun j=>xP hP<|xA2 fun y=>?_) he;revert hv;refine rE y fun hv=>fun T=>?_;subst T;have z:=VR.irf hv;revert j;refine rE z fun j=>xE3 (St.B4<|d3.free (name:="hashes") rfl trivial) fun d kk fl=>xA3 fun e1 e2 r=>xE2 (R1.inst e1 e2) fun es nn=>xA3 fun I hz hf=>gG (hf "hashes") fun ov hg ho=>j ?_;rw[r.1]at ho;cases ho;have hM:=k.Tj;unfold Ak at hM;simp only[bV]at hM;refine bc fun j=>xP hM<|xA2 fun y=>?_;revert y;refine xA2 fun T=>?_;revert T;refine xA2 fun a1 a2=>fun a3=>fun a4=>j<|method_inst F1 N.X I a1 (cD.mp a2) a3 hg<|callWith_K0 (N.X.keeps F1.keep) a4<|wpAny_call<|bc fun j=>xE3 ((Mr hs).ex) fun a B sB=>xA6 fun Ln hN J hu y=>?_;revert q;exact rE y fun q=>fun _=>j<|Rk (C:=fun _ _=>True) (n:=c.n-1) k (rE (Nat.sub_add_cancel hn) N) F1 R1 d3 (d1▸Ay lo.nd i) Ln hN J hu fun t M O u K p q1 q2 q3 q4 q5 q6 q7 q8 q9 V U=>q t M O D u K p d1 d2 q1 q2 q3 q4 q5 q6 q7 (bW H.gsz q8) (H.trans q9) V U
theorem SmG.to (h:Sm s b) (j:s.gens.size<=f) (a:SmG f b d):Sm s d:=
 ⟨a.os.trans h.os,a.drawn.trans h.drawn,fun x=>a.gens<|h.gens x,fun i g e=>a.De i g (fun z=>by
  have:=(dF.mp e).1;exact (la3 0x1a090080101104084000c3) j z this)<|h.De i g e⟩
def XD (i:Nat):Nat->PL->Option (AV×PL):=fun _ a=>match AL a i with
 |some (.qf S)=>(match hsh S with|some l=>some (.lst<|AX l,AY a i<|.qf S)|none=>none)
 |_=>none
theorem Rn (k:KF Z)(i:Nat) (hl:Ev Z c (.Name "list" O)<|Br<|.ty "list") (hi:c.vs[i]?=some x) (hk:iK c) (hx:iL c x) (hd:jD x) (hp:(d.endLine==a.line)=true) (U:19<=c.n) :
  Eo Z c (.Call (.Name "list" O) [.Call (.Attribute (.Name x u) "hashes" d) [] [] a] [] C) (XD i):=by
 refine fun A T L s m ls G P Q E M F N R K q=>bc fun H=>?_;obtain⟨n,fs,pl,r,aa,t,e,h⟩:=K;refine H ?_;unfold XD at e;refine mv39 e ?_
 .clear e;refine fun S W e=>mv55 e ?_
  .clear e;refine fun l V e=>xA2 ?_<|so2 e;clear e;intro z;subst z;intro z;subst z;refine Call_Name rfl<|hl (P:=fun v X=>v=.ty "list"/\X=G) M F N R ⟨rfl,rfl⟩ fun v mv G1 s1 J w j Y R1=>xP w<|xA2 fun z0=>?_;revert J;refine rE z0 fun J=>fun z1=>?_;revert t h;exact rS z1 fun t h=>have z:=VR.ity J;rE z<|have o:∀ g,starEach [Expr.Call (.Attribute (.Name x u) "hashes" d) [] [] a] g=(false,eval (.Call (.Attribute (.Name x u) "hashes" d) [] [] a) g)::starEach [] g:=fun g=>Ck rfl [] g;PyProof.Rows.callWith_type (DG (DF DU o) _ _)<|rE (o ..)<|evalArgs_plain<|Calls.spliced_cons<|Kl k i hi hk hx hd hp ((la1 0x1822020000274000901) U) M Y N R1 t W V fun ga gi L' D G2 fg s2 d1 d2 g1 g2 g3 g4 g5 g6 g7 g8 B F2 R2=>Calls.spliced_nil<|bc fun H=>xE3 ((Mr V).ex) fun _ _ _=>xA6 fun _ _ _ _ _ p=>H<|Rl (M.less U) g3 (dK p) F2 R2 g1 g2 fun I D' X s' k1 k2 k3 k4 k5 k6 y F3 R3=>xP (t.turn (f:=[I]) (f':=D'.foot) (a':=.qf S) W (d2.trans<|rS k1 rfl) (.qf k2) k6<|rE d1 (Fk.trans (F1:=fg) (G1:=G2) ⟨fun b h1 _=>g5 b h1,g6⟩ k5).m)<|xA3 fun w t2 t3=>q _ _ _ _ (.ref I) (h _ _ [I] _ w (.lst k4) t2 t3) (SmG.to (j.trans B) (bW j.gsz g8) y) F3 R3
theorem Cc {J:LS}
  (N:keepIn Z.K (.ref f)=true) (o:Ea Z c U V) (u:Cx Z c.n A a L<|c.env L) (F:Fr a L s.heap m) (M:LR c.vs J m) (R:SR a L s.heap G) (t:V J G P)
  (q:∀ e i j g,VRs e i->P i j->Sm s g->Fr a L g.heap m->SR a L g.heap j->wpAny Z.md A (call (.ref f)<|first++e) Q E g) :
  wpAny Z.md A (callWith d (.ref f) first (backTo d<|starEach U<|c.env L) []) Q E s:=by
 rcases (o.2<|c.env L).2 with rfl |⟨x,r,rfl,C⟩
 ·exact callWith_K0 (u.X.keeps F.keep) N<|have:=o.1 (d:=d) (Q:=fun e W=>wpAny Z.md A (call (.ref f)<|first++e) Q E W) (E:=E) u F M R t fun e i j g D B h z H=>q e i j g D B h z H;fun I p k=>this I p k I p k
 ·refine callWith_K u.X N (o.1 u F M R t fun e i j g D B h z H=>⟨u.X.keeps z.keep,q e i j g D B h z H⟩) C ?_
  ·have O:=DG o.2 d<|c.env L;rw [C] at O;simp only [backTo,List.map_cons,cP,List.any_map] at O ⊢;have T:=o.2<|c.env L;rw [C] at T;have S:=T.1;rw [cP,cm] at S;have v:=S.2;generalize starEach r (c.env L)=l at v;induction l with
   |nil=>rfl
   |cons y l=>
    obtain ⟨b,t⟩:=y;simp only [cP,cm] at v;simp only [backTo,List.map_cons,cP,v.1,Bool.false_or,List.any_map];simpa using v.2
theorem Cx.under (x:Cx Z n A a L d) (h:g+1<=n):Cx Z g (A.under<|.builtin "type.__call__" ⟨.ref C::vs,[]⟩) a L d:=bc fun i=>xE3 x.bel fun f e b=>xA2 fun B j=>i ⟨x.hh,o12 h x.dep,Zc h x.un,x.X,x.T,⟨f,e,b,B,j⟩,x.fr,x.kf,x.tp⟩
noncomputable def XE (C:Addr) (f:AT) (S:List MV->St->(MV->St->Prop)->Prop):VT:=fun b G P=>f b G fun e a=>∀ x d,a x=none->a d=none->x≠d->S (.ref x::e) ((a.set d<|.dict 0 fun _=>none).set x<|.inst C d) fun v g=>v=.none/\P (.ref x) g
noncomputable def Km (K:Frag) (C a:Addr):Bool:=makesIn K C&&(findIn K (.ref C) "__init__" == some (some<|.ref a))&&isFn K (.ref a)&&keepIn K (.ref C)
theorem Jc (hx:Ev Z c (.Name x xp)<|Br<|.ref C)(Y:Km Z.K C fI=true)(h2:Ea Z c b Ts)(hS:Sp Z n fI S)(hn:autoParam (n+1<=c.n) dc) :
  Ev Z c (.Call (.Name x xp) b [] H) (XE C Ts S):=by
 refine fun A k L s m ls G P Q E u F lr R t q=>Call_Name rfl<|hx (P:=fun v G'=>v=.ref C/\G'=G) u F lr R ⟨rfl,rfl⟩ fun v mv G1 s1 f t1 D F1 R1=>bc fun d=>xP t1<|xA2 fun j=>?_;revert f;refine rE j fun f=>fun w=>?_;revert t;refine rS w fun t=>have z:=VR.irf f;?_;revert d;refine rE z fun d=>d ?_;unfold Km at Y;simp only[bV]at Y;refine bc fun d=>xP Y<|xA2 fun j=>?_;revert j;refine xA2 fun w=>?_;revert w;refine xA2 fun h5 h3=>fun h4=>fun h6=>d<|Cc (first:=[]) h6 h2 u F1 lr R1 t fun vs ms p s2 M t2 B F2 R2=>bc fun d=>gG (id R2) fun aa N r=>d<|call_cls F2 u.X N h5 (cD.mp h3) h4 fun i g h' F' N' hl l=>?_;have J:p i=none:=by
  refine oE (p i) (fun e=>?_) fun o e=>?_
  .rfl
  .exact gG (r i o e) fun I T _=>have:=hl _ T;absurd (Nat.lt_trans this l)<|cY _
 have U:p g=none:=by
  refine oE (p g) (fun e=>?_) fun o e=>gG (r g o e) fun I T _=>absurd (hl _ T)<|cY _
  .rfl
 have R':SR k L h' ((p.set g<|.dict 0 fun _=>none).set i<|.inst C g):=by
  refine⟨_,N',fun a o e=>?_⟩;by_cases W:a=i
  .rw [W,St.AH]at e;(refine soE e ?_;clear e);exact rE W ⟨_,.head _,rfl⟩
  .rw [St.AG _ _ W]at e;by_cases V:a=g
   .rw [V,St.AH]at e;(refine soE e ?_;clear e);exact rE V ⟨_,.tail _<|.head _,⟨[],0,rfl,To _,fun x=>⟨none,rfl,.none⟩⟩⟩
   .rw [St.AG _ _ V]at e;exact gG (r a o e) fun I h1 h2=>⟨I,.tail _<|.tail _ h1,h2⟩
 refine hS (u.under hn) F' R' (.cons (.ref _) M) (t2 i g J U<|Nat.ne_of_gt l) fun v mv G3 s3 f O y F3 R3=>xP O<|xA2 fun j=>?_;revert f;exact rE j fun f=>fun O=>have z:=VR.ino f;rE z ⟨rfl,q _ _ G3 s3 (.ref _) O (((D.trans B).trans<|Sm.h _ _).trans y) F3 R3⟩
theorem E2 :Ev Z c (.Constant (.str t) k a) (Br<|.str t):=fun A b L s m d G P Q E f F e R t q=>wpAny_Constant_str<|q _ _ G _ (.str _ _) t (Sm.t s _) F R
noncomputable def XF:List MV->St->(MV->St->Prop)->Prop:=fun a G P=>∃ i,a=[.int i,.ty "int"]/\P (.bool true) G
theorem Ro:Bi Z 0 (.builtin "isinstance") XF:=by
 intro A d L l s m G P Q E b g n F R a ⟨i,e,t⟩ q;revert a;refine rE e fun a=>VRs.kco a fun _ _ z j f=>?_;clear a;subst z;refine VRs.kco f fun _ _ z h k=>?_;clear f;subst z;exact have z:=VRs.inl k;rE z<|VR.kin j fun _ z=>rE z<|have z:=VR.ity h;rE z<|PySem.IsiPair.int_int<|q _ _ G _ (.bool _) t (Sm.refl _) F R
theorem foldl_rep (w:Value):∀(n:Nat) (a:Array Value),List.foldl (fun d b=>d++b) a (List.replicate n #[w])=a++(List.replicate n w).toArray:=by
 intro n;induction n with
 |zero=>intro a;simp
 |succ n e=>
  refine fun a=>rE List.replicate_succ<|rE List.foldl_cons<|rE (e ..)<|rE List.replicate_succ ?_;apply Array.ext';simp
noncomputable def Vl (g f:VT):VT:=fun e G P=>g e G fun a h=>match a with
 |.ref l=>f e h fun b d=>(match b,d l with
  |.int n,some (.list [v])=>(0<=n/\n<=1000)/\∀ r,d r=none->P (.ref r) (d.set r<|.list<|List.replicate n.toNat v)
  |_,_=>False)
 |_=>False
theorem VRs.rep (h:VR v m):∀ n,VRs (List.replicate n v)<|List.replicate n m
 |0=>.nil
 |n+1=>.cons h<|VRs.rep h n
theorem mv70 {j:Int->MV->Prop}{g:Prop}(e:match i,h with|MV.int b,some (MO.list [a])=>j b a|_,_=>False) (p:∀ b a,i=MV.int b->h=some (MO.list [a])->j b a->g):g:=by
 generalize l:i=f at e;generalize k:h=d at e;revert e l k;exact MV.casesOn f (fun _ _=>False.elim) (fun _ _ _=>False.elim) (fun r=>Option.casesOn d (fun _ _=>False.elim) fun o=>MO.casesOn o (fun n=>List.casesOn n (fun _ _=>False.elim) fun q m=>List.casesOn m (p _ _) fun _ _ _ _=>False.elim) (fun _ _ _ _=>False.elim) (fun _ _ _ _=>False.elim) (fun _ _ _=>False.elim) (fun _ _ _=>False.elim) fun _ _ _=>False.elim) (fun _ _ _=>False.elim) (fun _ _ _=>False.elim) (fun _ _ _=>False.elim) fun _ _ _=>False.elim
theorem Oz (h1:Ev Z c l V) (h2:Ev Z c r U):Ev Z c (.BinOp l .Mult r y) (Vl V U):=by
 refine fun A S L s m ls G P Q E T F O R t q=>wpAny_BinOp<|h1 T F O R t fun v mv G1 s1 C p x F1 R1=>mv6 p ?_
 .refine fun _=>fun z=>?_;revert C;refine rE z fun C=>fun p=>have z:=VR.irf C;rE z<|h2 T F1 O R1 p fun v2 ab G2 s2 b j u F2 J=>mv70 j ?_
  .refine fun n w=>fun z=>?_;revert b;refine rE z fun b=>fun e=>fun j=>bc fun d=>VR.kin b fun _ z=>?_;revert d;refine rE z fun d=>?_;obtain⟨⟨n0,M⟩,hP⟩:=j;obtain⟨vs,k,D,B⟩:=J.D8 e;refine d ?_;cases B with
   | @cons i _ aa _ hw f=>
    refine bc fun d=>have z:=VRs.inl f;?_;revert D;refine rE z fun D=>have H:=J.fresh;?_;obtain⟨K,N,r⟩:=J;refine d<|PyProof.Rows.mul_list F2 N D (h63 n0) (i63 M) (by show 1*n.toNat<=_;rw[Nat.one_mul];exact Int.toNat_le.mpr<|Int.le_trans M<|by decide) fun h' F3 W=>?_;have e2:List.foldl (fun Y X=>Y++X) #[] (List.replicate (if(List.toArray [i]).isEmpty=true then 0 else n.toNat)<|List.toArray [i])=(List.replicate n.toNat i).toArray:=by
     have:=foldl_rep i n.toNat #[];simpa using this
    rw[e2]at W;refine q _ _ _ _ (.ref _) (hP _ H) ((x.trans u).trans<|Sm.h _ _) F3 ⟨_,W,fun a o g=>?_⟩;by_cases I:a=s2.heap.objs.size
    .rw [I,St.AH]at g;(refine soE g ?_;clear g);exact rE I ⟨_,.head _,_,0,rfl,VRs.rep hw _⟩
    .rw [St.AG _ _ I]at g;obtain⟨ob,g1,g2⟩:=r a o g;exact⟨ob,.tail _ g1,g2⟩
def II (l:List<|Str×MV) (a:Str) (v:MV):List (Str×MV):=if(l.any fun p=>p.1==a)=true then Pn l a v else l++[(a,v)]
theorem Rp (l:List<|Str×MV) (a:Str) (v:MV) (y:Str):(l.any fun p=>p.1==a)=false->look (l++[(a,v)]) y=if y=a then some v else look l y:=by
 induction l with
 |nil=>
  intro _;refine(rE (DJ ..) ?_:look ((a,v)::[]) y=_);by_cases h:y=a
  .exact iP h<|iP (by simpa using h) rfl
  .exact iN h<|iN (by simpa using h) rfl
 |cons p r d=>
  intro h;rw[cP,cm]at h;refine rE List.cons_append<|rE (DJ ..)<|rE (d h.2)<|rE (DJ ..) ?_;by_cases b:y=a
  .revert h;refine rS b fun h=>iP rfl<|iP rfl ?_;have:(y==p.1)=false:=by
    rw[b4];intro e;rw[<- e]at h;simp at h
   exact iN (by rw[this];exact Bool.false_ne_true) rfl
  .exact iN b<|iN b rfl
theorem G9 (l:List<|Str×MV) (a:Str) (v:MV):upd (look l) a v=look (II l a v):=by
 unfold II;by_cases h:(l.any fun p=>p.1==a)=true
 .exact iP h<|rE (Mb l a v h) rfl
 .refine iN h ?_;funext y;exact rE (Rp l a v y<|Bool.eq_false_iff.mpr h) rfl
theorem Lj {V:MV->St->Prop}(i:(e[0]?).join=some (.ref x)) (m:∀ K:MV->St->Prop,(∀ v a,V v a->K v a)->T e G K)
  (n:∀ v a,V v a->a x=some (.inst C d)/\a d=some (.dict k<|look l)) (j:k<=900)
  (next:∀ v a f,V v a->f<=k+1->h e (a.set d<|.dict f<|look<|II l b v) P):Ik (C0 C b T<|B3 0) h e G P:=by
 unfold Ik C0;refine m _ fun v a g=>?_;unfold B3;refine rE i ?_;dsimp only;obtain⟨p,o⟩:=n v a g;exact Aq p o ⟨j,rE (G9 ..)<|next v a _ g<|MQ (Nat.le_succ _)<|To _⟩
structure KI (Z:PX):Prop where
 Rq:FnAt Z.K 93 "__init__" "Bitarray.__init__" (BP 8 0) .none
 XG:Km Z.K CB 93=true
 Jx:Cd Z.K CB "_size_bytes" = true
 Ms:Cd Z.K CB "_bitarray" = true
 UU:Cd Z.K CB "_size" = true
 Jy:BS Z.K CB "_size_bytes" = true
 Lk:nsIn Z.K mainGlobals "isinstance" = some none
 Yx:nsIn Z.K mainGlobals "int" = some none
 Nt:nsIn Z.K mainGlobals "Bitarray" = some (some<|.ref CB)
theorem Jz (k:KI Z)(d:iK c) (b:c.scope.names.lookup (Str.ofString "isinstance")=some .globalImplicit) (e:(("isinstance":Str)==("__debug__":Str))=false):Ev Z c (.Name "isinstance" a) (Br<|.bi "isinstance"):=
 DN k.Lk PyProof.Rows.boot_isinstance (.bi _) d b e
theorem XH (k:KI Z)(d:iK c) (b:c.scope.names.lookup (Str.ofString "int")=some .globalImplicit) (e:(("int":Str)==("__debug__":Str))=false):Ev Z c (.Name "int" a) (Br<|.ty "int"):=
 DN k.Yx PyProof.Rows.boot_int (.ty _) d b e
theorem Fn (k:KI Z)(d:iK c) (b:c.scope.names.lookup (Str.ofString "Bitarray")=some .globalImplicit) (e:(("Bitarray":Str)==("__debug__":Str))=false):Ev Z c (.Name "Bitarray" a) (Br<|.ref CB):=
 Be k.Nt d b e
noncomputable def nby (n:Nat):Nat:=(n+7)/8
theorem XI (n:Nat):-((-(n:Int)).fdiv 8)=((nby n:Nat):Int):=by
 unfold nby;refine rE (Int.fdiv_eq_ediv_of_nonneg _<|by decide) ?_;have h:=Nat.div_add_mod (n+7) 8;have d:=bR (n+7) (show 8>0 by decide);generalize (n+7)/8=q at *;generalize (n+7)%8=m at *;exact rE (((Int.ediv_emod_unique (a:=-(n:Int)) (b:=8) (r:=7-(m:Int)) (q:=-(q:Int))<|by decide).mpr ⟨(la3 0x1a843027241001010d1101040811400721a51) h,(la1 0xc11014100200390c0831) d,la1 0x10420504000e4340⟩).1)<|rE (Int.neg_neg ..) rfl
theorem UW {n:Nat}(e:n<=600) (m:G x=some (.inst CB d)) (j:G d=some (.dict k<|look [("_size_bytes",.int ((nby n:Nat):Int)),("_bitarray",.ref l),("_size",.int n)])) (f:k<=800) (h:G l=some (.list<|List.replicate (nby n)<|.int 0)) :
  EZ G x d l n fun _=>false:=by
 have c:n<=8*nby n/\nby n<=100:=by unfold nby;exact (la3 0x5c834476845090872011011604b140000325100202180072) e<|dmk (n+7) 8
 refine⟨List.replicate (nby n) 0,⟨m,⟨k,f,?_⟩,?_⟩,?_⟩
 .refine rE j ?_;unfold baF;exact rE List.length_replicate rfl
 .refine rE h ?_;unfold Dq;exact rE List.map_replicate rfl
 .refine ⟨rE List.length_replicate c.1,rE List.length_replicate c.2,fun b g=>rE (List.eq_of_mem_replicate g)<|la [] [] 0x20840804028110<|by kernel_rfl,fun i o=>?_⟩;have:(List.replicate (nby n) 0).getD (i/8) 0=0:=by
   refine rE cu<|rE List.getElem?_replicate ?_;split<;>rfl
  exact rE this<|rE (Nat.zero_testBit ..) rfl
theorem Ll (c:∀ K:Bool->St->Prop,K false G->T a G K) (h:b a G P):Ik (xIf T d YW) b a G P:=c _ h
inductive O0 (args:List MV) (G:St) (P:MV->St->Prop):Prop
 |mk (x d:Addr) (n:Nat) (ha:args=[.ref x,.int n]) (h1:G x=some (.inst CB d)) (h2:G d=some (.dict 0 fun _=>none)) (hxd:x≠d) (hn:0<n/\n<=600)
  (hp:∀ l G',G l=none->EZ G' x d l n (fun _=>false)->(∀ a,G a≠none->a≠d->G' a=G a)->P .none G')
theorem Jd (k:KF Z) (B:KI Z):Sp Z 1 93 O0:=by
 refine Sp.weaken (En (names:=["self","size"]) (rest:=[]) (n:=0) (na:=2) (dflt:=[]) (dm:=[]) B.Rq (Bj fun _ _ _ _ _ _ _ _=>.of_eq rfl) .nil<|Ae (EY (NN<|HK (FK (Jz B rfl rfl rfl) (AS (AQ 1)<|AS (XH B rfl rfl rfl) Az) Ro<|cO _) rfl) (Ae Dp BJ) BJ)
   (Ae (EY (DO (AQ 1) AE) (Ae Dp BJ) BJ)
   (Ae (A1 B.Jx (QT<|Ih (QT<|AQ 1) AE) (AQ 0) rfl)
   (Ae (A1 B.Ms (Oz (K6<|AS AE Az)<|BK B.Jy<|AQ 0) (AQ 0) rfl)
   (Ae (A1 B.UU (AQ 1) (AQ 0) rfl) BJ))))) ?_
 rintro ai G P ⟨x,d,n,X,E,h2,u,hn,hp⟩;refine rE X ⟨rfl,have w:decide ((n:Int)<=0)=false:=bK<|(la1 0x2823020258a0000011702000361) hn;Ll (fun K h=>⟨_,rfl,h⟩)<|Ll (fun K h=>⟨false,by refine rS w ?_;rfl,h⟩) ?_⟩;refine have hx:([some<|MV.ref x,some<|MV.int n]:LS)[0]?.join=some (.ref x):=rfl;Lj (d:=d) (k:=0) (l:=[]) (V:=fun v A=>v=.int ((nby n:Nat):Int)/\A=G) hx (fun K h=>?_) (fun v A p=>by obtain⟨_,W⟩:=p;revert E h2;refine rS W ?_;intro E h2;exact⟨E,h2⟩) (la [] [] 0x2084080e128100<|by kernel_rfl) fun v A k1 p C=>?_
 .exact⟨⟨by decide,by decide⟩,h _ _ ⟨(rE (XI ..) rfl:MV.int (-((-(n:Int)).fdiv 8))=_),rfl⟩⟩
 obtain⟨U,T⟩:=p;refine rE U ?_;revert E hp;refine rS T ?_;intro E hp;generalize z:A.set d (.dict k1<|look<|II [] "_size_bytes"<|.int ((nby n:Nat):Int))=q;have b:q x=some (.inst CB d):=rS z<|(St.AG _ _ u).trans E;have c:q d=some (.dict k1<|look [("_size_bytes",.int ((nby n:Nat):Int))]):=rS z<|St.AH ..;have ka:∀ a,A a≠none->q a≠none:=fun a L=>by
  refine rS z ?_;by_cases e:a=d
  .exact rE e<|rE (St.AH ..)<|L0 _
  .exact rE (St.AG _ _ e) L
 refine Lj (d:=d) (k:=k1) (l:=[("_size_bytes",.int ((nby n:Nat):Int))]) (V:=fun v G2=>∃ t l,v=.ref l/\q t=none/\(q.set t<|.list [.int 0]) l=none/\G2=(q.set t<|.list [.int 0]).set l (.list<|List.replicate (nby n)<|.int 0)) hx (fun K h=>?_) (fun v G2 p=>?_) ((la1 0x60880848140000e128001) C) fun v G2 k2 p J=>?_
 .refine ⟨by decide,fun t ht=>?_⟩;have f:x≠t:=fun e=>by rw[e,ht]at b;exact xns b
  have j:d≠t:=fun e=>by rw[e,ht]at c;exact xns c
  refine Aq ((St.AG _ _ f).trans b) ((St.AG _ _ j).trans c) ⟨(fun i e=>nomatch e),?_⟩;show(match MV.int ((nby n:Nat):Int),(q.set t<|.list [.int 0]) t with
   |.int n,some (.list [v])=>(0<=n/\n<=1000)/\∀ r,(q.set t<|.list [.int 0]) r=none->K (.ref r) ((q.set t<|.list [.int 0]).set r<|.list<|List.replicate n.toNat v)
   |_,_=>False)
  exact rE (St.AH ..) ⟨⟨dJ,by unfold nby;exact (la3 0x1ce0a813048439108800b0258a2004011703e8a00032) hn<|dmk (n+7) 8⟩,fun r hr=>h _ _ ⟨t,r,rfl,ht,hr,rfl⟩⟩
 .refine bc fun Y=>?_;obtain⟨t,l,S,F,m,R⟩:=p;refine Y ?_;subst S;refine rE R ?_;have f:x≠t:=fun e=>by rw[e,F]at b;exact xns b
  have j:d≠t:=fun e=>by rw[e,F]at c;exact xns c
  have s:x≠l:=fun e=>by rw[<- e,St.AG _ _ f,b]at m;exact xsn m
  have y:d≠l:=fun e=>by rw[<- e,St.AG _ _ j,c]at m;exact xsn m
  exact⟨rE (St.AG _ _ s)<|rE (St.AG _ _ f) b,rE (St.AG _ _ y)<|rE (St.AG _ _ j) c⟩
 refine bc fun Y=>?_;obtain⟨t,l,Q,F,m,O⟩:=p;refine Y<|rE Q<|rE O ?_;have f:x≠t:=fun e=>by rw[e,F]at b;exact xns b
 have j:d≠t:=fun e=>by rw[e,F]at c;exact xns c
 have s:x≠l:=fun e=>by rw[<- e,St.AG _ _ f,b]at m;exact xsn m
 have y:d≠l:=fun e=>by rw[<- e,St.AG _ _ j,c]at m;exact xsn m
 have ab:l≠t:=fun e=>by rw[e,St.AH]at m;exact xsn m
 have ae:q l=none:=by rw[St.AG _ _ ab]at m;exact m
 have I:A l=none:=by
  refine oE (A l) (fun e=>?_) fun o e=>(ka l (rE e<|L0 _) ae).elim
  .rfl
 have aa:A t=none:=by
  refine oE (A t) (fun e=>?_) fun o e=>(ka t (rE e<|L0 _) F).elim
  .rfl
 refine Lj (d:=d) (k:=k2) (l:=[("_size_bytes",.int ((nby n:Nat):Int)),("_bitarray",.ref l)]) (V:=fun v G3=>v=.int n/\G3=_) hx (fun K h=>h _ _ ⟨rfl,rfl⟩) (fun v G3 p=>?_) ((la2 0xe08c08488400048142000e128002) C J) fun v G3 k3 p af=>?_
 .obtain ⟨_,N⟩:=p;exact rE N ⟨rE (St.AG _ _ u)<|rE (St.AG _ _ s)<|rE (St.AG _ _ f) b,St.AH ..⟩
 obtain⟨M,H⟩:=p;refine rE M<|rE H<|hp l _ I (UW hn.2 (k:=k3) (rE (St.AG _ _ u)<|rE (St.AG _ _ u)<|rE (St.AG _ _ s)<|rE (St.AG _ _ f) b) (St.AH ..) ((la3 0x1e090084904000488440048142000c828003) C J af)<|rE (St.AG _ _<|cZ y)<|rE (St.AG _ _<|cZ y)<|rE (St.AH ..) rfl) fun a L D=>?_
 .have ah:a≠l:=fun e=>L<|e▸I;have ag:a≠t:=fun e=>L<|e▸aa;exact rE (St.AG _ _ D)<|rE (St.AG _ _ D)<|rE (St.AG _ _ ah)<|rE (St.AG _ _ ag)<|rS z<|rE (St.AG _ _ D) rfl
noncomputable def QS.new (q:Nat) (a:Bool) (b:Addr):QS:=⟨q,0,a,b,fun _=>false,fun _=>false,fun _=>false,fun _=>0⟩
structure KJ (Z:PX):Prop where
 Zv:FnAt Z.K 209 "__set_params" "QuotientFilter.__set_params" (BP 10 1) .none
 Rr:Ak Z.K CQ "_QuotientFilter__set_params" 209=true
 s_q:Cd Z.K CQ "_q" = true
 s_r:Cd Z.K CQ "_r" = true
 XJ:Cd Z.K CQ "_size" = true
 Yy:Cd Z.K CQ "_QuotientFilter__mod_size" = true
 XK:Cd Z.K CQ "_auto_resize" = true
 XM:Cd Z.K CQ "_hash_func" = true
 XN:Cd Z.K CQ "_int_type_code" = true
 XO:Cd Z.K CQ "_bits_per_elm" = true
 Yz:Cd Z.K CQ "_is_occupied" = true
 XP:Cd Z.K CQ "_is_continuation" = true
 Y0:Cd Z.K CQ "_is_shifted" = true
 Rt:Cd Z.K CQ "_filter" = true
noncomputable def XQ:VT:=fun _ _ _=>False
theorem XR :Ev Z c e XQ:=fun A a L s m b G P Q E f F d R t q=>t.elim
theorem Ru :Ex Z c b NT:=fun A a L s m d G P Q E f F e R t q=>t.elim
theorem Rv {V:MV->St->Prop}(l:(c[0]?).join=some (.ref x)) (n:∀ K:MV->St->Prop,(∀ v b,V v b->K v b)->T c G K)
  (o:∀ v b,V v b->b x=some (.inst C d)/\b d=some (.dict k f)) (m:k<=900) (next:∀ v b e,V v b->(e<=k+1/\(f a≠none->e=k))->i c (b.set d<|.dict e<|upd f a v) P):Ik (C0 C a T<|B3 0) i c G P:=by
 unfold Ik C0;refine n _ fun v b g=>?_;unfold B3;refine rE l ?_;dsimp only;exact xP (o v b g)<|xA2 fun q p=>Aq q p ⟨m,next v b _ g ⟨MQ (Nat.le_succ _)<|To _,fun j=>oE (f a) (fun h=>(j h).elim) fun w h=>rfl⟩⟩
theorem XS :upd f n v n=some v:=cA rfl
theorem XU (h:y≠n):upd f n v y=f y:=b5 h
noncomputable def GQ:List Str:=["_q","_r","_size","_QuotientFilter__mod_size","_elements_added","_auto_resize","_hash_func","_int_type_code","_bits_per_elm","_is_occupied","_is_continuation","_is_shifted","_filter"]
structure SPs (e:Nat) (G:St) (x d:Addr) (k:Nat) (f:Str->Option MV) (ad:List Addr) (Gc:St):Prop where
 ix:Gc x=some (.inst CQ d)
 id:Gc d=some (.dict k f)
 keep:∀ a,G a≠none->a≠d->Gc a=G a
 xd:x≠d
 nd:ad.Nodup
 dm:∀ a∈ad,Gc a≠none
 fr:∀ a∈ad,a=x\/a=d\/G a=none
 kn:e=1\/∀ y∈GQ,f y≠none
theorem SPs.put (h:SPs e G x d k f g c):SPs e G x d k' (upd f name v) g (c.set d<|.dict k'<|upd f name v):=by
 refine⟨(St.AG _ _ h.xd).trans h.ix,St.AH ..,fun a n b=>(St.AG _ _ b).trans<|h.keep a n b,h.xd,h.nd,fun a m=>?_,h.fr,h.kn.imp (fun z=>z) fun i y l=>?_⟩
 .by_cases e:a=d
  .exact rE e<|rE (St.AH ..)<|L0 _
  .exact rE (St.AG _ _ e)<|h.dm a m
 .unfold upd;by_cases e:y=name
  .exact iP e<|L0 _
  .exact iN e<|i y l
theorem SPs.kk (h:SPs e G x d k f g c) (i:name∈GQ)(a:k'<=k+1/\(f name≠none->k'=k)):k'<=k+e:=by
 refine T1 h.kn (fun l=>?_) fun b=>?_
 .have:=a.1;exact (la3 0x1c090084884000490220210002) l this
 .have:=a.2<|b _ i;exact (la3 0xa08c08400220210001) this
theorem SPs.XW (h:SPs e G x d k (look l) g c):SPs e G x d k' (look<|II l name v) g (c.set d<|.dict k'<|upd (look l) name v):=rS (G9 ..)<|h.put (k':=k') (name:=name) (v:=v)
theorem bud (h:k+e*(m+1)<=800):k<=800:=bW (Nat.le_add_right ..) h
theorem XX (a:k'<=k+e) (h:k+e*(m+1)<=800):k'+e*m<=800:=bW (Nat.add_le_add_right a _)<|rE (Nat.add_assoc ..)<|rE (Nat.add_comm e ..) h
theorem O1 (e:a=II l name v):look a name=some v:=rE e<|rS (G9 ..) XS
theorem FA (e:a=II b name v) (h:b=i):a=II i name v:=h▸e
theorem DE (e:a=II l name v)(q:look l y=r)(h:autoParam (y≠name) dc):look a y=r:=rE e<|rS (G9 ..)<|(XU h).trans q
theorem SPs.plain (h:SPs e G x d k (look l) g c) (t:(j[0]?).join=some (.ref x)) (s:name∈GQ) (b:k+e*(m+1)<=800) (u:∀ K:MV->St->Prop,K v c->T j c K)
  (next:∀ k' a q,k'+e*m<=800->q=II l name v->SPs e G x d k' (look q) g a->p j a P):Ik (C0 CQ name T<|B3 0) p j c P:=
 Rv (d:=d) (k:=k) (f:=look l) (V:=fun w a=>w=v/\a=c) t (fun K y=>u K<|y _ _ ⟨rfl,rfl⟩) (fun w a n=>by refine xP n<|xA2 fun _=>?_;intro i;revert h;refine rS i ?_;intro h;exact⟨h.ix,h.id⟩) (by have b:=bud b;exact dx b) fun w a k' n o=>by
  refine xP n<|xA2 fun i=>?_;revert next;refine rS i fun next=>fun r=>?_;revert h;exact rS r fun h=>next k' _ _ (XX (h.kk s o) b) rfl h.XW
theorem SPs.attr (h:SPs e G x d k f g c) (a:(j[0]?).join=some (.ref x)) (b:f name=some v) (l:∀ i,v≠.bi i){K:MV->St->Prop}(m:K v c):Cz CQ name (B3 0) j c K:=by
 unfold Cz B3;exact rE a<|Aq h.ix h.id<|rE b ⟨l,m⟩
theorem SPs.ba (h:SPs e G x d k (look l) g c) (Y:(j[0]?).join=some (.ref x)) (R:name∈GQ) (O:k+e*(m+1)<=800){n:Nat}(hf:look l "_size" = some (.int n)) (hn:0<n/\n<=600)
  (next:∀ b t y k' C X,k'+e*m<=800->X=II l name (.ref b)->SPs e G x d k' (look X) (b::t::y::g) C->EZ C b t y n (fun _=>false)->(∀ a,c a≠none->a≠d->C a=c a)->p j C P) :
  Ik (C0 CQ name (XE CB (DC (Cz CQ "_size"<|B3 0) Hz) O0)<|B3 0) p j c P:=by
 refine Rv (d:=d) (k:=k) (f:=look l) (V:=fun w C=>∃ b t y,w=.ref b/\c b=none/\c t=none/\c y=none/\b≠t/\b≠y/\t≠y/\EZ C b t y n (fun _=>false)/\∀ a,c a≠none->C a=c a) Y (fun K hK=>?_) (fun w C Q=>bc fun ng=>xE3 Q fun b t y=>xA2 fun W=>xA8 fun D u s _ _ _ _ q=>ng ⟨(q x<|rE h.ix<|L0 _).trans h.ix,(q d<|rE h.id<|L0 _).trans h.id⟩) (by have O:=bud O;exact dx O) fun w C k' Q S=>?_
 .refine h.attr Y hf (fun i e=>nomatch e) fun b t D u H=>have A:((c.set t<|.dict 0 fun _=>none).set b<|.inst CB t) t=some (.dict 0 fun _=>none):=(St.AG _ _<|cZ H).trans<|St.AH ..;⟨b,t,n,rfl,St.AH ..,A,H,hn,fun y G' s z q=>⟨rfl,hK _ _ ⟨b,t,y,rfl,D,u,?_,H,fun e=>?_,fun e=>?_,z,fun a r=>?_⟩⟩⟩
  .by_cases I:y=b
   .exact rE I D
   .by_cases E:y=t
    .exact rE E u
    .rw [St.AG _ _ I,St.AG _ _ E]at s;exact s
  .rw [<- e,St.AH]at s;exact xsn s
  .rw [<- e,A]at s;exact xsn s
  .have I:a≠b:=fun e=>r<|e▸D;have E:a≠t:=fun e=>r<|e▸u;rw[q a (by rw[St.AG _ _ I,St.AG _ _ E];exact r) E,St.AG _ _ I,St.AG _ _ E]
 .refine xE3 Q fun b t y=>xA2 fun W=>rE W<|xA8 fun D u s n1 n2 n3 z q=>have B:c d≠none:=rE h.id<|L0 _;have I:b≠d:=fun e=>B<|e▸D;have E:t≠d:=fun e=>B<|e▸u;have e3:y≠d:=fun e=>B<|e▸s;have F:∀ a,c a=none->a∉g:=fun a r R=>h.dm a R r;?_;have U:∀ a,c a=none->G a=none:=fun a r=>by
   by_cases M:a=d
   .exact (B<|M▸r).elim
   .refine oE (G a) (fun e=>rfl) fun o e=>?_
    .rw [<- h.keep a (by refine rE e ?_;exact L0 _) M,r]at e;exact xns e
  have h1:SPs e G x d k (look l) (b::t::y::g) C:=by
   refine⟨(q x<|rE h.ix<|L0 _).trans h.ix,(q d B).trans h.id,fun a J N=>rE (q a<|by rw[h.keep a J N];exact J)<|rE (h.keep a J N) rfl,h.xd,?_,fun a r=>mC r (z.is.elim fun Z L=>L.1.dom _<|.head _) fun r=>mC r (z.is.elim fun Z L=>L.1.dom _<|.tail _<|.head _) fun r=>mC r (z.is.elim fun Z L=>L.1.dom _<|.tail _<|.tail _<|.head _) fun r=>rE (q a<|h.dm a r)<|h.dm a r,fun a r=>mC r (.inr<|.inr<|U _ D) fun r=>mC r (.inr<|.inr<|U _ u) fun r=>mC r (.inr<|.inr<|U _ s) fun r=>h.fr a r,h.kn⟩
   .simp only[bL,bM,not_or];exact⟨⟨n1,n2,F _ D⟩,⟨n3,F _ u⟩,F _ s,h.nd⟩
  refine next b t y k' _ _ (XX (h.kk R S) O) rfl h1.XW (z.mono fun a r=>St.AG _ _ ?_) fun a J N=>(St.AG _ _ N).trans<|q a J;simp only[bM,List.not_mem_nil,or_false]at r;rcases r with rfl|rfl|rfl
  .exact I
  .exact E
  .exact e3
theorem O2 {T:BT}(a:∀ K:Bool->St->Prop,K false G->T g G K) (h:Ik p s g G P):Ik (xIf T u p) s g G P:=a _ h
theorem SPs.zeros (h:SPs e G x d k (look l) q b) (hl:(g[0]?).join=some (.ref x)) (W:c∈GQ) (M:k+e*(m+1)<=800){n:Nat}(hf:look l "_size" = some (.int n)) (hn:n<=1000)
  (next:∀ t j E l',j+e*m<=800->l'=II l c (.ref t)->SPs e G x d j (look l') (t::q) E->E t=some (.list<|List.replicate n<|.int 0)->(∀ a,b a≠none->a≠d->E a=b a)->p g E P) :
  Ik (C0 CQ c (Vl (VU<|DC (Br<|.int 0) Hz)<|Cz CQ "_size"<|B3 0)<|B3 0) p g b P:=by
 have B:b d≠none:=rE h.id<|L0 _;have F:b x≠none:=rE h.ix<|L0 _;refine Rv (d:=d) (k:=k) (f:=look l) (V:=fun w E=>∃ t r,w=.ref r/\b t=none/\b r=none/\r≠t/\E=(b.set t<|.list [.int 0]).set r (.list<|List.replicate n<|.int 0)) hl (fun K hK=>?_) (fun w E U=>?_) (by have M:=bud M;exact dx M) fun w E j U Y=>?_
 .refine⟨by decide,fun t C=>have S:x≠t:=fun e=>F<|e▸C;have Z:d≠t:=fun e=>B<|e▸C;?_⟩;unfold Cz B3;refine rE hl<|Aq ((St.AG _ _ S).trans h.ix) ((St.AG _ _ Z).trans h.id)<|rE hf ⟨(fun i e=>nomatch e),?_⟩;show(match MV.int ((n:Nat):Int),(b.set t<|.list [.int 0]) t with
   |.int n,some (.list [v])=>(0<=n/\n<=1000)/\∀ r,(b.set t<|.list [.int 0]) r=none->K (.ref r) ((b.set t<|.list [.int 0]).set r<|.list<|List.replicate n.toNat v)
   |_,_=>False)
  refine rE (St.AH ..) ⟨⟨dJ,(la1 0x6088080fa280003e8a00031) hn⟩,fun r L=>hK _ _ ⟨t,r,rfl,C,?_,(fun e=>by rw[e,St.AH]at L;exact xsn L),rfl⟩⟩;by_cases e:r=t
  .exact rE e C
  .rw [St.AG _ _ e]at L;exact L
 .refine bc fun O=>xE2 U fun t A=>xA2 fun z0=>xA4 fun C z X=>fun N=>?_;revert O;refine rE N fun O=>O ?_;have D:∀ a,b a≠none->((b.set t<|.list [.int 0]).set A<|.list<|List.replicate n<|.int 0) a=b a:=fun a y=>by
   have R:a≠A:=fun e=>y<|e▸z;have Q:a≠t:=fun e=>y<|e▸C;exact rE (St.AG _ _ R)<|rE (St.AG _ _ Q) rfl
  exact⟨(D x F).trans h.ix,(D d B).trans h.id⟩
 .refine xE2 U fun t A=>xA2 fun z0=>rE z0<|xA4 fun C z X=>fun N=>rE N ?_;have D:∀ a,b a≠none->((b.set t<|.list [.int 0]).set A<|.list<|List.replicate n<|.int 0) a=b a:=fun a y=>by
   have R:a≠A:=fun e=>y<|e▸z;have Q:a≠t:=fun e=>y<|e▸C;exact rE (St.AG _ _ R)<|rE (St.AG _ _ Q) rfl
  have I:A≠d:=fun e=>B<|e▸z;have gl:G A=none:=by
   refine oE (G A) (fun e=>rfl) fun o e=>?_
   .rw [<- h.keep A (by refine rE e ?_;exact L0 _) I,z]at e;exact xns e
  have h1:SPs e G x d k (look l) (A::q) ((b.set t<|.list [.int 0]).set A<|.list<|List.replicate n<|.int 0):=by
   exact⟨(D x F).trans h.ix,(D d B).trans h.id,fun a H J=>rE (D a<|by rw[h.keep a H J];exact H)<|rE (h.keep a H J) rfl,h.xd,bL.mpr ⟨fun W=>h.dm _ W z,h.nd⟩,fun a y=>mC y (rE (St.AH ..)<|L0 _) fun y=>rE (D a<|h.dm a y)<|h.dm a y,fun a y=>mC y (.inr<|.inr gl) fun y=>h.fr a y,h.kn⟩
  exact next A j _ _ (XX (h.kk W Y) M) rfl h1.XW ((St.AG _ _ I).trans<|St.AH ..) fun a H J=>(St.AG _ _ J).trans<|D a H
inductive ZA (args:List MV) (G:St) (P:MV->St->Prop):Prop
 |mk (x d:Addr) (q:Nat) (a:Bool) (hf:Addr) (k:Nat) (l0:List<|Str×MV) (ha:args=[.ref x,.int q,.bool a,.ref hf]) (h1:G x=some (.inst CQ d)) (h2:G d=some (.dict k<|look l0)) (hk:(k<=700/\l0=[])\/(k<=800/\∃ S b1 b2 b3 l,l0=qfF S b1 b2 b3 l))
  (hxd:x≠d) (hq:3<=q/\q<=9)
  (hp:∀(D:QD) G',D.x=x->D.d=d->Bz G' D (QS.new q a hf)->D.foot.Nodup->(∀ a∈D.foot,a=x\/a=d\/G a=none)->(∀ a,G a≠none->a≠d->G' a=G a)->P .none G')
theorem Rw (k:KF Z) (H:KI Z) (A:KJ Z):Sp Z 3 209 ZA:=by
 refine Sp.weaken (En (names:=["self","quotient","auto_expand","hash_function"]) (rest:=[]) (n:=2) (na:=4) (dflt:=[]) (dm:=[]) A.Zv (Qr fun _ _ _ _ _ _ _ _ _ _=>.of_eq rfl) .nil<|Ae (A1 A.s_q (AQ 1) (AQ 0) rfl)
  (Ae (A1 A.s_r (Ih AE<|AQ 1) (AQ 0) rfl)
  (Ae (A1 A.XJ (Ih AE<|BK k.a_q<|AQ 0) (AQ 0) rfl)
  (Ae (A1 A.Yy (Ih (BK k.DK<|AQ 0) AE) (AQ 0) rfl)
  (Ae (A1 k.Eg AE (AQ 0) rfl)
  (Ae (A1 A.XK (AQ 2) (AQ 0) rfl)
  (Ae (A1 A.XM (VQ (DO (AQ 3) K4) XR<|AQ 3) (AQ 0) rfl)
  (Ae (EY (DO (BK k.a_r<|AQ 0) AE) Ru<|Ae (EY (DO (BK k.a_r<|AQ 0) AE) Ru
   (Ae (A1 A.XN E2 (AQ 0) rfl)<|Ae (A1 A.XO AE (AQ 0) rfl) BJ)) BJ)
  (Ae (A1 A.Yz (Jc (Fn H rfl rfl rfl) H.XG (AS (BK k.DK<|AQ 0) Az)<|Jd k H) (AQ 0) rfl)
  (Ae (A1 A.XP (Jc (Fn H rfl rfl rfl) H.XG (AS (BK k.DK<|AQ 0) Az)<|Jd k H) (AQ 0) rfl)
  (Ae (A1 A.Y0 (Jc (Fn H rfl rfl rfl) H.XG (AS (BK k.DK<|AQ 0) Az)<|Jd k H) (AQ 0) rfl)
  (Ae (A1 A.Rt (Oz (K6<|AS AE Az)<|BK k.DK<|AQ 0) (AQ 0) rfl) BJ)))))))))))) ?_
 rintro aG G P ⟨x,d,q,a,hf,kk,l0,ag,h1,U,ab,V,N,hp⟩;refine rE ag ⟨rfl,have m:(([some<|MV.ref x,some<|MV.int q,some<|MV.bool a,some<|MV.ref hf]:LS)[0]?).join=some (MV.ref x):=rfl;?_⟩;obtain⟨e,hk,he⟩:∃ e,kk+e*13<=800/\(e=1\/∀ y∈GQ,look l0 y≠none):=by
  rcases ab with⟨h,_⟩|⟨h,S,o,g,f,l,rfl⟩
  .exact ⟨1,bW (Nat.add_le_add_right h 13)<|Sa rfl,.inl rfl⟩
  .exact ⟨0,h,.inr fun y hy e=>by
    have q:=List.all_eq_true.mp (show(GQ.all fun y=>(look (qfF S o g f l) y).isSome)=true by kernel_rfl) y hy;rw[e]at q;exact xft q⟩
 have h0:SPs e G x d kk (look l0) [d,x] G:=by
  exact⟨h1,U,fun _ _ _=>rfl,V,by simp[cZ V],fun b E=>mC E (rE U<|L0 _) fun E=>rE (bO.mp E)<|rE h1<|L0 _,fun b E=>mC E (.inr<|.inl rfl) fun E=>.inl<|bO.mp E,he⟩
 have hn:0<2^q/\2^q<=512:=⟨Nat.two_pow_pos _,by
  have:2^q<=2^9:=Nat.pow_le_pow_right (by exact la [] [] 0x20840888110<|by kernel_rfl) N.2;exact (la1 0x1822020200a00008028001) this⟩
 refine have nb:∀{i:Int} (j:String),MV.int i≠.bi j:=fun j e=>nomatch e;h0.plain (v:=.int q) m (by decide) hk (fun K h=>h) fun k1 aW u1 az e1 h1=>h1.plain (v:=.int (32-q:Nat)) m (by decide) az (fun K h=>?_) fun k2 aV u2 ay e2 U=>?_
 .have e:(32:Int)-(q:Int)=((32-q:Nat):Int):=(la2 0x185030c21808000105115240000320e2000000414352) N rfl;exact(rE e h:K (.int<|(32:Int)-(q:Int)) _)
 refine U.plain (v:=.int (2^q:Nat)) m (by decide) ay (fun K h=>?_) fun k3 aU u3 ax e3 h3=>?_
 .unfold YO Br;exact U.attr (name:="_q") (v:=.int q) m (DE e2<|O1 e1) nb ⟨⟨dJ,(la1 0x302302920000190700000f4240c00031) N,by decide⟩,rE (Wd ..) h⟩
 refine h3.plain (v:=.int (2^q-1:Nat)) m (by decide) ax (fun K h=>?_) fun k4 aT u4 aw e4 h4=>?_
 .exact h3.attr (name:="_size") (v:=.int (2^q:Nat)) m (O1 e3) nb<|have e:((2^q:Nat):Int)-1=((2^q-1:Nat):Int):=(la2 0x1850a3221808480114040140000022e2009000352) hn rfl;(rE e h:K (.int<|((2^q:Nat):Int)-1) _)
 refine h4.plain (v:=.int 0) m (by decide) aw (fun K h=>h) fun k5 aS u5 av e5 h5=>h5.plain (v:=.bool a) m (by decide) av (fun K h=>h) fun k6 aR u6 ar e6 h6=>h6.plain (v:=.ref hf) m (by decide) ar (fun K h=>⟨false,rfl,h⟩) fun k7 aP u7 aq e7 h7=>?_;have hr:∀{i:Int},i<=16->D5 .LtE (.int ((32-q:Nat):Int)) (.int i)=some false:=fun hi=>by
  show some (decide<|((32-q:Nat):Int)<=_)=some false;exact rE (bK<|by exact (lb21 0xcc282381080020a02800428027244008320e0400363) N hi rfl) rfl
 refine have fr:look u7 "_r" = some (.int (32-q:Nat)):=DE e7<|DE e6<|DE e5<|DE e4<|DE e3<|O1 e2;O2 (fun K h=>h7.attr (name:="_r") m fr nb ⟨false,hr<|la [] [] 0x821020010a20830<|by kernel_rfl,h⟩)<|O2 (fun K h=>h7.attr (name:="_r") m fr nb ⟨false,hr<|la [] [] 0x821020010a00042830<|by kernel_rfl,h⟩)<|h7.plain (v:=.str "L") m (by decide) aq (fun K h=>h) fun k8 aO u8 ao e8 h8=>h8.plain (v:=.int 32) m (by decide) ao (fun K h=>h) fun k9 aN u9 ak e9 h9=>have L:look u9 "_size" = some (.int (2^q:Nat)):=DE e9<|DE e8<|DE e7<|DE e6<|DE e5<|DE e4<|O1 e3;?_;clear h0 h1 U h3 h4 h5 h6 h7 h8 hr fr;refine have I:0<2^q/\2^q<=600:=⟨hn.1,(la1 0xc08c08080280000045c09628001) hn⟩;h9.ba m (by decide) ak (n:=2^q) L I fun o z w aM Ga aJ aa M ae v1 ai=>ae.ba m (by decide) aa (n:=2^q) (DE M L) I fun g u r aL Gb aI Y R Q v2 O=>Q.ba m (by decide) Y (n:=2^q) (DE R<|DE M L) I fun f t p aK Gd aH X af J v3 C=>J.zeros m (by decide) X (n:=2^q) (DE af<|DE R<|DE M L) ((la1 0xc08c08096280000045c0fa28001) I) fun l aj Ge ah W aD F hl s=>have nd:=F.nd;?_;have T:∀ a,a∈[f,t,p,g,u,r,o,z,w]->a≠d:=fun a c e=>by
  subst e;exact(SF.mp<|(bL.mp nd).2).2.2 a c a (.head _) rfl
 have m2:∀ a,a∈[g,u,r]->a∈[f,t,p,g,u,r,o,z,w]:=fun a c=>Bl [f,t,p]<|Lf [o,z,w] c;have m1:∀ a,a∈[o,z,w]->a∈[f,t,p,g,u,r,o,z,w]:=fun a c=>Bl [f,t,p,g,u,r] c;have w1:=((v1.mono fun a c=>O a (ae.dm a<|Lf _ (as:=[o,z,w]) c)<|T a<|m1 a c).mono fun a c=>C a (Q.dm a<|Bl [g,u,r]<|Lf [d,x] c)<|T a<|m1 a c).mono
  fun a c=>s a (J.dm a<|Lf [d,x] (as:=[f,t,p,g,u,r,o,z,w])<|m1 a c)<|T a<|m1 a c
 have hR:(List.replicate (2^q)<|MV.int 0)=Ip (QS.new q a hf):=by
  unfold Ip;exact(rE List.map_const' (rE List.length_range rfl):_=(List.range<|2^q).map fun _=>MV.int 0)
 have D:(QD.foot ⟨x,d,l,o,z,w,g,u,r,f,t,p⟩).Perm [l,f,t,p,g,u,r,o,z,w,d,x]:=by
  have e1:([o,z,w]++([g,u,r]++[f,t,p])).Perm (([f,t,p]++[g,u,r])++[o,z,w]):=List.perm_append_comm.trans<|List.perm_append_comm.append_right _;exact(List.perm_append_comm (l₁:=[x,d]) (l₂:=l::([o,z,w]++([g,u,r]++[f,t,p])))).trans<|(e1.cons l).append<|List.Perm.swap d x []
 have hu:ah=qfF (QS.new q a hf) o g f l:=by
  have hc:codeOf q=.str "L":=by unfold codeOf;exact iN (by exact (la2 0x32182301080020a02a488010641e080062) N rfl)<|iN (by exact (la2 0x32182301080020a02a488010641c004280062) N rfl) rfl
  have E:Qe q=.int 32:=by unfold Qe;exact iN (by exact (la2 0x32182301080020a02a488010641e080062) N rfl)<|iN (by exact (la2 0x32182301080020a02a488010641c004280062) N rfl) rfl
  refine(FA aD<|FA af<|FA R<|FA M<|FA e9<|FA e8<|FA e7<|FA e6<|FA e5<|FA e4<|FA e3<|FA e2 e1).trans ?_;unfold qfF QS.new;dsimp only;refine rE hc<|rE E ?_;rcases ab with⟨_,rfl⟩|⟨_,S,c1,c2,c3,l',rfl⟩<;>kernel_rfl
 exact hp ⟨x,d,l,o,z,w,g,u,r,f,t,p⟩ Ge rfl rfl ⟨F.ix,⟨aj,W,hu▸F.id⟩,hl.trans<|rE hR rfl,w1,((v2.mono fun a c=>C a (Q.dm a<|Lf _ (as:=[g,u,r]) c)<|T a<|m2 a c).mono fun a c=>s a (J.dm a<|Lf [d,x] (as:=[f,t,p,g,u,r,o,z,w])<|m2 a c)<|T a<|m2 a c),(v3.mono fun a c=>s a (J.dm a<|Lf (bs:=_) (as:=[f,t,p]) c)<|T a<|Lf (as:=[f,t,p]) _ c)⟩ (D.nodup_iff.mpr nd) (fun b E=>F.fr b<|D.mem_iff.mp E) F.keep
noncomputable def XY:Value->Option Addr
 |.ref a=>some a
 |_=>none
theorem O3 (h:XY v=some a):v=.ref a:=by
 induction v<;>first|exact xns h|exact rE (so h) rfl
def Rx (K:Frag) (C:Addr) (a:Str) (b:Addr):Bool:=plainGet K C a&&hasDictIn K C&&(((findIn K (.ref C) a).bind fun v=>v.bind XY).map fun p=>specialIn K (.ref p) "__get__" == some (some<|.builtin "property.__get__")&&takesIn K (.ref p)==some true&&((recIn K p "property").bind fun l=>l.head?.bind XY)==some b)==some true
noncomputable abbrev ZC (K:Frag) (T:Addr):Prop:=V8 K T=some [.none]
structure KR (Z:PX):Prop where
 Lm:FnAt Z.K 345 "resize" "QuotientFilter.resize" (BP 10 19)<|.ref 338
 Lo:ZC Z.K 338
 IW:Ak Z.K CQ "resize" 345=true
 Zw:FnAt Z.K 247 "elements_added" "QuotientFilter.elements_added" (BP 10 6) .none
 Zx:Rx Z.K CQ "elements_added" 247=true
noncomputable def Vm (C:Addr) (T:VT) (S:List MV->St->(MV->St->Prop)->Prop):VT:=fun d G P=>T d G fun a b=>match a with
 |.ref x=>b.CA x C fun _ _ _=>S [.ref x] b fun v e=>(∀ i,v≠.bi i)/\P v e
 |_=>False
theorem UX (hA:Rx Z.K C b g=true) (h1:Ev Z c e T) (h0:Dh e=false) (hS:Sp Z n g S) (hn:n+1<=c.n) :
  Ev Z c (.Attribute e b J) (Vm C T S):=by
 refine fun A aa L s m ls G P Q E W F lr R t q=>Attribute_any_ (h1 W F lr R t fun v mv G1 s1 i B H F1 R1=>mv6 B ?_)<|rE (arm_eval_Attribute ..)<|rE (Cw h0 ..) rfl
 .refine fun _=>fun z=>?_;revert i;refine rE z fun i=>fun B=>have z:=VR.irf i;rE z<|bc fun ng=>xE3 (St.B4 B) fun d kk f=>xA3 fun e1 e2 hk=>xE2 (R1.inst e1 e2) fun es nn=>xA3 fun I hz hf=>xP (bN.mp hA)<|xA2 fun x a3=>xP (bN.mp x)<|xA2 fun a1 a2=>gG (bP.mp<|eq_of_beq a3) fun p O hb=>gG (bQ.mp O) fun v V N=>gG (bQ.mp N) fun w h M=>have z:=O3 M;?_;revert h;refine rE z fun h=>?_;revert V;refine rE h fun V=>xP (bN.mp hb)<|xA2 fun o b3=>xP (bN.mp o)<|xA2 fun b1 b2=>gG (bQ.mp<|eq_of_beq b3) fun l U k=>gG (bQ.mp k) fun u a j=>have z:=O3 j;?_;clear hA x a3 hb o b3 k j;revert a;refine rE z fun a=>?_;induction l with
  |nil=>exact xns a
  |cons y r=>
  have z:=so a;revert U;exact rE z fun U=>ng<|get_prop F1 W.X I a1 a2 V (cD.mp b1) (cD.mp b2) U<|hS (s:={s1 with toks:=s1.toks+1}) (W.in1 hn) F1 R1 (.cons (.ref _) .nil) hk fun v mv G2 Y i hp D F2 R2=>(rE (handedOut_of<|FJ i hp.1) (bZ<|q v mv G2 Y i hp.2 ((H.trans<|Sm.t _ _).trans D) F2 R2):wpAny _ _ (handedOut v) Q E Y)
theorem Lq {K:Frag}{f e:Str}{g:Stmt}{o c:Value}{b:List Str}(h:∀(s:Shared) (m:Value) (j d i:Value) (l:Option Addr) (k:Value),BindsTo s (fnOf f e (EO g) (BO g) (Af g) o j d i l c k) ⟨[m],[]⟩<|b.zip [m]) :
  ∀(s:Shared) (a:List Value) (j d i:Value) (l:Option Addr) (k:Value),K.In s.heap->a.length=1->BindsTo s (fnOf f e (EO g) (BO g) (Af g) o j d i l c k) ⟨a,[]⟩ (b.zip<|a++[]):=by
 refine fun s a j d i l k _ n=>rE (cb ..) ?_;cases a with
 |nil=>cases n
 |cons m a=>
 cases a with
 |cons _ _=>cases n
 |nil=>exact h s m j d i l k
theorem mv71 {c:Type}{b:List MV}{d:Option c}{r:c}{g:Prop}(e:(match b with | []=>d|_=>none)=some r) (h:b=[]->d=some r->g):g:=by
 generalize f:b=a at e;revert e f;exact List.casesOn a h fun _ _ _=>xns
theorem ZD (k:KF Z) (b:KR Z):Sp Z 1 247 (sR fun S a=>match a with | []=>some (.int S.cnt)|_=>none):=Sp.toR (DP (names:=["self"]) (rest:=[]) (n:=0) (na:=1) (dflt:=[]) (dm:=[]) b.Zw (Lq fun _ _ _ _ _ _ _=>.of_eq rfl) .nil<|CP (Dr<|An 0 k.BV Ba) C7) fun S a r h=>mv71 h (fun z=>rE z fun h=>soE h rfl)
def UY (i:Nat):PE:=fun a=>match AL a i with|some (.qf S)=>some (.int S.cnt)|_=>none
theorem Ry (k:KF Z) (h:KR Z)(i:Nat) (s:c.vs[i]?=some x) (q:iK c) (m:iL c x) (t:jD x) (o:2<=c.n) :
  Pu Z c (.Attribute (.Name x j) "elements_added" a) (UY i):=by
 refine(UX h.Zx (AQ i s q m t) rfl (ZD k h) o).weaken ?_;rintro y G P ⟨B,w,r,l,e,d⟩;unfold UY at e;refine mv39 e ?_
 .refine fun S v e=>bc fun b=>?_;revert d;refine soE e fun d=>gH (l.qf v) fun D A u g=>b ?_;unfold Vm B3;exact rE u<|bc fun b=>gG g.id fun z p f=>b<|Aq g.ix f ⟨D,S,[],.int S.cnt,g,rfl,rfl,(fun i e=>nomatch e),d⟩
def O4 (n:Nat) (S:QS) (b:List MV):Option (AV×QS):=match b with
 | [.int<|.ofNat q,.bool a,.ref hf]=>if 3<=q/\q<=9 then some (.v .none,QS.new q a hf)else none
 |_=>none
theorem mv72 {h:Type}{i:Nat->Bool->Addr->Option h}{r:h}{g:Prop}(e:(match f with | [MV.int<|Int.ofNat c,MV.bool b,MV.ref a]=>i c b a|_=>none)=some r) (s:∀ c b a,f=[MV.int<|Int.ofNat c,MV.bool b,MV.ref a]->i c b a=some r->g):g:=by
 generalize j:f=d at e;revert e j;exact List.casesOn d (fun _=>xns) fun q p=>MV.casesOn q (fun _=>xns) (fun _ _=>xns) (fun o=>Int.casesOn o (fun v=>List.casesOn p (fun _=>xns) fun n m=>MV.casesOn n (fun _=>xns) (fun u=>List.casesOn m (fun _=>xns) fun l k=>MV.casesOn l (fun _=>xns) (fun _ _=>xns) (fun _ _=>xns) (fun _ _=>xns) (fun t=>List.casesOn k (s _ _ _) fun _ _ _=>xns) (fun _ _=>xns) fun _ _=>xns) (fun _ _=>xns) (fun _ _=>xns) (fun _ _=>xns) (fun _ _=>xns) fun _ _=>xns) fun _ _=>xns) (fun _ _=>xns) (fun _ _=>xns) (fun _ _=>xns) fun _ _=>xns
theorem UZ (k:KF Z) (t:KI Z) (s:KJ Z):Sp Z 3 209 (sQ O4):=by
 refine Sp.weaken (Rw k t s) ?_;rintro l G P ⟨n,D,S,L,r,M,h,o,f,e,i⟩;refine rE f ?_;unfold O4 at e;refine mv72 e ?_
 .refine fun q a y=>fun z=>rE z fun e=>bc fun m=>xP (Au e)<|xA2 fun u e=>?_;revert i;refine BH e fun i=>gG h.id fun p w A=>m ⟨D.x,D.d,q,a,y,p,_,rfl,h.ix,A,.inr ⟨w,S,_,_,_,_,rfl⟩,?_,u,fun J I H K F E C j=>i J I [] _ F H E (.v .none) ⟨fun b c g=>j b c fun z=>g<|rE z<|.tail _<|.head _,fun b B=>?_,fun b c g=>?_⟩⟩
  .exact fun z=>have:=bL.mp o;this.1<|z▸.head _
  .rcases C b B with h|h|h
   .exact .inl<|h▸.head _
   .exact .inl<|h▸.tail _ (.head _)
   .exact .inr h
  .rw [j b c fun z=>g<|by rw[z];exact .tail _<|.head _];exact c
def Nu (n:Nat) (S:QS) (a:List MV):Option (AV×QS):=match a with
 | []=>(match hsh S with|some l=>some (.lst<|AX l,S)|none=>none)
 |_=>none
theorem Ua (k:KF Z)(d:iK c) (b:c.scope.names.lookup (Str.ofString "list")=some .globalImplicit) (e:(("list":Str)==("__debug__":Str))=false):Ev Z c (.Name "list" a) (Br<|.ty "list"):=
 DN k.Wa PySem.Pv.boot_list (.ty _) d b e
set_option tactic.hygienic true in theorem Dk (k:KF Z):Sp Z 20 337 (sQ Nu):=by
 refine Sp.toQ (D6 (names:=["self"]) (rest:=[]) (n:=19) (na:=1) (dflt:=[]) (dm:=[]) k.Md (Lq fun _ _ _ _ _ _ _=>.of_eq rfl) .nil<|AA (LH<|Rn k 0 (Ua k rfl rfl rfl) rfl rfl rfl rfl rfl<|by decide) AI) fun n S d r f h=>?_;unfold Nu at h;split at h
 .split at h
  .rename_i l e;refine BH h<|Co (pl:=[]) rfl<|Ci ?_;unfold Qj XD;show(match(match hsh S with|some l=>some (AV.lst<|AX l,AY (start (.qf S) [] [] 0) 0<|.qf S)|none=>none)with|some (a,b)=>some (AF.ret a,b)|none=>none)=_;exact rE e rfl
  .exact xns h
 .exact xns h
noncomputable def E3:PL->Nat->PL
 |_::r,0=>none::r
 |x::r,i+1=>x::E3 r i
 | [],_=>[]
theorem Loc.unset {c b ls}(h:Loc G c b ls):∀ i,Loc G (BD c i []) (E3 b i) ls:=by
 induction h with
 |nil=>intro i;exact .nil
 |free o h a=>
  intro i;induction i with
  |zero=>exact .free o h
  |succ i=>exact .free o<|a i
 |own h0 h a=>
  intro i;induction i with
  |zero=>exact .free _ h
  |succ i=>exact .own h0<|a i
 |B5 h0 h a=>
  intro i;induction i with
  |zero=>exact .free _ h
  |succ i=>exact .B5 h0<|a i
 |cel h0 d h a=>
  intro i;induction i with
  |zero=>exact .free _ h
  |succ i=>exact .cel h0 d<|a i
 |tab h0 h a=>
  intro i;induction i with
  |zero=>exact .free _ h
  |succ i=>exact .tab h0<|a i
def Ub (j:Nat):MI:=fun _ a=>match AL a j with
 |some (.lst xs)=>some (xs,E3 a j)
 |_=>none
theorem Hc {Z:PX}{a:Heap}{L:Addr}(F:Fr a L s.heap m) (R:SR a L s.heap G) (e:G l=some (.list d))
  (q:∀ I c b,G I=none->c.cls=.type "list_iterator"->c.data=.fields #[.ref l,.int 0 0]->Sm s b->Fr a L b.heap m->SR a L b.heap (G.set I<|.obj c)->Q (.ref I) b):wpAny Z.md A (pyIter<|.ref l) Q E s:=gG (R.isList e) fun j f k=>wpAny_pyIter_list f<|xP (R.push (ob:={cls:=.type "list_iterator",data:=.fields #[.ref l,.int 0 0]}) (mo:=.obj _) F ⟨rfl,rfl⟩)<|xA2 fun i g=>q _ _ _ R.fresh rfl rfl (Sm.h _ _) i g
theorem R0 {K:Pos}(j:Nat) (hi:c.vs[j]?=some x) (Y:iK c) (W:iL c x) (hd:jD x):Ei Z c (.Name x K) (Ub j):=by
 refine fun A B L s m U G P Q E cx F V R u q=>bc fun T=>?_;obtain⟨n,D,O,y,N,k,e,X⟩:=u;refine T ?_;unfold Ub at e;refine mv67 e ?_
 .clear e;intro ys e1 e;cases e;refine gH (k.lo.lst e1) fun l C h2 w=>(AQ j hi Y W hd) (P:=fun v o=>v=.ref l/\o=G) cx F V R (by unfold B3;exact rE h2 ⟨rfl,rfl⟩) fun v mv o s1 t hP r F1 R1=>xP hP<|xA2 fun J=>?_;revert t;refine rE J fun t=>fun H=>?_;subst H;cases t;refine Hc F1 R1 w fun I S M f c1 c2 p F2 R2=>?_;have g:I≠l:=fun z=>by replace f:=w▸z▸f;cases f
  have h:LN o (BD D j []) (E3 O j) U:=⟨k.lo.unset j,Bb k.nd dC fun b a=>nomatch a⟩;refine q I _ M (X (BD D j []) _ I [I,l] (h.Rd _ f) ?_ ?_ ⟨⟨fun b a _=>St.AG _ _ fun z=>a<|z▸f,fun b a=>?_,fun b a _=>rE (St.AG _ _ fun z=>a<|by exact rE z f) a⟩⟩ f) (r.trans p) F2 R2
  .have:=CG.lst (G:=o.set I<|.obj S) (I:=I) (l:=l) (xs:=y) 0 (St.AH ..) c1 c2 ((St.AG _ _<|cZ g).trans w) g;exact this
  .refine SF.mpr ⟨by simp[g],h.nd,fun b a b' d e=>?_⟩;subst e;rcases bM.mp a with rfl|a
   .exact k.lo.dom _ (BM _ d) f
   .replace d:=(bO.mp a)▸d;have:=Cq k.nd d<|rE C<|.head _;cases this
  .replace a:=D4▸a;exact T1 (X1.mp a) (fun a=>mC a (.inr f) fun a=>rE (bO.mp a)<|.inl<|Ad (i:=j)<|rE C<|.head _) fun a=>.inl<|BM _ a
noncomputable def O5 (n:Nat):QS->List Nat->Option QS
 |S,[]=>some S
 |S,h::t=>match JO n S [h]with
  |some (_,a)=>O5 n a t
  |none=>none
def rsz (n:Nat) (S:QS) (q:Nat):Option QS:=if S.cnt<2^q/\(3<=q/\q<=9)/\S.n<=900 then(match hsh S with
  |some l=>O5 n (QS.new q S.auto S.hf) l
  |none=>none)else none
theorem Hd (h:M n b=some (xs,a)):RY i M X n b=fGo i X n xs a:=by unfold RY;exact rE h rfl
theorem R9 (h:X n (AY d i<|.v x)=some (.next,b)):fGo i X n (x::c) d=fGo i X n c b:=by
 show(match X n (AY d i<|.v x)with|some (.next,b)=>fGo i X n c b|some (.cont,b)=>fGo i X n c b|some (.brk,b)=>some (.next,b)|some (.ret a,b)=>some (.ret a,b)|none=>none)=_;exact rE h rfl
def cR (n:Nat):FC:=fc 345 "QuotientFilter.resize" (BP 10 19) ["self","quotient","hashes","i","_h"] n
theorem mv73 {c:Type}{d:Option c}{r:c}{g:Prop}(e:(match b with|true=>none|false=>d)=some r) (h:b=false->d=some r->g):g:=by
 generalize f:b=a at e;revert e f;exact Bool.casesOn a h fun _=>xns
theorem Kn (k:KF Z) (U:KI Z) (E:KJ Z) (R:KR Z):∃ M,Bx Z (cR 21) (BO<|BP 10 19) M/\∀(S p:QS) (q n:Nat) (d c b:Option AV),rsz n S q=some p->∀ o:MV,(o=.none/\q=S.q+1)\/o=.int q->
  ∃ r,M n [some<|.qf S,some<|.v o,d,c,b]=some (.next,some (.qf p)::r):=by
 refine⟨_,(AA (Ao (Al<|AW (AB 1)<|AD K4) (AA (Ab 0<|Ac<|AJ (An 0 k.a_q Zn)<|AD AE) AI) AI)
  (AA (Ao (Al<|AW (Ry k R 0 rfl rfl rfl rfl<|by decide)<|AJ (AD AE)<|AB 1) (AA Iu AI) AI)
  (AA (Ao (Al<|CL (AW (AB 1)<|AD AE)<|CL (AW (AB 1)<|AD AE) BU) (AA Iu AI) AI)
  (AA (Fs 1<|Gp 0 k.EA (Dk k) rfl rfl rfl rfl rfl Aa rfl rfl)
  (AA (Ha 2 (Hb (Fl k) (An 0 k.DK EC) rfl) (AA (B8 0 k.BQ (AB 3)<|AD AE) AI) fun _ _=>rfl)
  (AA (Ax<|BF 0 E.Rr (UZ k U E)<|AN (AB 1)<|AN (An 0 k.DQ C8)<|AN (An 0 k.Ht Gv) Aa)
  (AA (Ha 3 (R0 2 rfl rfl rfl rfl) (AA (Ax<|BF 0 k.DX (Nl k)<|AN (AB 4) Aa) AI) fun _ _=>rfl)
  AI))))))),?_⟩
 intro S p q n d c b i o A;unfold rsz at i;refine xP (Au i)<|xA2 fun I=>?_;revert I;refine xA3 fun X u F=>fun i=>mv55 i ?_
 .clear i;intro l el i;have P:(mIf (upB<|Aw .Is (AM 1)<|AP .none) (Ag (BX (0+1)<|up<|Aj .Add (Bq 0<|aQ fun S=>MV.int ↑S.q)<|AP<|.int 1) Ar) Ar) n [some<|.qf S,some<|.v o,d,c,b]=some (.next,[some<|.qf S,some<|.v<|.int q,d,c,b]):=by
   rcases A with⟨rfl,rfl⟩|rfl
   .rfl
   .rfl
  have O:(mIf (upB<|Aw .GtE (UY 0)<|Aj .LShift (AP<|.int 1)<|AM 1) (Ag WR Ar) Ar) n [some<|.qf S,some<|.v<|.int q,d,c,b]=some (.next,[some<|.qf S,some<|.v<|.int q,d,c,b]):=by
   refine CE (pl1:=[some<|.qf S,some<|.v<|.int q,d,c,b]) ?_;have e:decide (((2^q:Nat):Int)<=(S.cnt:Int))=false:=bK<|(la2 0x608808008110000361) X;simp only[upB,wPl,Aw,CF,UY,Aj,mI,AM,AP,AL,Kh q<|(la1 0xc08c0a480000641c0fa28001) u,Kd,e]
  have N:(mIf (upB<|pOr (Aw .Lt (AM 1)<|AP<|.int 3)<|pOr (Aw .Gt (AM 1)<|AP<|.int 31) C3) (Ag WR Ar) Ar) n [some<|.qf S,some<|.v<|.int q,d,c,b]=some (.next,[some<|.qf S,some<|.v<|.int q,d,c,b]):=by
   refine CE (pl1:=[some<|.qf S,some<|.v<|.int q,d,c,b]) ?_;have e:decide ((q:Int)<3)=false:=bK<|(la1 0x282302920000190732000461) u;have e':decide ((31:Int)<(q:Int))=false:=bK<|(la1 0x3023029200001907000007e8461) u;simp only[upB,wPl,pOr,C3,Aw,CF,mI,AM,AP,AL,Kc,Ke,e,e']
  have h3:Nu n S []=some (.lst<|AX l,S):=by unfold Nu;dsimp only;exact rE el rfl
  have L:Hr (1+1) (LG 0 Nu BY) n [some<|.qf S,some<|.v<|.int q,d,c,b]=some (.next,[some<|.qf S,some<|.v<|.int q,some<|.lst<|AX l,c,b]):=by
   unfold Hr;exact rE (Gz (S:=S) (as:=[]) rfl rfl h3) rfl
  have z:∀(k t:Nat) (T:QS) (f:Option AV),t+k<=T.n->T.n<=900->∃ j g,fGo (2+1) (Ag (B7 0 (AM 3)<|AP<|.int 0) Ar) n (Fi (t:Int) k) [some<|.qf T,some<|.v<|.int q,some<|.lst<|AX l,f,b]=some (.next,[some<|.qf j,some<|.v<|.int q,some<|.lst<|AX l,g,b])/\j.auto=T.auto/\j.hf=T.hf:=by
   intro k;induction k with
   |zero=>intro t T f _ _;exact⟨T,f,rfl,rfl,rfl⟩
   |succ k w=>
    intro t T f H G;have W:(Ag (B7 0 (AM 3)<|AP<|.int 0) Ar) n [some<|.qf T,some<|.v<|.int q,some<|.lst<|AX l,some<|.v<|.int (t:Int),b]=some (.next,[some<|.qf<|T.A4 t 0,some<|.v<|.int q,some<|.lst<|AX l,some<|.v<|.int (t:Int),b]):=by
     have e:=Dj (S:=T) (k:=t) (v:=0) ((la3 0x182202102482008040011) H)<|dK G;refine AK (pl1:=[some<|.qf<|T.A4 t 0,some<|.v<|.int q,some<|.lst<|AX l,some<|.v<|.int (t:Int),b]) ?_;simp only[B7,onQ,nx,mI,AM,AP,AL,AY];exact rE (show Iz T (some (t:Int)) (some 0)=some (T.A4 t 0)from e) rfl
    exact bc fun Q=>xE2 (w (t+1) (T.A4 t 0) (some<|.v<|.int (t:Int)) (show t+1+k<=T.n by exact (la3 0x18220220244200808081201201) H) G) fun j g=>xA3 fun e1 e2 e3=>Q ⟨j,g,(R9 W).trans e1,e2,e3⟩
  refine xE2 (z S.n 0 S c (la1 0x8210200000a00) F) fun T f=>xA3 fun D C B=>?_;have V:((0:Nat):Int)=0:=rfl;rw[V]at D;have K:RY (2+1) (JX<|Bq 0<|aQ fun S=>MV.int ↑S.n) (Ag (B7 0 (AM 3)<|AP<|.int 0) Ar) n [some<|.qf S,some<|.v<|.int q,some<|.lst<|AX l,c,b]=some (.next,[some<|.qf T,some<|.v<|.int q,some<|.lst<|AX l,f,b]):=by
   have e:JX (Bq 0<|aQ fun S=>MV.int ↑S.n) n [some<|.qf S,some<|.v<|.int q,some<|.lst<|AX l,c,b]=some (Fi 0 S.n,[some<|.qf S,some<|.v<|.int q,some<|.lst<|AX l,c,b]):=by
    simp only[JX,Bq,aQ,mI,AL];exact iP (show Jw 0 _ from⟨⟨by decide,by decide⟩,k62 _,j62<|bW F<|by decide⟩)<|rE (cL ..) rfl
   exact(Hd e).trans D
  have J:C4 (C6 0 O4<|Ai (AM 1)<|Ai (Bq 0<|aQ fun S=>.bool S.auto)<|Ai (Bq 0<|aQ fun S=>.ref S.hf) BY) n [some<|.qf T,some<|.v<|.int q,some<|.lst<|AX l,f,b]=some (.next,[some<|.qf<|QS.new q S.auto S.hf,some<|.v<|.int q,some<|.lst<|AX l,f,b]):=by
   have e:O4 n T [.int q,.bool T.auto,.ref T.hf]=some (.v .none,QS.new q T.auto T.hf):=cA u;rw[C,B]at e;exact A6<|BI (S:=T) (as:=[.int q,.bool S.auto,.ref S.hf]) rfl (rS C<|rS B rfl) e
  have a:∀(l:List Nat) (T:QS) (y:Option AV),O5 n T l=some p->∃ s,fGo (3+1) (Ag (C4<|C6 0 (cQ JO)<|Ai (AM 4) BY) Ar) n (AX l) [some<|.qf T,some<|.v<|.int q,none,f,y]=some (.next,[some<|.qf p,some<|.v<|.int q,none,f,s]):=by
   intro l;induction l with
   |nil=>intro T y h;(refine soE h ?_;clear h);exact⟨y,rfl⟩
   |cons x xs w=>
    intro T y h;conv at h=>lhs;whnf
    refine mv36 h ?_
    .intro r j e h;have e0:r=.v .none:=by
      unfold JO at e;dsimp only at e;exact mv73 e (fun _ e=>(EG (n:=n) (x:=x) e).1)
     revert e;exact rE e0 fun e=>xE1 (w j (some<|.v<|.int (x:Int)) h) fun s=>fun h'=>⟨s,(R9<|(AK<|A6<|BI rfl rfl<|IE.trans e).trans rfl).trans h'⟩
  exact xE1 (a l (QS.new q S.auto S.hf) b i) fun s=>fun Y=>⟨_,(AK P).trans<|(AK O).trans<|(AK N).trans<|(AK L).trans<|(AK K).trans<|(AK J).trans<|(AK<|(Hd rfl).trans Y).trans rfl⟩
def Nv (n:Nat) (S:QS) (a:List MV):Option (AV×QS):=match a with
 | []=>(match rsz n S (S.q+1)with|some b=>some (.v .none,b)|none=>none)
 |_=>none
def SA (n:Nat) (S:QS) (a:List MV):Option (AV×QS):=match a with
 | [.int<|.ofNat q]=>(match rsz n S q with|some b=>some (.v .none,b)|none=>none)
 |_=>none
set_option tactic.hygienic true in theorem Ko (k:KF Z) (g:KI Z) (f:KJ Z) (b:KR Z):Sp Z 22 345 (sQ Nv):=by
 refine gG (Kn k g f b) fun M p c=>xE2 (IK b.Lo) fun o w=>xA2 fun l i=>Sp.toQ (D6 (names:=["self","quotient"]) (rest:=["hashes","i","_h"]) (n:=21) (na:=1) (dflt:=[.none]) (dm:=[.none]) b.Lm (fun s d x t v B y X m=>ln1 m fun a z=>rE z<|binds_K X rfl l i rfl rfl) (.cons .none .nil) p) ?_
 .intro n S A r u h;unfold Nv at h;split at h
  .split at h
   .rename_i C e;cases h;exact xE1 (c S u (S.q+1) n none none none e .none<|.inl ⟨rfl,rfl⟩) fun r=>fun j=>CM rfl j
   .cases h
  .cases h
theorem mv74 {d:Type}{f:Nat->Option d}{r:d}{g:Prop}(e:(match c with | [MV.int<|Int.ofNat a]=>f a|_=>none)=some r) (l:∀ a,c=[MV.int<|Int.ofNat a]->f a=some r->g):g:=by
 generalize h:c=b at e;revert e h;exact List.casesOn b (fun _=>xns) fun k j=>MV.casesOn k (fun _=>xns) (fun _ _=>xns) (fun i=>Int.casesOn i (fun m=>List.casesOn j (l _) fun _ _ _=>xns) fun _ _=>xns) (fun _ _=>xns) (fun _ _=>xns) (fun _ _=>xns) fun _ _=>xns
theorem P2 (k:KF Z) (i:KI Z) (g:KJ Z) (c:KR Z):Sp Z 22 345 (sQ SA):=by
 refine gG (Kn k i g c) fun M t d=>xE2 (IK c.Lo) fun o x=>xA2 fun m j=>Sp.toQ (D6 (names:=["self","quotient"]) (rest:=["hashes","i","_h"]) (n:=21) (na:=2) (dflt:=[]) (dm:=[]) c.Lm (fun s f y u w C A X p=>?_) .nil t) ?_
 .exact ln2 p fun a b z=>rE z<|binds_K X rfl m j rfl rfl
 intro n S B r v h;unfold SA at h;refine mv74 h ?_
 .clear h;refine fun q=>fun z=>rE z fun h=>mv40 h ?_
  .clear h;intro D e h;cases h;exact xE1 (d S v q n none none none e (.int q)<|.inr rfl) fun r=>fun l=>CM rfl l
def Dd (n:Nat) (S:QS):List Nat->Option (AV×QS)
 | [h]=>(match S.due with
  |true=>(match rsz n S (S.q+1)with|some a=>a.JN n h|none=>none)
  |false=>S.JN n h)
 |_=>none
theorem Dl (k:KF Z) (i:KI Z) (g:KJ Z) (f:KR Z):Sp Z 24 295 (sQ<|cQ Dd):=by
 refine Sp.toQ (D6 (names:=["self","_hash"]) (rest:=["key_quotient","key_remainder"]) (n:=23) (na:=2) (dflt:=[]) (dm:=[]) k.JE (Bj fun _ _ _ _ _ _ _ _=>.of_eq rfl) .nil<|AA (Ao (Al<|BW (A3<|An 0 k.DQ C8)<|BW (AW (AJ (AD AE)<|An 0 k.BV Ba)<|AJ (AD AE)<|An 0 k.DK EC) Bt) (AA (Ax<|BF 0 f.IW (Ko k i g f) Aa) AI) AI)<|AA (Ab 1<|Ac<|AJ (AB 1)<|An 0 k.a_r JI)<|AA (Ab 2<|Ac<|AJ (AB 1)<|AJ (AJ (AD AE)<|An 0 k.a_r JI)<|AD AE)<|AA (Ao (FO (BF 0 k.Bu (Bw k)<|AN (AB 2)<|AN (AB 3) Aa)<|Ac<|GG<|AD AE) (AA (Ax<|BF 0 k.Qv (Vf k)<|AN (AB 2)<|AN (AB 3) Aa) AI) AI) AI) fun n S q p r h=>xE1 (C9 h) fun l=>xA2 fun b=>rE b fun a=>?_;unfold Dd at a;refine mv63 a ?_
 .refine fun x=>fun z=>rE z fun a=>bT S.due (fun c=>?_) fun c=>?_
  .rw [c]at a;dsimp only at a;refine mv40 a ?_
   .refine fun o m a=>xP (EG a)<|xA2 fun b=>rE b fun e=>?_;have j:Nv n S []=some (.v .none,o):=by unfold Nv;dsimp only;exact rE m rfl
    exact CM rfl<|(AK<|(Df (pl1:=[some<|.qf S,some<|.v<|.int x,none,none])<|Oq (x:=0) |>.trans (by refine rE c ?_;rfl)).trans<|(AK<|A6<|BI rfl rfl j).trans rfl).trans e
  .rw [c]at a;exact xP (EG a)<|xA2 fun b=>rE b fun e=>CM rfl<|(AK<|CE (pl1:=[some<|.qf S,some<|.v<|.int x,none,none])<|Oq (x:=0) |>.trans (by refine rE c ?_;rfl)).trans e
theorem CS.perm (H:CS S l) (p:l.Perm c):CS S c:=
 ⟨H.has.iff fun q r _=>⟨fun⟨h,b,a⟩=>⟨h,p.mem_iff.mp b,a⟩,fun⟨h,b,a⟩=>⟨h,p.mem_iff.mpr b,a⟩⟩,p.nodup_iff.mp H.nd,fun h d=>H.lt h<|p.mem_iff.mpr d,H.q3,H.q9⟩
theorem CS.new (b:3<=q/\q<=9):CS (QS.new q a d) []:=by
 refine⟨⟨0,fun _=>[],fun i=>i,⟨rfl,rfl,fun i _ _=>by simp,rfl,fun i _ _=>rfl,fun i k r _ _ h=>by simp at h,fun t _ _ _ _=>⟨rfl,rfl⟩,fun i _ _=>.nil⟩,fun i r _ _=>by simp⟩,dC,(fun h c=>nomatch c),b.1,b.2⟩
theorem CS.adds :∀(l:List Nat) (S:QS) (a:List Nat),CS S a->l.Nodup->(∀ h∈l,h<2^32/\h∉a)->S.n+1<n->a.length+l.length+1<=S.n->S.cnt+l.length<=S.n->(S.auto=true->100*(S.cnt+l.length)<85*S.n+100)->
  ∃ d,O5 n S l=some d/\d.q=S.q/\d.auto=S.auto/\d.hf=S.hf/\d.cnt=S.cnt+l.length/\CS d (a++l):=by
 intro l;induction l with
 |nil=>intro S a H _ _ _ _ _ _;exact⟨S,rfl,rfl,rfl,rfl,rfl,rE (cb ..) H⟩
 |cons x xs G=>
  refine fun S a H F r A u t s=>bc fun m=>xP (bL.mp F)<|xA2 fun p o=>xP (r x<|.head _)<|xA2 fun E z=>m ?_;rw[cJ]at u t s;refine bc fun m=>xE1 (H.JN E A fun _=>⟨(la3 0x182202102482008040011) t,(la3 0x18220210244904012010440201) u⟩) fun g=>xA6 fun Q C B P k y=>m ?_;rw[b5 z]at k;have I:S.due=false:=by
   unfold QS.due;refine bE S.auto (fun j=>rfl) fun j=>?_
   .exact rE (Bool.true_and ..)<|bK fun J=>have:=s j;(la3 0x6088080192805568490421323110c8c02ab0c2) J this
  have f:JO n S [x]=some (.v .none,g):=by
   unfold JO;dsimp only;exact rE I Q
  have c:g.n=S.n:=by exact(rE C rfl:2^g.q=2^S.q)
  have w:CS g (a++[x]):=by unfold BB at y;rw[b5 z]at y;exact y
  obtain⟨d,O,N,M,L,K,D⟩:=G g (a++[x]) w o (fun h i=>⟨(r h<|.tail _ i).1,fun e=>by
    refine T1 (X1.mp e) (fun e=>(r h<|.tail _ i).2 e) fun e=>?_
    .rw [bO.mp e]at i;exact p i⟩) ((la3 0x16090088002102482110240212) A c) (rE cE<|rE List.length_singleton<|(la4 0x1a09008c1023024488401202024409009202) u c) ((la5 0x1982602404084984009009108c2020200203) t k c) (fun j=>by
    have:=s<|B▸j;exact (la5 0x13eefc545826650064a8155a1221184c8c5010212610020064a4155a100132313) k c this)
  refine⟨d,?_,N.trans C,M.trans B,L.trans P,by refine rE K<|rE k<|rE cJ ?_;exact la2 0x610408488401081201220,by rw[c6]at D;exact D⟩;conv=>lhs;whnf
  exact rE f O
theorem CS.rsz (H:CS S a)(e:3<=q/\q<=9) (o:S.cnt<2^q) (f:a.length+1<=2^q) (i:2^q+1<n) (m:S.auto=true->100*a.length<85*2^q+100) :
  ∃ c,rsz n S q=some c/\c.q=q/\c.auto=S.auto/\c.hf=S.hf/\c.cnt=a.length/\CS c a:=by
 refine bc fun g=>gG H.hsh fun l r d=>have b:=d.length_eq;?_;obtain⟨c,w,v,u,t,s,x⟩:=CS.adds (n:=n) l (QS.new q S.auto S.hf) [] (CS.new e) (d.nodup_iff.mpr H.nd) (fun h k=>⟨H.lt h<|d.mem_iff.mp k,fun j=>nomatch j⟩) i (by simp only[List.length_nil];exact((la3 0x5824022000840920804090005202) f b:0+l.length+1<=2^q))
  (by exact((la3 0x16090088002102482010000a02) f b:0+l.length<=2^q)) (fun p=>by
   have:=m p;exact((la3 0x7f06d024650064a2155a20c8c480020064a2155a000532312) b this:100*(0+l.length)<85*2^q+100))
 refine g ⟨c,?_,v,u,t,by refine rE s<|rS b ?_;show 0+l.length=_;exact la1 0x18410200000a20,x.perm d⟩;unfold QF.rsz;exact iP ⟨o,e,(la1 0x1822020200a0000e128001) H.Pw⟩<|rE r w
theorem CS.Dd (H:CS S a)(G:h<2^32) (w:2*S.n+1<n) (F:a.length+1<=S.n) (d:a.length<=S.cnt)
  (m:S.auto=false->h∉a->S.cnt<S.n/\a.length+2<=S.n) (E:S.auto=true->S.q<=8/\S.cnt<S.n/\100*S.cnt<85*S.n+100) :
  ∃ b,Dd n S [h]=some (.v .none,b)/\S.q<=b.q/\b.q<=S.q+1/\(S.auto=false->b.q=S.q)/\b.auto=S.auto/\b.hf=S.hf/\CS b (BB a h)/\(S.auto=false->b.cnt=S.cnt+if h∈a then 0 else 1)/\
   (b.auto=true->b.cnt<b.n/\100*b.cnt<85*b.n+100)/\(BB a h).length<=b.cnt/\b.cnt<=S.cnt+1/\(b.q=S.q\/85*S.n<=100*S.cnt):=by
 have P:=H.Pw;have t:8<=S.n:=Nat.pow_le_pow_right (n:=2) (la [] [] 0x20840888110<|by kernel_rfl) H.q3;have s:(BB a h).length=a.length+if h∈a then 0 else 1:=by
  unfold BB;split
  .exact la1 0x18410202010020
  .exact rE cE<|rE List.length_singleton rfl
 refine bT S.due (fun k=>?_) fun k=>?_
 .unfold QS.due at k;rw[bV]at k;refine bc fun J=>xP k<|xA2 fun e i=>have i:=bU i;xP (E e) (xA3 fun I l D=>have f:2^(S.q+1)=2*S.n:=rE (Nat.pow_succ ..)<|rE (Nat.mul_comm ..) rfl;xE1 (H.rsz (n:=n) (q:=S.q+1) ⟨(la1 0x608808019012011901) H.q3,(la1 0x60880a080092240201) I⟩ (rE f<|(la2 0xc11010800220098011) l) (rE f<|(la3 0x40118188202400008026240202) d l) (rE f<|(la2 0x6088084090004d088120009a11) w) fun _=>rE f<|(la3 0x28a2046ca00c9442ab4419189000000c9440135568032312) d D) fun B=>xA6 fun N A M L z O=>?_);have g:B.n=2*S.n:=by exact(rE A (rE f rfl):2^B.q=_)
  refine xE1 (O.JN G (n:=n) ((la3 0x5824022004c0108124009a110240212) w g) fun _=>⟨(la5 0x6704e0480098822000901813040040014) d l z g,(la4 0x7304a06600988230404800010440203) d l g⟩) fun b=>xA6 fun y j u x p C=>J ?_;have o:b.n=2*S.n:=by exact(rE j g:2^b.q=_)
  refine⟨b,?_,(la3 0xd0250220208480440840002) A j,(la3 0x2a094088002122110212210002) A j,(fun h=>by rw[e]at h;exact xtf h),u.trans M,x.trans L,C,(fun h=>by rw[e]at h;exact xtf h),fun _=>?_,rE s<|rE p<|rE z ⟨la2 0x2084084004200200,Nat.add_le_add d i01,.inr i⟩⟩
  .unfold QF.Dd;dsimp only;rw[show S.due=true by unfold QS.due;rw[e,Bool.true_and];exact Ti i];dsimp only;exact rE N y
  .have:b.cnt<=B.cnt+1:=rE p<|Nat.add_le_add_left i01 _;exact (la6 0x3d2b41911561c56d7d9b6dcf081842455895080020026208828240604c1000064a2155a00c8c4400175) d l z o this
 .have r:S.auto=true->100*S.cnt<85*S.n:=fun e=>by
   unfold QS.due at k;rw[e,Bool.true_and]at k;have:=of_decide_eq_false k;exact (la2 0x18220200c8c42ab0610aac032311) this
  obtain⟨b,y,j,u,x,p,C⟩:=H.JN G (n:=n) ((la2 0xc110108120009a110240211) w) fun K=>by
   exact bE S.auto (fun e=>m e K) fun e=>xP (E e)<|xA3 fun _ l D=>have:=r e;⟨l,(la3 0x31225be0246510aac8323111040800010440203) d t this⟩
  have o:b.n=S.n:=by exact(rE j rfl:2^b.q=_)
  refine⟨b,?_,(la2 0x3023020020840001) j,(la2 0xa08c08400212210001) j,fun _=>j,u,x,C,fun _=>p,fun e=>?_,rE s<|rE p ⟨(la3 0x182202200004104200201) d,Nat.add_le_add_left i01 _,.inl j⟩⟩
  .unfold QF.Dd;dsimp only;exact rE k y
  .have:=r<|u▸e;have:b.cnt<=S.cnt+1:=rE p<|Nat.add_le_add_left i01 _;exact (la4 0x259dd9371004f9a44c184665126100020aacc32312020884100064a2155a00c8c4400174) t o (by assumption) this
structure KL (Z:PX):Prop where
 ZE:FnAt Z.K 478 "_law_code" "_law_code" (top 12) .none
 ZF:FnAt Z.K 485 "_law_hash" "_law_hash" (top 13) .none
 XZ:FnAt Z.K 492 "_law_other" "_law_other" (top 14) .none
 GR:nsIn Z.K mainGlobals "_law_code" = some (some<|.ref 478)
 Xa:keepIn Z.K (.ref 478)=true
 ZG:nsIn Z.K mainGlobals "ord" = some none
def Kp (f g:PE):PE:=fun a=>match f a,mI (g a)with
 |some (.str t),some (.ofNat k)=>if k<1000 then(match t.cps[k]? with|some x=>some (.str ⟨#[x]⟩)|none=>none)else none
 |_,_=>none
theorem mv75 {j:Type}{k:Str->Nat->Option j}{r:j}{g:Prop}(e:(match i,h with|some (MV.str b),some (Int.ofNat a)=>k b a|_,_=>none)=some r) (p:∀ b a,i=some (MV.str b)->h=some (Int.ofNat a)->k b a=some r->g):g:=by
 generalize m:i=f at e;generalize l:h=d at e;revert e m l;exact Option.casesOn f (fun _ _=>xns) fun o=>MV.casesOn o (fun _ _=>xns) (fun _ _ _=>xns) (fun _ _ _=>xns) (fun s=>Option.casesOn d (fun _ _=>xns) fun n=>Int.casesOn n (fun q=>p _ _) fun _ _ _=>xns) (fun _ _ _=>xns) (fun _ _ _=>xns) fun _ _ _=>xns
theorem Fy {f:PE}(X:Pu Z c b f)(W:Pu Z c a g)(Y:autoParam (Cy a=true) rf):Pu Z c (.Subscript b a w) (Kp f g):=by
 refine fun A K L s m ls G P Q E O F J R C q=>bc fun S=>?_;obtain⟨M,I,r,i,e,h⟩:=C;refine S ?_;unfold Kp at e;refine mv75 e ?_
 .intro t k e1 e2 e;obtain⟨U,e⟩:=Au e;refine mv53 e ?_
  .intro x N e;revert h;refine soE e fun h=>Subscript_<|X (P:=fun v H=>v=.str t/\H=G) O F J R ⟨M,I,_,i,e1,rfl,rfl⟩ fun v mv H s1 y V u F1 R1=>?_;obtain⟨o,n⟩:=V;revert y;refine rE o fun y=>?_;revert i h;refine rS n fun i h=>W (P:=fun v D=>v=.int (k:Nat)/\D=H) O F1 J R1 ⟨M,I,_,i,BA e2,rfl,rfl⟩ fun v2 T D s2 d B p F2 R2=>?_;obtain⟨l,j⟩:=B;revert d;refine rE l fun d=>?_;revert h;refine rS j fun h=>VR.kst y fun _ z=>rE z ?_;(refine VR.kin d fun _ z=>?_;refine rE z ?_);refine tail_any (typeIs_str _ _ _) PySem.F.slot_str_getitem.lookup (PySem.P.getItem_str (by rw[cm];exact⟨bK<|f63 k,bK<|e63 U⟩) ?_<|q _ _ D _ (.str _ _) h ((u.trans p).trans<|Sm.t _ _) F2 R2)<|KG Y _ _;unfold seqIndex?;have e3:(0<=(k:Int)&&(k:Int)<t.length)=true:=by
    exact rE (bV ..) ⟨Ti<|dJ,Ti<|by exact(dP ((dF.mp N).1):(k:Int)<(t.cps.size:Int))⟩
   simp only[show¬ ((k:Int)<0) by exact la1 0x8210202000460,if_false];refine iP (by simpa using e3) ?_;simpa using N
noncomputable def ZH:List MV->St->(MV->St->Prop)->Prop:=fun a G P=>match a with
 | [.str ⟨⟨[x]⟩⟩]=>P (.int (x:Nat)) G
 |_=>False
theorem mv76 {d:Nat->Prop}{g:Prop}(e:match b with | [MV.str<|Str.mk<|Array.mk [a]]=>d a|_=>False) (m:∀ a,b=[MV.str<|Str.mk<|Array.mk [a]]->d a->g):g:=by
 cases b with
 |cons l k=>induction l with
  |str j=>induction j with
   |mk i=>induction i with
    |mk h=>cases h with
     |cons n f=>induction f with
      |nil=>induction k with
       |nil=>exact m _ rfl e
       |_=>exact e.elim
      |_=>exact e.elim
     |_=>exact e.elim
  |_=>exact e.elim
 |_=>exact e.elim
theorem Xb:Bi Z 0 (.builtin "ord") ZH:=by
 intro A d L h s m G P Q E b e i F R a t q;unfold ZH at t;refine mv76 t ?_
 .refine fun _=>fun z=>?_;revert a;refine rE z fun a=>fun t=>VRs.kco a fun _ _ z g f=>rE z<|VR.kst g fun _ z=>rE z ?_;(have z:=VRs.inl f;refine rE z ?_);exact PySem.P.ord_of_char<|q _ _ G _ (.int _ _) t (Sm.t _ _) F R
noncomputable def Uc (f:PE):PE:=fun a=>match f a with
 |some (.str ⟨⟨[x]⟩⟩)=>some<|.int (x:Nat)
 |_=>none
theorem mv77 {d:Type}{f:Nat->Option d}{r:d}{g:Prop}(e:(match b with|some (MV.str<|Str.mk<|Array.mk [a])=>f a|_=>none)=some r) (m:∀ a,b=some (MV.str<|Str.mk<|Array.mk [a])->f a=some r->g):g:=by
 induction b with
 |some l=>induction l with
  |str k=>induction k with
   |mk j=>induction j with
    |mk i=>cases i with
     |cons n h=>induction h with
      |nil=>exact m _ rfl e
      |_=>exact xns e
     |_=>exact xns e
  |_=>exact xns e
 |_=>exact xns e
theorem SD {f:PE}(j:Ev Z c (.Name "ord" d)<|Br<|.bi "ord") (h:Pu Z c e f) (k:notStar e=true):Pu Z c (.Call (.Name "ord" d) [e] [] a) (Uc f):=by
 refine(FK j (AS h Az k) Xb<|cO _).weaken ?_;rintro n G P ⟨l,g,r,i,e,b⟩;unfold Uc at e;refine mv77 e ?_
 .intro x m e;revert b;exact soE e fun b=>⟨l,g,_,i,m,b⟩
theorem Nw (f:b.length+1=d) (h:M (start a b e k)=some (some m)):LK M d e k a b=some m:=by
 unfold LK;exact iP f<|rE h rfl
noncomputable def A0 (i:Nat):Nat:=i%8*536870912+i/8*134217728+i%3
inductive ZI (args:List MV) (G:St) (P:MV->St->Prop):Prop
 |mk (i:Nat) (ha:args=[.int i]) (hp:P (.int (A0 i:Nat)) G)
theorem Kq (h:b.natAbs<2^64) (a:Int):DH .Mult a b=some (a*b):=cA<|.inr h
theorem Dm (t N:Nat)(h:autoParam (0<N) dc)(a:autoParam (N<1073741824) dc):DH .FloorDiv (t:Int) (N:Int)=some ((t/N:Nat):Int):=by
 refine(iP ⟨(la1 0x608c08001102000561) h,a⟩ (rE (Int.fdiv_eq_ediv_of_nonneg _<|bX _) ?_):(if(N:Int)≠0/\(N:Int).natAbs<1073741824 then some ((t:Int).fdiv (N:Int))else none)=_);rfl
theorem Xc (d:KL Z):Sp Z 1 478 ZI:=by
 refine(DP (names:=["at"]) (rest:=[]) (n:=0) (na:=1) (dflt:=[]) (dm:=[]) d.ZE (Lq fun _ _ _ _ _ _ _=>.of_eq rfl) .nil<|CP (Dr<|AJ (AJ (AJ (AJ (AB 0)<|AD AE)<|AD AE)<|AJ (AJ (AB 0)<|AD AE)<|AD AE)<|AJ (AB 0)<|AD AE) C7).weaken ?_;rintro b G P ⟨i,a,e⟩;refine rE a ⟨[],.v<|.int i,.int i,[],.int (A0 i:Nat),.v _,rfl,have h:DH .Mod (i:Int) 8=some ((i%8:Nat):Int):=BC i 8;have g:DH .FloorDiv (i:Int) 8=some ((i/8:Nat):Int):=Dm i 8;have f:DH .Mod (i:Int) 3=some ((i%3:Nat):Int):=BC i 3;Nw rfl ?_,e⟩;simp only[start,vals,B1,JA,JB,Jt,Aj,mI,AM,AP,AL,h,g,f,Kq<|show(536870912:Int).natAbs<2^64 by decide,Kq<|show(134217728:Int).natAbs<2^64 by decide,BR];unfold A0;rewrite [Int.natCast_add,Int.natCast_add,c8,c8];rfl
theorem O6 (b:KL Z)(e:iK c) (d:c.scope.names.lookup (Str.ofString "_law_code")=some .globalImplicit) (f:(("_law_code":Str)==("__debug__":Str))=false):Ev Z c (.Name "_law_code" a) (Br<|.ref 478):=
 Be b.GR e d f
def EI (f:PE):PE:=fun a=>match mI (f a)with
 |some (.ofNat i)=>some<|.int (A0 i:Nat)
 |_=>none
theorem mv78 {f:Type}{h:Nat->Option f}{r:f}{g:Prop}(e:(match d with|some (Int.ofNat a)=>h a|_=>none)=some r) (k:∀ a,d=some (Int.ofNat a)->h a=some r->g):g:=by
 generalize i:d=b at e;revert e i;exact Option.casesOn b (fun _=>xns) fun j=>Int.casesOn j (fun l=>k _) fun _ _=>xns
theorem EJ (g:KL Z){f:PE}(l:Ev Z c (.Name "_law_code" d)<|Br<|.ref 478)(h:Pu Z c e f)(m:1<=c.n)(o:autoParam (notStar e=true) rf):Pu Z c (.Call (.Name "_law_code" d) [e] [] a) (EI f):=by
 refine(TO l g.Xa (AS h Az o) (Xc g) m).weaken ?_;rintro s G P ⟨p,j,r,k,e,b⟩;unfold EI at e;refine mv78 e ?_
 .intro i q e;revert b;exact soE e fun b=>⟨p,j,_,k,BA q,i,rfl,b⟩
theorem SE (b:KL Z)(e:iK c) (d:c.scope.names.lookup (Str.ofString "ord")=some .globalImplicit) (f:(("ord":Str)==("__debug__":Str))=false):Ev Z c (.Name "ord" a) (Br<|.bi "ord"):=
 DN b.ZG PyProof.Rows.boot_ord (.bi _) e d f
def FD (a:Nat) (x:Nat):Nat:=A0<|(x-a)%24
inductive SG (sh:Nat) (args:List MV) (G:St) (P:MV->St->Prop):Prop
 |mk (t:Str) (m2:MV) (x:Nat) (ha:args=[.str t,m2]) (hx:t.cps[0]?=some x) (h97:97<=x) (hp:P (.int (FD sh x:Nat)) G)
theorem Xd (a:KL Z):Sp Z 2 485 (SG 97):=by
 refine(DP (names:=["key","seed"]) (rest:=[]) (n:=1) (na:=2) (dflt:=[]) (dm:=[]) a.ZF (Bj fun _ _ _ _ _ _ _ _=>.of_eq rfl) .nil<|CP (Dr<|EJ a (O6 a rfl rfl rfl) (AJ (AJ (SD (SE a rfl rfl rfl) (Fy (AB 0)<|AD AE) rfl)<|AD AE)<|AD AE)<|by decide) C7).weaken ?_;rintro f G P ⟨t,e,x,b,g,d,h⟩;refine rE b ⟨[],.v<|.str t,.str t,[e],.int (FD 97 x:Nat),.v _,rfl,?_,h⟩;have l:DH .Sub (x:Int) 97=some ((x-97:Nat):Int):=by show some ((x:Int)-97)=_;exact rE (show(x:Int)-97=((x-97:Nat):Int) by exact (la2 0x628a6885020061a0045000061a0200030d000352) d rfl) rfl
 have j:DH .Mod ((x-97:Nat):Int) 24=some (((x-97)%24:Nat):Int):=BC _ 24;have i:∀ k,Kp (AM 0) (AP<|.int 0) (start (.v<|.str t) [e] [] k)=some (.str ⟨#[x]⟩):=by
  intro k;refine(rE g ?_:(if 0<1000 then(match t.cps[0]? with|some x=>some (MV.str ⟨#[x]⟩)|none=>none)else none)=_);rfl
 refine Nw rfl ?_;simp only[JA,JB,Jt,EI,Aj,Uc,mI,AP,i,l,j];rfl
theorem Ud (a:KL Z):Sp Z 2 492 (SG 96):=by
 refine(DP (names:=["key","seed"]) (rest:=[]) (n:=1) (na:=2) (dflt:=[]) (dm:=[]) a.XZ (Bj fun _ _ _ _ _ _ _ _=>.of_eq rfl) .nil<|CP (Dr<|EJ a (O6 a rfl rfl rfl) (AJ (AJ (SD (SE a rfl rfl rfl) (Fy (AB 0)<|AD AE) rfl)<|AD AE)<|AD AE)<|by decide) C7).weaken ?_;rintro f G P ⟨t,e,x,b,g,d,h⟩;refine rE b ⟨[],.v<|.str t,.str t,[e],.int (FD 96 x:Nat),.v _,rfl,?_,h⟩;have l:DH .Sub (x:Int) 96=some ((x-96:Nat):Int):=by show some ((x:Int)-96)=_;exact rE (show(x:Int)-96=((x-96:Nat):Int) by exact (la2 0x62831885020060a0045000061a02000305000352) d rfl) rfl
 have j:DH .Mod ((x-96:Nat):Int) 24=some (((x-96)%24:Nat):Int):=BC _ 24;have i:∀ k,Kp (AM 0) (AP<|.int 0) (start (.v<|.str t) [e] [] k)=some (.str ⟨#[x]⟩):=by
  intro k;refine(rE g ?_:(if 0<1000 then(match t.cps[0]? with|some x=>some (MV.str ⟨#[x]⟩)|none=>none)else none)=_);rfl
 refine Nw rfl ?_;simp only[JA,JB,Jt,EI,Aj,Uc,mI,AP,i,l,j];rfl
noncomputable def O7 (K:Frag) (C:Addr) (a:Str):Bool:=(findIn K (.ref C) "__getattribute__" == some (some<|.builtin "object.__getattribute__"))&&(findIn K (.ref C) "__getattr__" == some none)&&(findIn K (.ref C) a==some none)
structure KU (Z:PX):Prop where
 Xe:O7 Z.K CQ "_hash_func" = true
 Xf:keepIn Z.K (.ref 485)=true
 Ue:keepIn Z.K (.ref 492)=true
def EK (S:QS) (x:Nat):Option Nat:=if 97<=x then(if S.hf=485 then some (FD 97 x)else if S.hf=492 then some (FD 96 x)else none)else none
def FE (i:Nat) (f:PE):PE:=fun a=>match AL a i,f a with
 |some (.qf S),some (.str t)=>(match t.cps[0]? with
  |some x=>(match EK S x with|some h=>some (.int (h:Nat))|none=>none)
  |none=>none)
 |_,_=>none
theorem mv79 {j:Type}{k:QS->Str->Option j}{r:j}{g:Prop}(e:(match i,h with|some (AV.qf b),some (MV.str a)=>k b a|_,_=>none)=some r) (p:∀ b a,i=some (AV.qf b)->h=some (MV.str a)->k b a=some r->g):g:=by
 generalize m:i=f at e;generalize l:h=d at e;revert e m l;exact Option.casesOn f (fun _ _=>xns) fun o=>AV.casesOn o (fun _ _ _=>xns) (fun _ _ _=>xns) (fun _ _ _ _=>xns) (fun _ _ _ _=>xns) (fun _ _ _ _=>xns) (fun s=>Option.casesOn d (fun _ _=>xns) fun n=>MV.casesOn n (fun _ _=>xns) (fun _ _ _=>xns) (fun _ _ _=>xns) (fun q=>p _ _) (fun _ _ _=>xns) (fun _ _ _=>xns) fun _ _ _=>xns) (fun _ _ _=>xns) (fun _ _ _ _=>xns) fun _ _=>xns
theorem E4 (k:KF Z)(kl:KL Z)(ku:KU Z)(i:Nat)(h:Pu Z c e f)(hi:autoParam (c.vs[i]?=some x) rf)(hk:autoParam (iK c) rf)(hx:autoParam (iL c x) rf)(hd:autoParam (jD x) rf)(h0:autoParam (notStar e=true) rf)(hp:autoParam ((b.endLine==d.line)=true) rf)(hn:autoParam (2<=c.n) dc):Pu Z c (.Call (.Attribute (.Name x xp) "_hash_func" b) [e,.Constant (.int 0) O a] [] d) (FE i f):=by
 refine fun A av L s m ls G P Q E N F lr R ar q=>bc fun j=>?_;obtain⟨fs,pl,r,lo,g,hP⟩:=ar;refine j ?_;unfold FE at g;refine mv79 g ?_
 .clear g;refine fun S t e1 e2 g=>mv53 g ?_
  .clear g;refine fun y ey g=>mv53 g ?_
   .clear g;refine fun hh u g=>bc fun j=>have z:=so g;?_;clear g;subst z;refine have J:Ea Z c [e,.Constant (.int 0) O a] (DC (lP f)<|DC (Br<|.int 0) Hz):=AS h (AS AE Az) h0;xE1 (Cm (o:=.Name x xp) (args:=[e,.Constant (.int 0) O a]) (apos:=b) (pos:=d) rfl J.2 hp "_hash_func"<|c.env L) fun aa=>fun he=>gH (lo.qf e1) fun D d1 d2 d3=>j<|MethodCall_ ((AQ i hi hk hx hd) (P:=fun v G1=>v=.ref D.x/\G1=G) N F lr R (by unfold B3;exact rE d2 ⟨rfl,rfl⟩) fun v mv G1 s1 l aq W F1 R1=>bc fun j=>xP aq<|xA2 fun H=>?_) he;revert l;refine rE H fun l=>fun T=>?_;subst T;have z:=VR.irf l;revert j;refine rE z fun j=>gG d3.id fun kk aw ao=>xE2 (R1.inst d3.ix ao) fun es nn=>xA3 fun I hz ax=>j<|have hu:=ku.Xe;?_;unfold O7 at hu;simp only[bV]at hu;refine bc fun j=>xP hu<|xA2 fun H=>?_;revert H;refine xA2 fun u1 u2=>fun u3=>j<|method_usual (N.X.keeps F1.keep) I (cD.mp u1) (cD.mp u2) (cD.mp u3) rfl<|bc fun j=>xP (Gv.2 (Own.qf d3)<|show aQ (fun S=>.ref S.hf) (.qf S)=some (.ref S.hf)from rfl)<|xA2 fun hb=>xF1 fun x2=>xA2 fun ab hI=>j ?_;cases ab;refine Ij k.Ht N F1 R1 (k:=fun v=>v=.ref S.hf) (FR hI fun _ _ fl h=>rE h ⟨hb,rfl⟩) fun v mv tk l ae=>?_;revert l;refine rE ae fun l=>have z:=VR.irf l;rE z ?_;have M:∀(f':Addr) (Y:Nat),S.hf=f'->keepIn Z.K (.ref f')=true->Sp Z 2 f' (SG Y)->97<=y->hh=FD Y y->wpAny Z.md A (callWith d (.ref S.hf) [] (backTo d<|starEach [e,.Constant (.int 0) O a]<|c.env L) []) Q E {s1 with toks:=tk}:=by
     refine fun f' Y ak ah hS p ai=>rE ak<|Cc (first:=[]) (s:={s1 with toks:=tk}) ah J N F1 lr R1 (P:=fun ms G2=>ms=[.str t,.int 0]/\G2=G1) ⟨fs,pl,_,lo,e2,rfl,rfl⟩ fun vs ms G2 s2 B ag V F2 R2=>xP ag<|xA2 fun H=>?_;revert B;refine rE H fun B=>fun T=>?_;subst T;exact(hS.more hn).call N F2 R2 B ⟨t,.int 0,y,rfl,ey,p,rS ai hP⟩ fun v mv G3 s3 l af U F3 R3=>q v mv G3 s3 l af (((W.trans<|Sm.t _ _).trans V).trans U) F3 R3
    unfold EK at u;refine xP (Au u)<|xA2 fun p u=>?_;by_cases C:S.hf=485
    .rw [cA C]at u;exact M 485 97 C ku.Xf (Xd kl) p (cw u).symm
    .rw [b5 C]at u;exact xP (Au u)<|xA2 fun aj u=>M 492 96 aj ku.Ue (Ud kl) p (cw u).symm
def Ug (S:QS) (a:List MV):Option Nat:=match a with
 | [.str t]=>(match t.cps[0]? with|some x=>EK S x|none=>none)
 |_=>none
def byKey (f:Nat->QS->List Nat->Option (AV×QS)) (n:Nat) (S:QS) (a:List MV):Option (AV×QS):=match Ug S a with
 |some h=>f n S [h]
 |none=>none
theorem mv80 {d:Type}{f:Str->Option d}{r:d}{g:Prop}(e:(match c with | [MV.str a]=>f a|_=>none)=some r) (k:∀ a,c=[MV.str a]->f a=some r->g):g:=by
 generalize h:c=b at e;revert e h;exact List.casesOn b (fun _=>xns) fun j i=>MV.casesOn j (fun _=>xns) (fun _ _=>xns) (fun _ _=>xns) (fun l=>List.casesOn i (k _) fun _ _ _=>xns) (fun _ _=>xns) (fun _ _=>xns) fun _ _=>xns
theorem Fz (e:Ug S a=some h):∃ t,a=[.str t]/\∀(r:PL),FE 0 (AM 1) (some (.qf S)::some (.v<|.str t)::r)=some (.int (h:Nat)):=by
 unfold Ug at e;refine mv80 e ?_
 .refine fun t=>fun z=>rE z fun e=>mv53 e ?_
  .intro x b e;refine⟨t,rfl,fun r=>?_⟩;show(match t.cps[0]? with|some x=>(match EK S x with|some h=>some (MV.int (h:Nat))|none=>none)|none=>none)=_;refine rE b ?_;dsimp only;exact rE e rfl
section
variable {Z:PX}(k:KF Z) (e:KI Z) (d:KJ Z) (c:KR Z) (b:KL Z) (a:KU Z)
include k e d c b a
theorem Xg:Sp Z 26 288 (sQ<|byKey Dd):=by
 refine Sp.toQ (D6 (names:=["self","key"]) (rest:=["_hash"]) (n:=25) (na:=2) (dflt:=[]) (dm:=[]) k.Zl (Bj fun _ _ _ _ _ _ _ _=>.of_eq rfl) .nil<|AA (Ab 1<|Ac<|E4 k b a 0<|AB 1)<|AA (Ax<|BF 0 k.DX (Dl k e d c)<|AN (AB 2) Aa) AI) fun n S p r q h=>?_;unfold byKey at h;refine mv53 h ?_
 .refine fun f l h=>xE1 (Fz l) fun t=>xA2 fun g=>rE g fun j=>?_;have o:r=.v .none:=by
   unfold Dd at h;dsimp only at h;split at h
   .split at h
    .exact (EG (n:=n) (x:=f) h).1
    .exact xns h
   .exact (EG (n:=n) (x:=f) h).1
  revert h;exact rE o fun h=>CM rfl<|(AK<|CN (pl':=start (.qf S) [.str t] [] 1) (m:=.int (f:Nat))<|by unfold up;refine rE (show FE 0 (AM 1) (start (.qf S) [.str t] [] 1)=some (.int (f:Nat))from j [none]) ?_;rfl).trans<|(AK<|A6<|BI rfl rfl<|IE.trans h).trans rfl
theorem P4:Sp Z 26 302 (sQ<|byKey Mj):=by
 refine Sp.toQ (D6 (names:=["self","key"]) (rest:=["_hash"]) (n:=25) (na:=2) (dflt:=[]) (dm:=[]) k.Te (Bj fun _ _ _ _ _ _ _ _=>.of_eq rfl) .nil<|AA (Ab 1<|Ac<|E4 k b a 0<|AB 1)<|AA (Ax<|BF 0 k.Hs (G7 k)<|AN (AB 2) Aa) AI) fun n S p r q h=>?_;unfold byKey at h;refine mv53 h ?_
 .refine fun f l h=>xE1 (Fz l) fun t=>xA2 fun g=>rE g fun j=>?_;have o:r=.v .none:=by
   unfold Mj at h;dsimp only at h;split at h
   .exact BH h rfl
   .exact xns h
  revert h;exact rE o fun h=>CM rfl<|(AK<|CN (pl':=start (.qf S) [.str t] [] 1) (m:=.int (f:Nat))<|by unfold up;refine rE (show FE 0 (AM 1) (start (.qf S) [.str t] [] 1)=some (.int (f:Nat))from j [none]) ?_;rfl).trans<|(AK<|A6<|BI rfl rfl<|IE.trans h).trans rfl
omit e d c in
theorem Mt:Sp Z 12 316 (sQ (byKey EV)):=by
 refine Sp.toQ (D6 (names:=["self","key"]) (rest:=["_hash"]) (n:=11) (na:=2) (dflt:=[]) (dm:=[]) k.WY (Bj fun _ _ _ _ _ _ _ _=>.of_eq rfl) .nil (AA (Ab 1 (Ac (E4 k b a 0 (AB 1)))) (AA (CC (BF 0 k.Ds (DY k) (AN (AB 2) Aa))) AI))) ?_
 intro n S as r S' h;unfold byKey at h;refine mv53 h ?_
 .clear h;intro hh e1 h;refine xE1 (Fz e1) fun t=>xA2 fun z0=>?_;refine rE z0 ?_;intro e2
  obtain⟨m,rfl⟩:∃ m,r=.v m:=by
   unfold EV at h;dsimp only at h
   split at h
   .split at h
    .refine BH h ?_;exact⟨_,rfl⟩
    .exact xns h
   .exact xns h
  refine Co (pl:=[some (.v (.str t)),some (.v (.int (hh:Nat)))]) rfl ((AK (CN (pl':=start (.qf S) [.str t] [] 1) (m:=.int (hh:Nat)) (by unfold up;refine rE (show FE 0 (AM 1) (start (.qf S) [.str t] [] 1)=some (.int (hh:Nat))from e2 [none]) ?_;rfl))).trans (Ci ?_));unfold It;refine rE (BI (S:=S) (as:=ofN [hh]) rfl rfl (IE.trans h)) ?_;rfl
omit e d c in
theorem Nx:Sp Z 13 216 (sQ (byKey EV)):=by
 refine Sp.toQ (D6 (names:=["self","val"]) (rest:=[]) (n:=12) (na:=2) (dflt:=[]) (dm:=[]) k.Ju (Bj fun _ _ _ _ _ _ _ _=>.of_eq rfl) .nil (AA (CC (BF 0 k.Qs (Mt k b a) (AN (AB 1) Aa))) AI)) ?_
 intro n S as r S' h;have h0:=h;unfold byKey at h;refine mv53 h ?_
 .clear h;intro hh e1 h;refine xE1 (Fz e1) fun t=>xA2 fun z0=>?_;revert h0;refine rE z0 ?_;intro h0;intro _
  obtain⟨m,rfl⟩:∃ m,r=.v m:=by
   unfold EV at h;dsimp only at h
   split at h
   .split at h
    .refine BH h ?_;exact⟨_,rfl⟩
    .exact xns h
   .exact xns h
  refine Co (pl:=[some (.v (.str t))]) rfl (Ci ?_);unfold It;refine rE (BI (S:=S) (as:=[.str t]) rfl rfl h0) ?_;rfl
end
noncomputable def HA (n:Nat):QS->List Nat->Option QS
 |S,[]=>some S
 |S,h::t=>match Dd n S [h]with
  |some (_,a)=>HA n a t
  |none=>none
def cM (n:Nat):FC:=fc 352 "QuotientFilter.merge" (BP 10 20) ["self","second","_h"] n
def mgF:Stmt:=nth (BO<|BP 10 20) 1
theorem Xh (h:Dd n S [x]=some (r,a)):r=.v .none:=by
 unfold Dd at h;dsimp only at h;split at h
 .split at h
  .exact (EG (n:=n) (x:=x) h).1
  .exact xns h
 .exact (EG (n:=n) (x:=x) h).1
theorem Uh (k:KF Z) (e:KI Z) (d:KJ Z) (c:KR Z):∃ X,Bx Z (cM 25) (UL mgF) X/\∀(S a:QS) (b:AV) (x n:Nat) (r:AV),Dd n S [x]=some (r,a)->X n [some<|.qf S,some b,some<|.v<|.int (x:Nat)]=some (.next,[some<|.qf a,some b,some<|.v<|.int (x:Nat)]):=by
 refine⟨_,(AA (Ax<|BF 0 k.DX (Dl k e d c)<|AN (AB 2) Aa) AI),fun S a b x n r h=>have g:=Xh h;?_⟩;revert h;exact rE g fun h=>have f:cQ Dd n S (ofN [x])=some (.v .none,a):=IE.trans h;(AK<|A6<|BI rfl rfl f).trans rfl
inductive Xi (ls:LS) (G:St) (P:MF->LS->St->Prop):Prop
 |mk (n:Nat) (fs:FS) (S T S':QS) (l:List Nat) (x3:Option AV) (lo:LN G fs [some<|.qf S,some<|.qf T,x3] ls) (hl:hsh T=some l) (ha:HA n S l=some S')
  (hp:∀ G' fs' ls' x3',LN G' fs' [some<|.qf S',some<|.qf T,x3'] ls'->FmN fs G fs' G'->ls'.head?=ls.head?->(ls'[1]?).join=(ls[1]?).join->P .next ls' G')
theorem Xj:∃ f e c b a d,mgF=.For (.Name "_h" f) (.Call (.Attribute (.Name "second" e) "hashes" c) [] [] b) (UL mgF) [] a/\(c.endLine==b.line)=true/\d=a:=⟨_,_,_,_,_,_,rfl,rfl,rfl⟩
inductive MgI (Z:PX) (h₀:Heap) (L ga:Addr) (gi:Nat) (L' x:Addr) (T:QS) (ls:LS) (fs:FS) (G:St) (n:Nat) (S':QS) (s1:Shared) (kk:Nat) (s2:Shared):Prop
 |mk (xs:List Nat) (m2:Str->Option Value) (ls2:LS) (G2:St) (fs2:FS) (S2:QS) (x3:Option AV) (fg2:List Addr) (h1:kk=xs.length) (h2:Fr h₀ L s2.heap m2) (h3:LR (cM 25).vs ls2 m2) (h4:SR h₀ L s2.heap G2) (h5:LN G2 fs2 [some<|.qf S2,some<|.v<|.ref x,x3] ls2) (h6:ls2.head?=ls.head?)
  (h7:GenAt Z ga gi L' x T xs s2 G2 fg2) (h8:(fg2++fs2.flatten).Nodup) (h9:ga∉fs2.flatten) (hA:Fk fs.flatten G (fg2++fs2.flatten) G2) (hB:HA n S2 xs=some S') (hC:SmG gi s1 s2)
theorem SH (k:KF Z) (ki:KI Z) (kj:KJ Z) (kr:KR Z):Ss Z (cM 25) mgF Xi:=by
 refine bc fun ng=>xE6 Xj fun p1 p2 p3 p4 p5 _=>xA3 fun hF hp _=>gG (Uh k ki kj kr) fun X hX aM=>ng ?_;generalize UL mgF=body at hF hX;refine rE hF fun A aw L s m ls G P Q E cx F lr R aO q=>bc fun ng=>?_;obtain⟨n,fs,S,T,S',l,x3,lo,hl,ha,hP⟩:=aO;refine ng<|cg (E:=fun _ _=>False) (wpAny_For (Kl k 1 rfl rfl rfl rfl hp (by decide) cx F lr R lo rfl hl fun ga gi L' D G1 fg s1 d1 d2 g1 g2 g3 g4 g5 g6 g7 g8 aH F1 R1=>wpAny_pyIter_gen (g1.Vk R1) ?_) fun _=>rfl) (fun _ _ x=>x) fun _ _ x=>x.elim;have ax:ls.set 1 (some<|.ref D.x)=ls:=by
  refine List.ext_getElem? fun j=>?_;by_cases hj:j=1
  .subst hj;refine T1 (U1 1 ls.length) (fun h=>?_) fun h=>rE (List.set_eq_of_length_le h) rfl
   .refine rE (List.getElem?_set_self h) ?_;refine oE (ls[1]?) (fun e=>?_) fun w e=>?_
    .rw [List.getElem?_eq_none_iff]at e;exact False.elim<|(la1 0x182202120000091c2) h e
    .replace d2:=e▸d2;cases d2;rfl
  .exact rE (List.getElem?_set_ne<|cZ hj) rfl
 have av:LN G1 (BD fs 1 []) [some<|.qf S,some<|.v<|.ref D.x,x3] ls:=by
  exact have:=(lo.mono fun b o=>g5 b<|lo.lo.dom b o).Gm 1<|.ref D.x;have this:=ax▸this;this
 have aR:∀ b∈fg,b∉(BD fs 1 []).flatten:=fun b o d=>by
  refine T1 (g6 b o) (fun h=>?_) fun h=>lo.lo.dom b (BM b d) h
  .have:=Cq lo.nd (i:=1) d<|rE d1 h;cases this
 have aP:Fk fs.flatten G (fg++(BD fs 1 []).flatten) G1:=⟨fun b Y _=>g5 b Y,fun b o=>by
  refine T1 (X1.mp o) (fun h=>(g6 b h).imp (fun h=>Ad (i:=1)<|d1▸h) id) fun h=>?_
  .exact .inl<|BM b h⟩
 refine codeAny_forLoop (MgI Z aw L ga gi L' D.x T ls fs G n S' s1) ?_ l.length
  ⟨l,m,ls,G1,_,S,x3,fg,rfl,F1,lr,R1,av,rfl,g1,SF.mpr ⟨g2,av.nd,fun b o b' d e=>aR b o<|e▸d⟩,fun h=>lo.lo.dom _ (BM _ h) g4,aP,ha,(Sm.refl _).g gi⟩ fun _=>rfl
 refine fun kk s2 hh=>bc fun ng=>?_;obtain⟨xs,m2,p,G2,t,S2,x3,aG,zk,F2,aq,R2,M,ay,O,aI,aD,aF,u,ak⟩:=hh;have C:=SF.mp aI;have l2:(p[1]?).join=some (.ref D.x):=by
  exact bc fun ng=>gG (M.lo.get (i:=1) (a:=.v<|.ref D.x) rfl) fun mv Y h2=>ng<|rE Y<|rE h2.val rfl
 refine ng<|Jb (cx.less<|by decide) F2 R2 g3 O C.1 (fun y ys W v U I s3 hv aE B af ae F3 R3=>?_) fun W D' U s3 k1 k2 B af ae F3 R3=>?_
 .revert O u;refine rE W fun O u=>?_;conv at u=>lhs;whnf
  refine mv36 u ?_
  .refine fun r S3 ea u=>wpAny_assign_Name<|CZ (c:=cM 25) (i:=2) rfl rfl rfl F3 aq R3 hv fun m4 s4 aj F4 aK R4=>?_;refine have N:=M.lo.dom;have V:LN U t _ p:=M.mono fun b o=>B.keep b (N b o) fun z=>C.2.2 b z b o rfl;have K:LN U (BD t 2 []) [some<|.qf S2,some<|.v<|.ref D.x,some<|.v<|.int (y:Nat)] (p.set 2<|some<|.int (y:Nat)):=V.Gm 2 _;hX (P:=fun mf J G5=>mf=.next/\∃ H,LN G5 H [some<|.qf S3,some<|.v<|.ref D.x,some<|.v<|.int (y:Nat)] J/\FmN (BD t 2 []) U H G5/\J.head?=p.head?) cx F4 aK R4
    ⟨n,_,_,.next,_,K,aM S2 S3 _ y n r ea,fun H G5 J f5 mf q1 q2 q3 q4 q5=>?_⟩ fun fl mf J G5 m5 s5 ah aN ai F5 aJ R5=>?_
   .exact DI.kne q2 fun z z'=>rE z' ⟨rfl,H,q1,BE q4,q5.trans DV⟩
   .refine xP aN<|xA2 fun z0=>?_;revert ah;refine rE z0 fun ah=>xF1 fun H=>xA3 fun ar aa aL=>have z:=FlR.ine ah;rE z<|have az:=aE.dom;?_;have ab:∀ b∈ga::I,b∉(BD t 2 []).flatten:=fun b o d=>by
     rcases bM.mp o with rfl|o
     .exact aD<|BM _ d
     .exact (fun b o d=>(B.sub b o).elim (fun z=>C.2.2 b z b d rfl) fun z=>N b d z) b o<|BM _ d
    have ao:∀ b∈ga::I,b∉H.flatten:=fun b o d=>(aa.fm.sub b d).elim (ab b o)<|az b o;refine⟨ys.length,by rw[zk,W];exact dB _,ys,m5,J,G5,H,S3,_,I,rfl,F5,aJ,R5,ar,aL.trans ay,(aE.frame (fun b o=>aa.fm.keep b (az b o)<|ab b o) fun i g hi e=>ai.De i g<|aj.De i g e),SF.mpr ⟨af,ar.nd,fun b o b' d e=>ao b (.tail _ o)<|e▸d⟩,ao ga<|.head _,?_,u,(ak.trans ae).trans<|(aj.trans ai).g gi⟩;have a1:Fk (aG++t.flatten) G2 (I++t.flatten) U:=⟨fun b Y h2=>B.keep b Y fun z=>h2<|Lf _ z,fun b o=>by
     refine T1 (X1.mp o) (fun h=>(B.sub b h).imp (Lf _) id) fun h=>?_
     .exact .inl<|Bl _ h⟩
    have a2:Fk (I++t.flatten) U (I++H.flatten) G5:=⟨fun b Y h2=>aa.fm.keep b Y fun z=>h2<|Bl _<|BM _ z,fun b o=>by
     refine T1 (X1.mp o) (fun h=>.inl<|Lf _ h) fun h=>?_
     .exact (aa.fm.sub b h).imp (fun z=>Bl _<|BM _ z) id⟩
    exact(aF.trans a1).trans a2
 .revert O u;refine rE W fun O u=>have z:=so u;?_;revert hP;refine rS z fun hP=>wpAny_execs_nil<|have N:=M.lo.dom;have V:LN U t _ p:=M.mono fun b o=>B.keep b (N b o) fun z=>C.2.2 b z b o rfl;?_;have ag:p.set 1 (some<|.ref D'.x)=p:=by
   refine List.ext_getElem? fun j=>?_;by_cases hj:j=1
   .subst hj;refine T1 (U1 1 p.length) (fun h=>?_) fun h=>rE (List.set_eq_of_length_le h) rfl
    .refine rE (List.getElem?_set_self h) ?_;refine oE (p[1]?) (fun e=>?_) fun w e=>?_
     .rw [List.getElem?_eq_none_iff]at e;exact False.elim<|(la1 0x182202120000091c2) h e
     .replace l2:=e▸l2;cases l2;exact rE k1 rfl
   .exact rE (List.getElem?_set_ne<|cZ hj) rfl
  have K:=V.Qi 1 (f:=D'.foot) (.qf k2)<|SF.mpr ⟨af,V.nd,fun b o b' d e=>(fun b o d=>(B.sub b o).elim (fun z=>C.2.2 b z b d rfl) fun z=>N b d z) b o<|e▸d⟩;replace K:=ag▸K;have a1:Fk (aG++t.flatten) G2 (BD t 1 D'.foot).flatten U:=⟨fun b Y h2=>B.keep b Y fun z=>h2<|Lf _ z,fun b o=>by
   refine T1 (Bs o) (fun h=>(B.sub b h).imp (Lf _) id) fun h=>?_
   .exact .inl<|Bl _ h⟩
  exact q _ _ p U m2 s3 .next (hP U _ p x3 K ⟨(aF.trans a1).m⟩ ay<|l2.trans d2.symm) (SmG.to aH g8<|ak.trans ae) F3 aq R3
inductive Xk (args:List MV) (G:St) (P:MV->St->Prop):Prop
 |mk (n:Nat) (D1 D2:QD) (S T S':QS) (l:List Nat) (ha:args=[.ref D1.x,.ref D2.x]) (h1:Bz G D1 S) (h2:Bz G D2 T) (nd:(D1.foot++D2.foot).Nodup) (hf1:S.hf=485) (hf2:T.hf=485) (hl:hsh T=some l) (hA:HA n S l=some S')
  (hp:∀(D1' D2':QD) G',D1'.x=D1.x->D2'.x=D2.x->Bz G' D1' S'->Bz G' D2' T->(D1'.foot++D2'.foot).Nodup->Fm (D1.foot++D2.foot) G (D1'.foot++D2'.foot) G'->P .none G')
theorem Ui (k:KF Z) (Y:KI Z) (X:KJ Z) (W:KR Z) (H:KL Z) (F:KU Z):Sp Z 26 352 Xk:=by
 refine Sp.weaken (En (names:=["self","second"]) (rest:=["_h"]) (n:=25) (na:=2) (dflt:=[]) (dm:=[]) k.Qt (Bj fun _ _ _ _ _ _ _ _=>.of_eq rfl) .nil<|Ae (EY (AW (E4 k H F 0<|AD E2)<|E4 k H F 1<|AD E2) (Ae Dp BJ) BJ)<|Ae (SH k Y X W) BJ) ?_;rintro K G P ⟨n,f,q,S,T,S',l,t,h1,h2,V,B,A,hl,hA,v⟩;refine rE t<|have E:LN G [f.foot,q.foot,[]] [some<|.qf S,some<|.qf T,none] [some<|.ref f.x,some<|.ref q.x,none]:=⟨.own (.qf h1)<|.own (.qf h2)<|.free none .nil,by simpa using V⟩;⟨rfl,?_⟩;have I:∀(U:QS),U.hf=485->EK U 116=some (FD 97 116):=fun U hU=>by
  unfold EK;exact iP (by exact la [] [] 0x20840801d28030d00<|by kernel_rfl)<|iP hU rfl
 have hc:Aw .NotEq (FE 0<|AP<|.str "test") (FE 1<|AP<|.str "test") [some<|.qf S,some<|.qf T,none]=some false:=by
  have e1:FE 0 (AP<|.str "test") [some<|.qf S,some<|.qf T,none]=some (.int (FD 97 116:Nat)):=by
   show(match EK S 116 with|some h=>some (MV.int (h:Nat))|none=>none)=_;exact rE (I S B) rfl
  have e2:FE 1 (AP<|.str "test") [some<|.qf S,some<|.qf T,none]=some (.int (FD 97 116:Nat)):=by
   show(match EK T 116 with|some h=>some (MV.int (h:Nat))|none=>none)=_;exact rE (I T A) rfl
  unfold Aw CF;refine rE e1<|rE e2 ?_;dsimp only;exact rE (Kf ..)<|rE (bne_self_eq_false ..) rfl
 refine⟨_,_,false,E.lo,hc,⟨n,_,S,T,S',l,none,E,hl,hA,fun G' aa j M s R C Q=>gH (s.lo.qf (i:=0) rfl) fun d a1 L a3=>gH (s.lo.qf (i:=1) rfl) fun c b1 J b3=>have a:=s.nd;have m:=R.fm;?_⟩⟩;have w:(j[0]?).join=some (.ref f.x):=by
  induction j with
  |nil=>exact xns C
  |cons y r=>(revert v;refine soE C ?_;intro v);rfl
 rw[w]at L;rw[Q]at J;refine Loc.Pg s.lo rfl fun _ _ _ _ z u o1 g=>?_;subst z;refine rE u<|Loc.Pg g rfl fun _ _ _ _ z u o2 D=>?_;clear g;subst z;refine rE u<|have p:_=d.foot:=a1;have o:_=c.foot:=b1;?_;simp only[B0]at p o;subst p o;have O:d.x=f.x:=by injection L with h;injection h with h;exact h.symm
 have N:c.x=q.x:=by injection J with h;injection h with h;exact h.symm
 rw[D4,D4]at a;refine v d c G' O N a3 b3 ?_ ?_
 .rw [<- c6]at a;exact(SF.mp a).1
 .have e:[f.foot,q.foot,[]].flatten=f.foot++q.foot:=by simp
  rw[e]at m;exact m.mono fun b hb=>rE D4<|rE D4<|T1 (X1.mp hb) (fun h=>Lf _ h) fun h=>Bl _<|Lf _ h
noncomputable def mvO:Value->Option MV
 |.int i _=>some<|.int i
 |.bool b=>some<|.bool b
 |.none=>some .none
 |_=>none
theorem Ny (h:mvO v=some m):VR v m:=by
 induction v<;>first|exact xns h|(refine rS (so h) ?_;first|exact .int _ _|exact .bool _|exact .none)
noncomputable abbrev Vn (K:Frag) (T:Addr):Prop:=(V8 K T).map (·.map mvO)=some [some<|.int 20,some<|.bool true,some .none]
theorem Mu {K:Frag}(h:Vn K T):∃ o n j,K.lookup T=some o/\o.data=.seq #[.int 20 j,.bool true,.none] n:=by
 refine bc fun e=>gG (bP.mp h) fun l c d=>e<|have k:l.length=3:=(b7 (f:=mvO)).symm.trans<|cT List.length d;ln3 k fun x y w z=>?_;revert c d;refine rE z fun c d=>have i:=List.cons.inj d;have g:=List.cons.inj i.2;bc fun e=>VR.kin (Ny i.1) fun t z=>?_;revert c;refine rE z fun c=>?_;revert c;refine rE (VR.ibo<|Ny g.1) fun c=>?_;revert c;exact rE (VR.ino<|Ny (List.cons.inj g.2).1) fun c=>e<|xE2 (IK c) fun o n=>xA2 fun a b=>⟨o,n,t,a,b⟩
structure KN (Z:PX):Prop where
 Vo:FnAt Z.K 202 "__init__" "QuotientFilter.__init__" (BP 10 0)<|.ref 195
 Vp:Vn Z.K 195
 Xl:Km Z.K CQ 202=true
 Zy:nsIn Z.K mainGlobals "QuotientFilter" = some (some<|.ref CQ)
inductive SI (args:List MV) (G:St) (P:MV->St->Prop):Prop
 |mk (x d:Addr) (q:Nat) (a:Bool) (hf:Addr) (ha:args=[.ref x,.int q,.bool a,.ref hf]) (h1:G x=some (.inst CQ d)) (h2:G d=some (.dict 0 fun _=>none)) (hxd:x≠d) (hq:3<=q/\q<=9)
  (hp:∀(D:QD) G',D.x=x->D.d=d->Bz G' D (QS.new q a hf)->D.foot.Nodup->(∀ a∈D.foot,a=x\/a=d\/G a=none)->(∀ a,G a≠none->a≠d->G' a=G a)->P .none G')
theorem O8 (k:KF Z) (p:KI Z) (i:KJ Z) (g:KN Z):Sp Z 5 202 SI:=by
 refine xE3 (Mu g.Vp) fun o R O=>xA2 fun u r=>Sp.weaken (En (names:=["self","quotient","auto_expand","hash_function"]) (rest:=[]) (n:=4) (na:=4) (dflt:=[]) (dm:=[]) g.Vo (fun s f S H Q U T X v=>?_) .nil<|Ae (EY (KD (DO (AQ 1) AE)<|KD (DO (AQ 1) AE) HI) (Ae Dp BJ) BJ)
  (Ae (Io (C1 i.Rr (AQ 0) (AS (AQ 1)<|AS (AQ 2)<|AS (AQ 3) Az) (Rw k p i) (by decide) rfl) rfl rfl) BJ)) ?_
 .exact ln4 v fun N M L J z=>rE z<|binds_K X rfl u r rfl rfl
 rintro m G P ⟨x,d,q,a,w,b,l,j,c,e,t⟩;exact rE b ⟨rfl,Ll (fun K h=>⟨false,by show some (decide<|(q:Int)<3)=_;exact rE (bK<|by exact (la1 0x282302920000190732000461) e) rfl,⟨false,by show some (decide<|(31:Int)<(q:Int))=_;exact rE (bK<|by exact (la1 0x3023029200001907000007e8461) e) rfl,h⟩⟩)<|Aq l j ⟨rfl,⟨x,d,q,a,w,0,[],rfl,l,j,.inl ⟨la [] [] 0x2084080af28100<|by kernel_rfl,rfl⟩,c,e,fun D I F E C B A y=>t D I F E C B A y⟩⟩⟩
theorem Mw (b:KN Z)(e:iK c)(d:c.scope.names.lookup (Str.ofString "QuotientFilter")=some .globalImplicit)(f:autoParam ((("QuotientFilter":Str)==("__debug__":Str))=false) rf):Ev Z c (.Name "QuotientFilter" a) (Br<|.ref CQ):=
 Be b.Zy e d f
def Kr (f g h:PE):Nat->PL->Option (AV×PL):=fun _ b=>match mI (f b),g b,h b with
 |some (.ofNat q),some<|.bool a,some (.ref hf)=>if 3<=q/\q<=9 then some (.qf<|QS.new q a hf,b)else none
 |_,_,_=>none
theorem mv83 {m:Type}{n:Nat->Bool->Addr->Option m}{r:m}{g:Prop}(e:(match l,k,j with|some (Int.ofNat d),some<|MV.bool b,some (MV.ref a)=>n d b a|_,_,_=>none)=some r) (v:∀ d b a,l=some (Int.ofNat d)->k=some (MV.bool b)->j=some (MV.ref a)->n d b a=some r->g):g:=by
 generalize q:l=i at e;generalize p:k=h at e;generalize o:j=f at e;revert e q p o;exact Option.casesOn i (fun _ _ _=>xns) fun u=>Int.casesOn u (fun y=>Option.casesOn h (fun _ _ _=>xns) fun t=>MV.casesOn t (fun _ _ _=>xns) (fun x=>Option.casesOn f (fun _ _ _=>xns) fun s=>MV.casesOn s eU (fun _ _ _ _=>xns) (fun _ _ _ _=>xns) (fun _ _ _ _=>xns) (fun w=>v _ _ _) (fun _ _ _ _=>xns) fun _ _ _ _=>xns) (fun _ _ _ _=>xns) (fun _ _ _ _=>xns) (fun _ _ _ _=>xns) (fun _ _ _ _=>xns) fun _ _ _ _=>xns) fun _ _ _ _=>xns
theorem Lr (k:KF Z) (O:KI Z) (N:KJ Z) (H:KN Z){f g:PE}(u:Ev Z c (.Name "QuotientFilter" F)<|Br<|.ref CQ) (s:Pu Z c m f) (U:Pu Z c j g) (T:Pu Z c w h)
  (M:notStar m=true) (L:notStar j=true) (K:notStar w=true) (R:6<=c.n):Eo Z c (.Call (.Name "QuotientFilter" F) [m,j,w] [] A) (Kr f g h):=by
 refine(Jc u H.Xl (AS s (AS U (AS T Az K) L) M) (O8 k O N H) R).weaken ?_;rintro ls G P ⟨n,y,pl,r,J,p,e,B⟩;unfold Kr at e;refine mv83 e ?_
 .refine fun q a S m j w e=>xP (Au e)<|xA2 fun Q e=>?_;revert B;refine BH e fun B=>⟨y,_,_,p.lo,BA m,y,_,_,p.lo,j,y,_,_,p.lo,w,fun x d u C t=>⟨x,d,q,a,S,rfl,St.AH ..,((St.AG _ _<|cZ t).trans<|St.AH ..),t,Q,fun D I a1 a2 a3 Y X W=>⟨rfl,?_⟩⟩⟩;have o:∀ b,G b≠none->I b=G b:=fun b i=>by
   have m:b≠x:=fun z=>i<|rE z u;have j:b≠d:=fun z=>i<|rE z C;rw[W b (by rw[St.AG _ _ m,St.AG _ _ j];exact i) j,St.AG _ _ m,St.AG _ _ j]
  have l:∀ b∈D.foot,G b=none:=fun b i=>by
   rcases X b i with h|h|h
   .exact rE h u
   .exact rE h C
   .by_cases m:b=x
    .exact rE m u
    .by_cases j:b=d
     .exact rE j C
     .rw [St.AG _ _ m,St.AG _ _ j]at h;exact h
  refine have v:=p.lo.dom;rS a1<|B y I D.foot _ (p.mono fun b i=>o b<|v b i) (.qf a3) (SF.mpr ⟨Y,p.nd,fun b i V E e=>v V E<|e▸l b i⟩) ⟨⟨fun b s _=>o b s,fun b i=>?_,fun b s _=>rE (o b s) s⟩⟩;rw[D4]at i;exact(X1.mp i).elim (fun h=>.inr<|l b h) .inl
noncomputable abbrev EL:List Value:=[.ref 47,.type "Exception",.type "BaseException",.type "object"]
def Vq (K:Frag):Bool:=((K.lookup 69).map fun o=>o.cls==.type "type" && o.slots.toList.length==6&&o.slots.toList[4]?==some (some<|.builtin "Exception.__new__"))==some true&&((YM K 69).map fun a=>a.mro==.ref 69::EL&&!a.hasDel&&a.hasDict)==some true
inductive ZJ (h:Heap):Prop
 |mk (nm qn:Str) (N:Addr) (bs:List Value) (sn:List Str) (sub:List Value) (ab:Bool) (col:Option Bool) (dd:Option Addr) (k0 k1 k2 k3 k5:Option Value) (hC:h.get? 69=some (excClassObj nm qn 69 N bs EL true sn sub ab col dd k0 k1 k2 k3 k5 "Exception.__new__"))
theorem IX {K:Frag}{h:Heap}(X:K.In h) (q:Vq K=true):ZJ h:=by
 refine bc fun E=>xP (bN.mp q)<|xA2 fun t s=>gG (bP.mp<|eq_of_beq t) fun o m j=>gG (bP.mp<|eq_of_beq s) fun P v i=>gG (TF v) fun B a u=>have z:=so<|a.symm.trans m;?_;clear a v t s q;subst z;refine xP (bN.mp j)<|xA2 fun j n=>xP (bN.mp j)<|xA2 fun f e=>xP (bN.mp i)<|xA2 fun i b=>xP (bN.mp i)<|xA2 fun d c=>have h:=X _ _ m;?_;clear m j i;obtain⟨O,g,x,⟨l⟩⟩:=B;obtain⟨D,Q,F,C,A,M,y,k,R,r,p⟩:=P;have z:=eq_of_beq f;clear f;dsimp only at z;subst z;refine E ?_;dsimp only at u;subst u;have z:=eq_of_beq d;clear d;dsimp only at z;subst z;dsimp only at c b;subst b;have z:p=false:=by simpa using c
 subst z;refine lnS (eq_of_beq e) fun L l z w=>?_;clear e;dsimp only at z;subst z;refine lnS w fun J l z N=>?_;clear w;subst z;refine ln4 N fun I H S G z=>?_;subst z;have z:=so<|eq_of_beq n;subst z;exact⟨D,A,C,Q,y,k,R,r,g,L,J,I,H,G,h⟩
noncomputable abbrev Am (t:Addr) (d:Option Addr):Obj:={cls:=.ref 69,dict:=d,data:=.fields #[.ref t,.none,.none,.none,.bool false,.none]}
theorem P5 (k:h.get? 69=some (excClassObj u B 69 N y EL c n f q i s v m C z l "Exception.__new__"))
  (p:Q () ⟨h,g,d,t,j⟩):wpAny M A (checkBuiltinCall "Exception.__new__" ⟨.ref 69::e,[]⟩) Q E ⟨h,g,d,t,j⟩:=by
 have F:=PySem.F.excBase_Exception;have b:(Value.ref 69::EL).contains (.type "Exception")=true:=by decide
 have o:=F.noStar;unfold checkBuiltinCall;refine rE F.newKind ?_;dsimp only;refine rE F.newSplit ?_;dsimp only;refine rE F.newRow ?_;dsimp only;repeat (first|refine cU k ?_|(refine wpAny_isSubtype_exc k ?_;refine rE b ?_)|refine wpAny_staticBase_exc k ?_|refine wpAny_madeBy_exc k ?_|simp only[bne_self_eq_false,dD,if_false]|wp_step)
 exact p
theorem Uj (D:h.get? 69=some (excClassObj u B 69 N y EL c n f q i s v m C z l "Exception.__new__"))
  (H:R (.ok<|.ret<|.ref<|h.objs.size+1) ⟨(h.push {cls:=.type "tuple",data:=.seq b.toArray}).push<|Am h.objs.size none,g,d,t,j⟩) (e:b.length<=sizeLine) :
  codeAny (model a w) A (.builtin "Exception.__new__" ⟨.ref 69::b,[]⟩) R ⟨h,g,d,t,j⟩:=by
 have F:=PySem.F.excBase_Exception;have k:=F.ends;have r:(Value.ref 69::EL).contains (.type "Exception")=true:=by decide
 have x:(Value.ref 69::EL).contains (.type "AttributeError")=false:=by decide
 have o:(Value.ref 69::EL).contains (.type "NameError")=false:=by decide
 refine codeAny_builtinAt F.entry ?_;unfold Builtin.«BaseException.__new__»;refine PySem.wpAt_bind (PySem.wpAt_bind (PySem.wpAt_stack fun p G=>c9 ?_):PySem.wpAt _ _ _ (stack >>= _) _ _ _);wp_walk;refine c9<|rE F.owner ?_;repeat (first|with_reducible refine wpAny_madeHere_exc F.canon D ?_|with_reducible refine cU D ?_|(with_reducible refine wpAny_isSubtype_exc D ?_;first|refine rE r ?_|refine rE x ?_|refine rE o ?_)|wp_step)
 show R _ _;exact rE (Heap.size_push ..) H
theorem KA 
  (K:h.get? 69=some (excClassObj u B 69 N y EL c n f q i s v m C z l "Exception.__new__")) (X:Looks (model a w) h (typeLookup (.ref 69) "__init__")<|some<|.ref 66)
  (P:h.get? 66=some U) (O:U.cls=.type "function")
  (W:wpAny (model a w) A (call (.ref 66)<|.ref (h.objs.size+1)::p) (fun r S=>r=.none/\Q (.done<|.ret<|.ref<|h.objs.size+1) S) E ⟨(h.push {cls:=.type "tuple",data:=.seq p.toArray}).push<|Am h.objs.size none,g,d,t,j⟩) (G:p.length<=sizeLine) :
  wpAny (model a w) A (Builtin.«type.__call__» ⟨.ref 69::p,[]⟩) Q E ⟨h,g,d,t,j⟩:=by
 have F:=PySem.F.excBase_Exception;repeat (first|with_reducible refine cU K ?_|with_reducible refine wpAny_madeBy_exc K ?_|wp_step)
 refine codeAny_call_builtin_code (Code.quiet_builtin _ F.quiet)<|P5 K ?_;refine Uj K ?_ G;show wpAny _ _ _ _ _ _;have k:∀ b o,h.get? b=some o->((h.push {cls:=.type "tuple",data:=.seq p.toArray}).push<|Am h.objs.size none).get? b=some o:=fun b o e=>cS _<|cS _ e;have I:=k _ _ K;have D:=k _ _ P;have H:=X.keeps k;have J:((h.push {cls:=.type "tuple",data:=.seq p.toArray}).push<|Am h.objs.size none).get? (h.objs.size+1)=some (Am h.objs.size none):=by heap_get
 have R:(Value.ref 69::EL).contains (.ref 69)=true:=by decide
 unfold isInstance;repeat (first|with_reducible refine cU J ?_|(with_reducible refine wpAny_isSubtype_exc I ?_;refine rE R ?_)|wp_step)
 show wpAny _ _ (typeLookup (.ref 69) _) _ _ _;refine H.here<|cz<|U2 ?_;unfold bindSpecial;refine U2<|wpAny_typeOf (T:="function") ⟨_,D,O⟩<|iP (by decide)<|bZ<|U2<|cg W (fun r S V=>?_) fun _ _ x=>x;obtain⟨L,Y⟩:=V;subst L;wp_walk;exact Y
theorem SJ 
  (k:h.get? 69=some (excClassObj u B 69 N y EL c n f q i s v m C z l "Exception.__new__")) (G:Looks (model a w) h (typeLookup (.ref 69) "__init__")<|some<|.ref 66)
  (p:h.get? 66=some x) (o:x.cls=.type "function")
  (F:wpAny (model a w) (A.under<|.builtin "type.__call__" ⟨.ref 69::b,[]⟩) (call (.ref 66)<|.ref (h.objs.size+1)::b) (fun r D=>r=.none/\Q (.ref<|h.objs.size+1) D) E ⟨(h.push {cls:=.type "tuple",data:=.seq b.toArray}).push<|Am h.objs.size none,g,d,t,j⟩) (e:b.length<=sizeLine) :
  wpAny (model a w) A (call (.ref 69) b) Q E ⟨h,g,d,t,j⟩:=by
 have J:=tc_lookup;have I:=tc_bind<|.ref 69;have H:(⟨h,g,d,t,j⟩:Shared).TypeIs (.ref 69) "type":=⟨_,k,rfl⟩;refine wpAny_call<|codeAny_of_tree ?_;show wpAny _ _ (callAny (.ref 69) _) _ _ _;repeat (any_goals (first|assumption|with_reducible refine cU k ?_|wp_step))
 exact⟨rfl,codeAny_call_builtin_at (Code.quiet_builtin _<|by decide +kernel) entry_typeCall<|wpAny_check_type_call_sub k<|KA k G p o F e⟩
open Builtin Builtin.ObjectAttr
structure KX (Z:PX):Prop where
 ok:Vq Z.K=true
 i69:findIn Z.K (.ref 69) "__init__" = some (some<|.ref 66)
 f66:isFn Z.K (.ref 66)=true
 keep:keepIn Z.K (.ref 69)=true
 Vr:nsIn Z.K mainGlobals "QuotientFilterError" = some (some<|.ref 69)
 mro:(clsIn Z.K 69).map (·.mro)=some (.ref 69::EL)
 sa:findIn Z.K (.ref 69) "__setattr__" = some (some<|.builtin "object.__setattr__")
 tk:takerIn Z.K 69 "message" = some none
 hd:hasDictIn Z.K 69=true
 ga:findIn Z.K (.ref 69) "__getattribute__" = some (some<|.builtin "BaseException.__getattribute__")
 gh:findIn Z.K (.ref 69) "__getattr__" = some none
 fm:findIn Z.K (.ref 69) "message" = some none
section
variable {Z:PX}{A:Around}{s:Shared}{g:Heap}{L x:Addr}{m:Str->Option Value}{i:Result->Shared->Prop}
theorem Uk (y:KX Z) (X:Z.K.In s.heap) (I:InstAt s.heap x t 69 u) (z:takerIn Z.K 69 c=some none)
  (h:∀ b,wpAny Z.md A.in1 (storeInOwnDict (.ref x) (.ref 69) (.str c k) c v b)
   (fun o l=>match o with|.done f=>i (.ok f) l|.again r=>r.quiet=true/\codeAny Z.md A r i l) (fun e l=>i (.error e) l) s) :
  codeAny Z.md A (.call (.builtin "object.__setattr__") ⟨[.ref x,.str c k,v],[]⟩) i s:=by
 refine have j:=PySem.F.store_object;gG (bP.mp y.mro) fun E q p=>codeAny_call_builtin j.slot.plain j.entry<|@check_slot Z.md _ _ s "object.__setattr__" "object" "__setattr__" (.ref x) [.str c k,v] [] _ j.kind j.split (I.type.andThen<|looks_mroIn X<|by unfold mroIn;refine rE q<|rE (Option.bind_some ..)<|rE p ?_;decide) (j.args (.ref x) (.str c k) v) ?_;refine gG (bQ.mp z) fun d D n=>have B:Looks Z.md s.heap (mroOf<|.ref 69) E.mro:=(looks_clsIn X q).andThen .now;?_;have G:Looks Z.md s.heap (storeTaker? d) none:=by
  induction d with
  |none=>exact .now
  |some a=>
   refine gG (bP.mp n) fun b C n=>(looks_takesIn X C).andThen ?_;induction b
   .exact .now
   .exact xsn n
 exact rE (osa_eq ..)<|rE (refuse_eq ..)<|U2<|U2<|I.type.here<|U2<|B.here<|rE p<|rE (refuseLoop_ref ..)<|rE (refuseLoop_ref ..)<|rE (PySem.F.store_Exception.passes ..)<|bZ<|U2<|I.type.here<|U2<|(looks_findIn X D).here<|U2<|G.here<|h _
theorem Mx (F:Fr g L s.heap m) (R:SR g L s.heap G) (W:G d=some (.dict k f)) (S:VR v mv) (U:k<=900)
  (q:∀ l,Sm s l->Fr g L l.heap m->SR g L l.heap (G.set d<|.dict (k+1)<|upd f a mv)->Q (.done<|.ret .none) l):wpAny Z.md A (storeInDict d (.str a M) a v) Q E s:=by
 refine gG R fun C N r=>xE1 (r d _ W) fun od=>xA2 fun o=>xF2 fun t n=>xA3 fun B H I=>?_;revert o;refine rE B fun o=>?_;have e:(putL a (PyData.keyHash Z.w.params a) (.str a s.toks) v t).length<=k+1:=by
  exact rE (MT ..)<|MQ (Nat.le_succ_of_le H)<|Nat.succ_le_succ H
 refine xP (news_upd (f:=Obj.putName a (PyData.keyHash Z.w.params a) (.str a s.toks) v) (pre:=[]) F (News.pull N o) (fun _ h=>nomatch h) (fun p T=>bU (b9.mp T).2) (putName_dict ..) rfl)<|xA2 fun X K=>?_;have D:=(N (d,_) o).1;unfold storeInDict newKeyGuard;refine U2<|bZ<|U2 ?_;unfold nsSet;refine U2<|U2<|wpAny_askSetting<|bZ<|U2<|wpAny_mkText<|U2<|wpAny_loadPart D ?_;dsimp only;have c:(!t.toArray.any (·.key.isStr a)&&t.toArray.any (·.refKey))=false:=by
  refine gG (I a) fun Y j _=>rS Array.any_toList<|rS Array.any_toList ?_;unfold getL at j;refine mv13 j ?_ ?_
  .refine fun V J j=>rE (List.any_eq_true.mpr ⟨V,List.mem_of_find?_eq_some J,List.find?_some J⟩) ?_;rfl
  .intro _ j;split at j
   .exact xns j
   .rename_i z;rw[Bool.not_eq_true]at z;exact rE z<|rE (Bool.and_false ..) rfl
 refine rE (aRefKeyMayBeTheName_at ..)<|rE c<|wpAny_updatePart D<|U2<|wpAny_lookBehind ((K (d,_)<|.head _).1) (pastItsLine_dict<|rE b8<|rE cN<|(la2 0xe08c0848840000e1288012000200000190002) U e)<|bZ<|q _ (Sm.ht _ _ _) X ⟨_,K,r.upd ⟨_,_,rfl,e,fun y=>gG (I y) fun O P u=>⟨_,MS t y O P,?_⟩⟩⟩;unfold upd;by_cases b:y=a
 .exact iP b<|iP b<|.some S
 .exact iN b<|iN b u
end
end QF
namespace QF
open Builtin Builtin.ObjectAttr
theorem My (g:KX Z) (X:Z.K.In s.heap) (I:InstAt s.heap x k 69 l) (n:takerIn Z.K 69 a=some none)
  (h:∀ b,wpAny Z.md A.in1 (storeInOwnDict (.ref x) (.ref 69) (.str a s.toks) a v b) (fun d f=>d=.done (.ret .none)/\Q () f) E {s with toks:=s.toks+1}) :
  wpAny Z.md A (setAttr (.ref x) a v) Q E s:=set_plain X I g.sa<|Uk (s:={s with toks:=s.toks+1}) g X I n fun b=>cg (h b) (fun d f e=>xP e<|xA2 fun i=>rE i fun e=>e) fun _ _ z=>z
theorem SK (o:KX Z) (X:Z.K.In s.heap) (F:Fr j L s.heap m) (R:SR j L s.heap G)
  (H:takerIn Z.K 69 e=some none) (N:G x=some (.obj<|Am t<|some d)) (u:G d=some (.dict k f)) (D:VR v mv) (I:k<=900)
  (q:∀ g,Sm s g->Fr j L g.heap m->SR j L g.heap (G.set d<|.dict (k+1)<|upd f e mv)->Q () g):wpAny Z.md A (setAttr (.ref x) e v) Q E s:=by
 refine bc fun h=>xP (R.Cv N)<|xA4 fun p _ C _=>xE1 (R.get u) fun S=>xA3 fun l z=>?_;revert z;refine xF2 fun M n=>xA2 fun y=>?_;revert l;refine rE y fun l=>fun _=>fun _=>h<|My o X (⟨p,rfl,rfl,l⟩:InstAt s.heap x (Am t<|some d) 69<|some<|dictOf M n) H fun b=>have r:=o.hd;?_;unfold hasDictIn at r;exact bc fun h=>gG (any_some r) fun T J i=>h<|U2<|bZ<|U2<|U2<|wpAny_loadPart p<|U2<|Looks.here (s:={s with toks:=s.toks+1}) (looks_clsIn X J)<|rE i<|bZ (a:=some d)<|Mx (s:={s with toks:=s.toks+1}) F R u D I fun g B P O=>⟨rfl,q g ((Sm.t _ _).trans B) P O⟩
theorem SM (u:KX Z) (X:Z.K.In s.heap) (F:Fr j L s.heap m) (R:SR j L s.heap G)
  (M:takerIn Z.K 69 g=some none) (B:G x=some (.obj<|Am t none)) (J:VR v mv)
  (q:∀ d h,G d=none->Sm s h->Fr j L h.heap m->SR j L h.heap (((G.set d<|.dict 0 fun _=>none).set x<|.obj<|Am t<|some d).set d<|.dict 1<|upd (fun _=>none) g mv)->Q () h):wpAny Z.md A (setAttr (.ref x) g v) Q E s:=by
 refine xP (R.Cv B)<|xA4 fun i _ I _=>My u X (⟨i,rfl,rfl,trivial⟩:InstAt s.heap x (Am t none) 69 none) M fun b=>have z:=u.hd;?_;unfold hasDictIn at z;refine bc fun n=>gG (any_some z) fun cd P r=>n<|U2<|bZ<|U2<|U2<|wpAny_loadPart i<|U2<|Looks.here (s:={s with toks:=s.toks+1}) (looks_clsIn X P)<|rE r ?_;have l:s.heap.objs.size≠x:=fun e=>by replace i:=e.symm▸i;exact absurd (Heap.lt_size i)<|cY _
 refine bc fun n=>xP (SR.push (ob:={cls:=.type "dict",data:=.dict #[]}) (mo:=.dict 0 fun _=>none) F R ⟨[],0,rfl,To _,fun y=>⟨none,rfl,.none⟩⟩)<|xA2 fun W T=>?_;obtain⟨V,S⟩:=SR.update (f:=fun o=>{o with dict:=some s.heap.objs.size}) (mo:=.obj<|Am t<|some s.heap.objs.size) W T ((St.AG _ _<|cZ l).trans B) fun H N O=>by
  exact xP O<|xA2 fun C=>rE C fun _=>⟨rfl,rfl⟩
 exact n<|have p:(s.heap.push {cls:=.type "dict",data:=.dict #[]}).get? x=some (Am t none):=cS _ i;U2<|wpAny_alloc<|U2<|wpAny_update' p<|bZ (a:=some s.heap.objs.size)<|Mx (s:={s with heap:=_,toks:=s.toks+1}) V S (k:=0) (f:=fun _=>none) (rE (St.AG _ _ l)<|rE (St.AH ..) rfl) J (la [] [] 0x2084080e128100<|by kernel_rfl) fun h D Y U=>⟨rfl,q s.heap.objs.size h R.fresh ((Sm.ht _ _ _).trans D) Y U⟩
theorem SN:Slot "BaseException" "__getattribute__" "BaseException.__getattribute__":=.of (owner:="BaseException") (n:="__getattribute__") (by refine rE (typeLookup_type ..)<|rE builtinLookup_eq_fast ?_;kernel_rfl) (by decide +kernel) (by decide +kernel) (by decide +kernel)
  (by first|exact .inl (by decide +kernel)|exact .inr (by decide +kernel)) (by refine rE (isSubtype_type ..) ?_;kernel_rfl)
theorem Ul (e:KX Z) (h:Z.K.In j) (F:Fr j L s.heap m) (R:SR j L s.heap G)
  (W:G x=some (.obj<|Am t<|some d)) (V:G d=some (.dict k f)) (P:f "message" = some mv) (T:∀ i,mv≠.bi i)
  (q:∀ v b,VR v mv->Q v {s with toks:=b}):wpAny Z.md A (getAttr (.ref x) "message" a) Q E s:=by
 refine bc fun H=>xP (R.Cv W)<|xA4 fun N _ J _=>xE1 (R.get V) fun od=>xA3 fun u D=>?_;revert D;refine xF2 fun U n=>xA2 fun C=>?_;revert u;refine rE C fun u=>xA2 fun _ r=>fun _=>gG (r "message") fun ov O o=>H ?_;replace o:=P▸o;cases o with
 | @some v _ y=>
  have I:InstAt s.heap x (Am t<|some d) 69 (some<|dictOf U n):=⟨N,rfl,rfl,u⟩;have X:=h.keeps F.keep;have z:=q v (s.toks+1) y;refine gG (bP.mp e.mro) fun cd S p=>?_;obtain⟨hp,g,dr,b,os⟩:=s;have B:=I.type (M:=model Z.prog Z.w);have L1:=looks_findIn (M:=model Z.prog Z.w) X e.ga;have Y:=looks_find (M:=model Z.prog Z.w) X I<|findObj_own e.hd e.fm rfl O;unfold getAttr getAttrBy;refine U2<|wpAny_mkText<|cz<|U2<|B.at (U2<|L1.at ?_);show wpAny _ _ (getAttrByItsOwn (.ref x) (.str "message" b) (.ref 69) (.builtin "BaseException.__getattribute__") true a) _ _ _;unfold getAttrByItsOwn hookBefore callGetattribute;have l:(a&&onTheHeap (Value.builtin "BaseException.__getattribute__"))=false:=by induction a<;>rfl
  refine rE l<|U2<|(looks_findIn (M:=model Z.prog Z.w) X e.gh).at<|U2<|wpAny_attempt<|cz ?_;show wpAny _ _ (boundAndCalled (.builtin "BaseException.__getattribute__") (.ref x)<|.str "message" b) _ _ _;unfold boundAndCalled;refine U2<|wpAny_of_eq (SN.bind _)<|wpAny_call<|codeAny_call_builtin SN.plain PySem.F.entry_bexc_ga<|@check_slot Z.md _ _ _ "BaseException.__getattribute__" "BaseException" "__getattribute__" (.ref x) [.str "message" b] [] _ (by decide +kernel) (by decide +kernel) (I.type.andThen<|looks_mroIn X<|by unfold mroIn;refine rE S<|rE (Option.bind_some ..)<|rE p ?_;decide) (PySem.F.args_bexc_ga _ _) ?_;repeat (first|with_reducible refine Looks.at B ?_|with_reducible refine Looks.at Y ?_|wp_step)
  exact(rE (handedOut_of<|FJ y T) (bZ z):wpAny _ _ (handedOut v) _ _ _)
end QF
namespace QF
theorem O9:Slot "wrapper_descriptor" "__get__" "wrapper_descriptor.__get__":=.of (owner:="wrapper_descriptor") (n:="__get__") (by refine rE (typeLookup_type ..)<|rE builtinLookup_eq_fast ?_;kernel_rfl) (by decide +kernel) (by decide +kernel) (by decide +kernel)
 (by first|exact .inl (by decide +kernel)|exact .inr (by decide +kernel)) (by refine rE (isSubtype_type ..) ?_;kernel_rfl)
theorem Um:entryFor table "wrapper_descriptor.__get__" = some Builtin.«wrapper_descriptor.__get__»:=entryFor_of_tree (by kernel_rfl)
theorem Un (a b c:Value):argsOk "wrapper_descriptor.__get__" ⟨[a,b,c],[]⟩:=by unfold argsOk;kernel_rfl
theorem Je:typeOf (.builtin "Exception.__init__")=pure (.type "wrapper_descriptor"):=by refine(rE builtinType_eq_fast ?_:builtinType _=_);kernel_rfl
noncomputable abbrev FF (e:Addr):Obj:={cls:=.type "method-wrapper",data:=.fields #[.builtin "Exception.__init__",.ref e]}
section
variable {Z:PX}{A:Around}{E:Value->Shared->Prop}{h:Heap}{g:Array GenState}{d:Drawn}{t:Nat}{a:OsState}
theorem P6:".".intercalate ("Exception.__init__".cutAt '.').dropLast = "Exception":=by decide +kernel
theorem SO (c:h.get? x=some b) (i:b.cls=.ref C) (e:Looks Z.md h (isSubtype (.ref C)<|.type "Exception") true)
  (f:Q (.done<|.ret<|.ref h.objs.size) ⟨h.push<|FF x,g,d,t,a⟩) :
  wpAny Z.md A (Builtin.«wrapper_descriptor.__get__» ⟨[.builtin "Exception.__init__",.ref x,.ref C],[]⟩) Q E ⟨h,g,d,t,a⟩:=by
 repeat (first|(refine rE P6 ?_;with_reducible refine Looks.at e ?_)|(with_reducible refine cU c ?_;refine rE i ?_)|(with_reducible refine wpAny_newObj_type ?_<|by size_fits)|wp_step|dsimp only)
 all_goals exact f
theorem SP 
  (e:h.get? n=some {cls:=.type "super",dict:=none,data:=.fields #[.ref D,.ref x,.ref C],slots:=#[]}) (j:Looks Z.md h (opaqueClassAbove<|.ref C) none)
  (G:Looks Z.md h (mroOf<|.ref C) c) (z:(c.dropWhile (·!= .ref D)).drop 1=l) (X:Z.K.In h)
  (B:alongIn Z.K b l=some (some<|.builtin "Exception.__init__")) (q:h.get? x=some o) (F:o.cls=.ref C) (s:Looks Z.md h (isSubtype (.ref C)<|.type "Exception") true) (i:x≠C) (v:(b==("__class__":Str))=false)
  (u:Q (.done<|.ret<|.ref h.objs.size) ⟨h.push<|FF x,g,d,t,a⟩) :
  wpAny Z.md A (Builtin.«super.__getattribute__» ⟨[.ref n,.str b p],[]⟩) Q E ⟨h,g,d,t,a⟩:=by
 have y:=O9.lookup;have r:=Je;have k:(Value.ref x==Value.ref C)=false:=by simp[i]
 have m:(⟨h,g,d,t,a⟩:Shared).TypeIs (.builtin "Exception.__init__") "wrapper_descriptor":=Je;have f:({cls:=.type "super",dict:=none,data:=.fields #[.ref D,.ref x,.ref C],slots:=#[]}:Obj).data=.fields #[.ref D,.ref x,.ref C]:=rfl;have J:(#[.ref D,.ref x,.ref C]:Array Value)[0]?=some (.ref D):=rfl;have I:(#[.ref D,.ref x,.ref C]:Array Value)[1]?=some (.ref x):=rfl;have H:(#[.ref D,.ref x,.ref C]:Array Value)[2]?=some (.ref C):=rfl;unfold Builtin.«super.__getattribute__»;repeat (first
  |(with_reducible refine wpAny_field e f J ?_)|(with_reducible refine wpAny_field e f I ?_)|(with_reducible refine wpAny_field e f H ?_)
  |(with_reducible refine ks_wpAny_notOpaque j ?_)
  |(with_reducible refine Looks.at G ?_;refine rE z ?_)
  |(refine ks_forIn_along X (fun _ _=>rfl) rfl ?_ B)
  |(with_reducible refine wpAny_of_eq Je ?_)
  |(with_reducible refine wpAny_call_entry O9 m Um ?_<|Un _ _ _)
  |(with_reducible refine SO q F s ?_)
  |(with_reducible refine⟨_,rfl,?_⟩)
  |(simp only[v,k,Bool.or_false,dD,if_false])
  |wp_step
  |dsimp only)
 all_goals exact u
theorem Nz {so x:Addr}
  (e:h.get? so=some {cls:=.type "super",dict:=none,data:=.fields #[.ref D,.ref x,.ref C],slots:=#[]}) (m:Looks Z.md h (opaqueClassAbove<|.ref C) none)
  (L:Looks Z.md h (mroOf<|.ref C) c) (H:(c.dropWhile (·!= .ref D)).drop 1=l) (X:Z.K.In h)
  (I:alongIn Z.K b l=some (some<|.builtin "Exception.__init__")) (s:h.get? x=some p) (J:p.cls=.ref C) (y:Looks Z.md h (isSubtype (.ref C)<|.type "Exception") true) (k:x≠C) (G:(b==("__class__":Str))=false)
  (B:Q (.ref h.objs.size,[]) ⟨h.push<|FF x,g,d,t+1,a⟩) :
  wpAny Z.md A (getMethod (.ref so) b r) Q E ⟨h,g,d,t,a⟩:=by
 refine have f:=PySem.F.ks_slot_super_ga.lookup;have n:∀ q,(⟨h,g,d,q,a⟩:Shared).TypeIs (.ref so) "super":=fun _=>⟨_,e,rfl⟩;?_;unfold getMethod;refine U2<|wpAny_specialOf (n _) f (iP PySem.F.ks_canon_super_ga ?_:wpAny _ _ (if(Manifest.canonical "super.__getattribute__" != "object.__getattribute__")=true then _ else _) _ _ _);unfold getAttr getAttrBy;refine U2<|U2<|wpAny_mkText<|cz<|U2<|wpAny_typeOf (n _)<|U2<|wpAny_of_eq f ?_;show wpAny _ _ (getAttrByItsOwn (.ref so) (.str b t) (.type "super") (.builtin "super.__getattribute__") true false) _ _ _;unfold getAttrByItsOwn hookBefore callGetattribute boundAndCalled;refine U2<|wpAny_of_eq (show(if onTheHeap (.type "super")then typeLookup (.type "super") "__getattr__" else pure none)=pure none from rfl)<|U2<|wpAny_attempt<|cz (U2 (wpAny_of_eq (PySem.F.ks_slot_super_ga.bind _) ?_):wpAny _ _ (bindSpecial (.builtin "super.__getattribute__") (.ref so) >>= _) _ _ _);refine cg (Q:=fun v o=>v=.ref h.objs.size/\o=⟨h.push<|FF x,g,d,t+1,a⟩) (E:=fun _ _=>False)
  (wpAny_call_entry PySem.F.ks_slot_super_ga (n _) PySem.F.ks_entry_super_ga (SP e m L H X I s J y k G ⟨_,rfl,rfl,rfl⟩)<|PySem.F.ks_gaArgs_super _ _) (fun v o u=>?_) fun _ _ z=>z.elim
 obtain⟨j,i⟩:=u;exact rE j<|rE i<|bZ<|bZ B
end
theorem Uo (b:h.get? q=some (FF e)):Looks M h (keeperOf<|.ref q) .machine:=(Looks.ld (part:=none) b).andThen .now
theorem Mz 
  (B:h.get? 69=some (excClassObj p o 69 N D EL b n f H i C x w u r q "Exception.__new__")) (z:h.get? e=some (Am t d)) (y:Q () ⟨h,g,l,j,k⟩) :
  wpAny M A (checkBoundCall "Exception.__init__" ⟨[.ref e,v],[]⟩) Q E ⟨h,g,l,j,k⟩:=by
 have F:=PySem.F.excBase_Exception;have c:=F.noStar;unfold checkBoundCall;refine rE F.initKind ?_;dsimp only;refine rE F.initRow ?_;dsimp only;repeat (first|with_reducible refine cU z ?_|with_reducible refine cU B ?_|wp_step)
 exact y
theorem Up (o:KX Z) (X:Z.K.In s.heap) (F:Fr a L s.heap m) (R:SR a L s.heap G) (j:G e=some (.obj<|Am t d)) (C:G q=some (.obj<|FF e))
  (p:∀ l b,Sm s b->Fr a L b.heap m->SR a L b.heap (G.set e<|.obj<|Am l d)->Q .none b):wpAny Z.md A (call (.ref q) [v]) Q E s:=by
 refine bc fun c=>xP (R.Cv C)<|xA3 fun u _ _=>xP (R.Cv j)<|xA3 fun i _ _=>c<|wpAny_call<|codeAny_of_tree ?_;show wpAny _ A.in1 (callAny (.ref q) ⟨[v],[]⟩) _ _ _;unfold callAny;refine U2<|wpAny_load u ?_;show wpAny _ _ (checkBoundCall "Exception.__init__" ⟨[.ref e,v],[]⟩ >>= fun _=>again<|.builtin "Exception.__init__" ⟨[.ref e,v],[]⟩) _ _ _;refine bc fun c=>?_;obtain⟨V,S,N,bs,P,n,ab,D,dd,k0,k1,w,Y,W,B⟩:=IX X o.ok;refine c<|U2<|Mz B i<|bZ ⟨Code.quiet_builtin _<|by decide +kernel,codeAny_builtin PySem.F.excBase_Exception.initEntry<|xP (SR.pushNone F R {cls:=.type "tuple",data:=.seq #[v]})<|xA2 fun M I=>?_⟩;obtain⟨J,H⟩:=SR.update (f:=Obj.mapFields (·.setIfInBounds 0<|.ref s.heap.objs.size)) (mo:=.obj<|Am s.heap.objs.size d) M I j fun U r x=>by
  exact xP x<|xA2 fun k=>rE k fun _=>⟨rfl,rfl⟩
 have y:(s.heap.push {cls:=.type "tuple",data:=.seq #[v]}).get? e=some (Am t d):=cS _ i;have z:=p _ _ (Sm.h s _) J H;obtain⟨hh,g,dr,O,T⟩:=s;unfold Builtin.«BaseException.__init__»;wp_walk;exact z
noncomputable def PA (K:Frag) (f:Addr) (b a:Str) (c:Stmt) (d:List<|Str×Addr):Prop:=KO K f b a c d .none
theorem PA.ex {K:Frag}(h:PA K f b a c g) :
  ∃ k j l e i n m d,K.lookup f=some ⟨k,j,.func<|fnX b a (EO c) (BO c) (Af c) g .none l e i n (.ref<|f-1) m,d⟩/\codeIn K (.ref<|f-1) a=true:=KO.ex h
def Ls (K:Frag) (c D:Addr):Bool:=VN K c==some (some<|.ref D)
theorem Jf {K:Frag}(h:Ls K c D=true):∃ f e d,K.lookup c=some ⟨f,e,.cell<|some<|.ref D,d⟩:=
 gG (QR<|cD.mp h) fun o a b=>⟨o.cls,o.dict,o.slots,b▸a⟩
noncomputable def vStr:Value->Option Str
 |.str f _=>some f
 |_=>none
theorem Uq (h:vStr v=some f):∃ t,v=.str f t:=by
 induction v<;>first|exact xns h|exact⟨_,rE (so h) rfl⟩
def Jg (K:Frag) (c:Addr) (a:Str):Bool:=((V7 K c).bind fun b=>(b[2]?:Option Value).bind vStr)==some a
theorem Hw {K:Frag}(h:Jg K c d=true):∃ k i g j f t,K.lookup c=some ⟨k,i,.fields g,j⟩/\g[2]?=some (.str f t)/\(d==f)=true:=bc fun l=>gG (bQ.mp<|eq_of_beq h) fun g q p=>gG (bQ.mp p) fun v n m=>xE1 (Uq m) fun t e=>l<|gG (OT q) fun o a b=>⟨o.cls,o.dict,g,o.slots,d,t,b▸a,e▸n,cI _⟩
structure KY (Z:PX):Prop where
 ZK:PA Z.K 66 "__init__" "QuotientFilterError.__init__" (BP 3 0) [("__class__",54)]
 Rq:PA Z.K 37 "__init__" "ProbablesBaseException.__init__" (BP 2 0) [("__class__",25)]
 c54:Ls Z.K 54 69=true
 c25:Ls Z.K 25 47=true
 d47:(clsIn Z.K 47).isSome=true
 m69:mroIn Z.K 69 (.ref 69)=some true
 m47:mroIn Z.K 69 (.ref 47)=some true
 mE:mroIn Z.K 69 (.type "Exception")=some true
 ZL:nsIn Z.K mainGlobals "super" = some none
 f65:Jg Z.K 65 Z.prog.main.file=true
 f36:Jg Z.K 36 Z.prog.main.file=true
 ZM:(Z.prog.main.scope.names.lookup ("super":Str)).isSome=false
 thp:nsIn Z.K cStatics "thirdparty.any" = some none
 s66:ks_superIn Z.K 69 69 "__init__" = some (some<|.ref 37)
 s37:ks_superIn Z.K 69 47 "__init__" = some (some<|.builtin "Exception.__init__")
 t37:typeIn Z.K (.ref 37)=some (.type "function")
 k37:fnIn Z.K 37=true
noncomputable def Xm (T:VT):VT:=fun b G P=>T b G fun o a=>match o with
 |.ref e=>∃ t d k f mv,a e=some (.obj<|Am t<|some d)/\a d=some (.dict k f)/\f "message" = some mv/\(∀ i,mv≠.bi i)/\P mv a
 |_=>False
theorem M8 (r:KX Z)(y:Ev Z c e T) (B:Dh e=false):Ev Z c (.Attribute e "message" h) (Xm T):=by
 refine fun A i L s m K G P Q E j F p R t q=>Attribute_any_ (y j F p R t fun v mv H J a b g n l=>mv6 b ?_)<|rE (arm_eval_Attribute ..)<|rE (Cw B ..) rfl
 .refine fun _=>fun z=>?_;revert a;exact rE z fun a=>fun b=>have z:=VR.irf a;rE z<|bc fun o=>xE5 b fun t d k f mv=>xA5 fun D C w x u=>o<|Ul r j.X n l D C w x fun v I a=>q v mv H _ a u (g.trans<|Sm.t _ _) n l
noncomputable def Xn (T g:VT):XT:=fun b G P=>T b G fun v h=>g b h fun o a=>match o with
 |.ref e=>(∃ t,a e=some (.obj<|Am t none)/\∀ d,a d=none->P .next b (((a.set d<|.dict 0 fun _=>none).set e<|.obj<|Am t<|some d).set d<|.dict 1<|upd (fun _=>none) "message" v))\/
   (∃ t d k f,a e=some (.obj<|Am t<|some d)/\a d=some (.dict k f)/\k<=900/\P .next b (a.set d<|.dict (k+1)<|upd f "message" v))
 |_=>False
theorem NA (n:KX Z)(h:Ev Z c a T) (V:Ev Z c o M)
  (U:∀ B,swapsWith a (some<|.Attribute o "message" b) j.line B=pure false):Ss Z c (.Assign [.Attribute o "message" b] a j) (Xn T M):=by
 refine fun A J L s m I G P Q E p F l R t q=>plainObj_wpAny_Assign_Attribute (h p F l R t fun v mv G1 s1 K O i F1 R1=>V p F1 l R1 O fun v2 S G2 s2 e u g r N=>mv6 u ?_)<|U _
 .refine fun _=>fun z=>?_;revert e;refine rE z fun e=>fun u=>have z:=VR.irf e;rE z ?_;rcases u with⟨t,C,y⟩|⟨t,d,k,f,C,e2,W,y⟩
  .exact SM n (p.X.keeps r.keep) r N n.tk C K fun d x Y w H D=>q _ _ I _ m x .next (y d Y) ((i.trans g).trans w) H l D
  .exact SK n (p.X.keeps r.keep) r N n.tk C e2 K W fun x w H D=>q _ _ I _ m x .next y ((i.trans g).trans w) H l D
def fcX (f:Addr) (a:Str) (b:Stmt) (c:Addr) (n:Nat):FC:=⟨a,Af b,f,.ref<|f-1,[("__class__",c)],["self","message"],n⟩
inductive sBI (args:List MV) (G:St) (P:MV->St->Prop):Prop
 |mk (e t d k:Nat) (f:Str->Option MV) (v:MV) (ha:args=[.ref e,v]) (hb:∀ i,v≠.bi i) (h1:G e=some (.obj<|Am t<|some d)) (h2:G d=some (.dict k f)) (hk:k<=900)
  (hp:∀ t',P .none<|(G.set d<|.dict (k+1)<|upd f "message" v).set e<|.obj<|Am t'<|some d)
inductive sEI (args:List MV) (G:St) (P:MV->St->Prop):Prop
 |mk (e t:Nat) (v:MV) (ha:args=[.ref e,v]) (hb:∀ i,v≠.bi i) (h1:G e=some (.obj<|Am t none))
  (hp:∀ t' d G',(∀ a,a≠e->G a≠none->G' a=G a)->G' e=some (.obj<|Am t'<|some d)->P .none G')
theorem Ur (kx:KX Z) (p:KY Z):Sp Z 2 37 sBI:=by
 rintro A aO L a0 s m G P R' aM aR V F R hv ⟨e,t,d,k,f,v,ha,hb,h1,h2,hk,hp⟩ q;subst ha;refine VRs.kco hv fun _ _ z ae O=>?_;clear hv;subst z;cases O with
 | @cons vv _ _ _ O ay=>
 refine bc fun n=>have z:=VRs.inl ay;?_;revert n;refine rE z fun n=>have z:=VR.irf ae;?_;clear ae;subst z;refine xE3 V.bel fun aS aP aq=>xA2 fun B hA=>gG R fun W N r=>xE8 p.Rq.ex fun oc od kV a3 pm an ct aU=>xA2 fun ho aJ=>n<|ks_code_super (binds:=[("self",.ref e),("message",vv)]) B F V.X N V.T hA V.fr V.kf ho aJ (by have:=V.dep;exact (la2 0x608808411008440011) this) (.of_eq rfl) (locs rfl) (fun g L' aN FG F' N' B' X' T' lt=>have l:Cx Z 1 (A.deeper<|envX "ProbablesBaseException.__init__" (Af<|BP 2 0) L' 37 (.ref 36) [("__class__",25)]) g L' (envX "ProbablesBaseException.__init__" (Af<|BP 2 0) L' 37 (.ref 36) [("__class__",25)]):=V.deeper (To _) B' X' T' rfl rfl<|D9 (f:=37);?_) (by decide) rfl rfl rfl;have lr:LR ["self","message"] [some<|.ref e,some v] (fun y=>([("self",Value.ref e),("message",vv)]:List<|Str×Value).reverse.lookup y):=
  LR.start (names:=["self","message"]) (rest:=[]) (by decide) rfl<|.cons (.ref _)<|.cons O .nil
 have aG:e≠d:=fun x=>by replace h1:=h2▸x▸h1;cases h1
 refine ks_wpAt_execs_cons<|c9<|(NA (c:=fcX 37 "ProbablesBaseException.__init__" (BP 2 0) 25 1) kx (AQ 1) (AQ 0) fun _=>rfl) (P:=fun mf Y G2=>mf=.next/\Y=[some<|.ref e,some v]/\G2=G.set d (.dict (k+1)<|upd f "message" v)) l F' lr ⟨W,N',r⟩ (.inr ⟨t,d,k,f,h1,h2,hk,rfl,rfl,rfl⟩) fun fl mf Y G2 m2 s2 hf hP ao F2 H R2=>?_;refine bc fun n=>?_;refine xP hP<|xA2 fun E=>?_;revert hf;refine rE E ?_;intro hf;refine xA2 fun w=>?_;revert H;refine rE w ?_;intro H;intro z2;revert R2;refine rE z2 ?_;intro R2;have z:=FlR.ine hf;revert n;refine rE z ?_;intro n;refine n ?_;dsimp only;have J:(G.set d<|.dict (k+1)<|upd f "message" v) e=some (.obj<|Am t<|some d):=(St.AG _ _ aG).trans h1;refine bc fun n=>?_;refine xP (R2.Cv J)<|xA4 fun aw _ aX _=>?_;refine xE1 (R2.get<|St.AH G d<|.dict (k+1)<|upd f "message" v) fun _=>xA3 fun aI E=>?_;revert E;refine xF2 fun es nn=>xA2 fun w=>?_;subst w;intro _;intro _;have I2:InstAt s2.heap e (Am t<|some d) 69 (some<|dictOf es nn):=⟨aw,rfl,rfl,aI⟩;refine gG (H.get (i:=0) (x:="self") rfl rfl) fun sv aF af=>?_;have z:=VR.irf af;clear af;subst z;refine xE6 (Hw p.f36) fun bf a8 vs bb cf a4=>xA3 fun S ax Q=>?_;refine xE3 (Jf p.c25) fun a7 a6 a5=>fun U=>?_;refine xE1 (Option.isSome_iff_exists.mp p.d47) fun a9=>fun hD=>?_;refine gG R2 fun av N2 r2=>?_;refine n<|ks_wpAt_execs_cons<|ks_wpAt_Expr_any<|ks_wpAt_MethodCall (ks_node F2 l.X N2 l.T ho rfl aF I2 S ax Q U hD p.m47 p.ZL (by decide) rfl rfl rfl rfl p.ZM PyProof.Rows.Boot.«super» fun so u F3 N3 aW=>have X3:Z.K.In u:=l.X.keeps F3.keep;have R3:SR g L' u (G.set d<|.dict (k+1)<|upd f "message" v):=⟨_,N3,fun a o x=>let⟨ob,h,h'⟩:=r2 a o x;⟨ob,.tail _ h,h'⟩⟩;bc fun n=>xP (R3.Cv J)<|xA3 fun aa _ _=>xE1 (R3.get<|St.AH G d<|.dict (k+1)<|upd f "message" v) fun _=>xA3 fun aH E=>?_);revert E;refine xF2 fun aL ar=>xA2 fun w=>?_;subst w;refine fun _=>fun _=>have I3:InstAt u e (Am t<|some d) 69 (some<|dictOf aL ar):=⟨aa,rfl,rfl,aH⟩;gG (bP.mp kx.mro) fun cd hc aZ=>n<|have I:=p.s37;?_;unfold ks_superIn at I;replace I:=hc▸I;refine Nz (so:=so) (D:=47) (x:=e) (C:=69) (N3 _<|.head _).1 (looks_opaque X3 p.thp) ((looks_clsIn X3 hc).andThen .now) rfl X3 I aa rfl (looks_mroIn X3 p.mE) (ks_ne X3 I3 hc) rfl<|xP (SR.push (ob:=FF e) (mo:=.obj<|FF e) F3 R3 ⟨rfl,rfl⟩)<|xA2 fun F4 R4=>have b:=R3.fresh;?_;have az:e≠u.objs.size:=fun x=>by replace b:=J▸x.symm▸b;exact xsn b
 have aD:d≠u.objs.size:=fun x=>by replace b:=(St.AH ..)▸x.symm▸b;exact xsn b
 refine have ai:((G.set d<|.dict (k+1)<|upd f "message" v).set u.objs.size<|.obj<|FF e) e=some (.obj<|Am t<|some d):=(St.AG _ _ az).trans J;callWith_of (P:=fun h=>h.get? u.objs.size=some (FF e)) rfl (fun h hq=>⟨.machine,.inr<|.inl rfl,Uo hq⟩)<|evalArgs_plain<|(AS (c:=fcX 37 "ProbablesBaseException.__init__" (BP 2 0) 25 1) (M8 kx (AQ 0) rfl) Az).1 (P:=fun ms G5=>G5=(G.set d<|.dict (k+1)<|upd f "message" v).set u.objs.size (.obj<|FF e)/\ms=[v]) l F4 H R4 ⟨t,d,k+1,upd f "message" v,v,ai,((St.AG _ _ aD).trans<|St.AH ..),cA rfl,hb,rfl,rfl⟩ fun aT aV G5 s5 j aK ak F5 R5=>xP aK<|xA2 fun E=>?_;subst E;intro w;revert j;refine rE w fun j=>xE1 (R5.get<|St.AH _ u.objs.size<|.obj<|FF e) fun _=>xA3 fun aE E=>?_;revert E;refine xA2 fun w=>?_;subst w;refine fun _=>fun _=>⟨aE,VRs.kco j fun _ _ z aY ab=>?_⟩;clear j;subst z;have z:=VRs.inl ab;clear ab;subst z;refine Up kx (l.X.keeps F5.keep) F5 R5 ai (St.AH ..) fun t' s6 aj F6 R6=>(c9 (wpAny_execs_nil<|gG R6 fun M N6 r6=>leaveK_ F6 N6 fun F7 N7=>q _ _ _ s6 .none (hp t') (((((Sm.ht s _ _).trans ao).trans<|Sm.ht _ _ _).trans ak).trans aj) F7 ⟨M,N7,fun a o x=>r6 a o ?_⟩):PySem.wpAt _ _ _ (execs [] _) _ _ _);by_cases ah:a=e
 .subst ah;rw[St.AH]at x ⊢;exact x
 .rw [St.AG _ _ ah]at x ⊢;by_cases ag:a=u.objs.size
  .revert x;exact rE ag fun x=>have x:=b▸x;xns x
  .exact rE (St.AG _ _ ag) x
theorem Us (kx:KX Z) (p:KY Z):Sp Z 4 66 sEI:=by
 rintro A aU L a8 s m G P R' aS aW cx F R hv ⟨e,t,v,C,hb,h1,hp⟩ q;revert hv;refine rE C fun hv=>VRs.kco hv fun _ _ z aF U=>?_;clear hv;subst z;cases U with
 | @cons vv _ _ _ U aE=>
 refine bc fun b=>have z:=VRs.inl aE;?_;revert b;refine rE z fun b=>have z:=VR.irf aF;?_;revert b;refine rE z fun b=>xE3 cx.bel fun aX aV ar=>xA2 fun B hA=>gG R fun ae N r=>xE8 p.ZK.ex fun oc od kV a9 pm an ct aZ=>xA2 fun ho aM=>b<|ks_code_super (binds:=[("self",.ref e),("message",vv)]) B F cx.X N cx.T hA cx.fr cx.kf ho aM (by have:=cx.dep;exact (la2 0x608808421008440011) this) (.of_eq rfl) (locs rfl) (fun g L' aT FG F' N' B' X' T' lt=>have j:Cx Z 3 (A.deeper<|envX "QuotientFilterError.__init__" (Af<|BP 3 0) L' 66 (.ref 65) [("__class__",54)]) g L' (envX "QuotientFilterError.__init__" (Af<|BP 3 0) L' 66 (.ref 65) [("__class__",54)]):=cx.deeper (To _) B' X' T' rfl rfl<|D9 (f:=66);?_) (by decide) rfl rfl rfl;have lr:LR ["self","message"] [some<|.ref e,some v] (fun y=>([("self",Value.ref e),("message",vv)]:List<|Str×Value).reverse.lookup y):=
  LR.start (names:=["self","message"]) (rest:=[]) (by decide) rfl<|.cons (.ref _)<|.cons U .nil
 refine ks_wpAt_execs_cons<|c9<|(NA (c:=fcX 66 "QuotientFilterError.__init__" (BP 3 0) 54 3) kx (AQ 1) (AQ 0) fun _=>rfl) (P:=fun mf af l=>mf=.next/\af=[some<|.ref e,some v]/\∃ d,G d=none/\l=((G.set d<|.dict 0 fun _=>none).set e<|.obj<|Am t<|some d).set d (.dict 1<|upd (fun _=>none) "message" v)) j F' lr ⟨ae,N',r⟩ (.inl ⟨t,h1,fun d hd=>⟨rfl,rfl,d,hd,rfl⟩⟩) fun fl mf af l m2 s2 hf hP aq F2 E R2=>bc fun b=>xP hP<|xA2 fun Q=>?_;revert hf;refine rE Q fun hf=>xA2 fun D=>?_;revert E;refine rE D fun E=>xF1 fun d=>xA2 fun w=>fun z2=>?_;revert R2;refine rE z2 fun R2=>have z:=FlR.ine hf;?_;revert b;refine rE z fun b=>b ?_;dsimp only;have aJ:e≠d:=fun x=>by replace w:=h1▸x.symm▸w;exact xsn w
 generalize ab:((G.set d<|.dict 0 fun _=>none).set e<|.obj<|Am t<|some d).set d (.dict 1<|upd (fun _=>none) "message" v)=l at R2;have O:l e=some (.obj<|Am t<|some d):=rS ab<|rE (St.AG _ _ aJ)<|rE (St.AH ..) rfl;have M:l d=some (.dict 1<|upd (fun _=>none) "message" v):=rS ab<|rE (St.AH ..) rfl;have ah:∀ a,a≠e->G a≠none->l a=G a:=fun a C I=>by
  have J:a≠d:=fun x=>by replace I:=w▸x▸I;exact I rfl
  exact rS ab<|rE (St.AG _ _ J)<|rE (St.AG _ _ C)<|rE (St.AG _ _ J) rfl
 refine bc fun b=>xP (R2.Cv O)<|xA4 fun az _ a5 _=>xE1 (R2.get M) fun _=>xA3 fun aL Q=>?_;revert Q;refine xF2 fun es nn=>xA2 fun D=>?_;subst D;refine fun _=>fun _=>have I2:InstAt s2.heap e (Am t<|some d) 69 (some<|dictOf es nn):=⟨az,rfl,rfl,aL⟩;gG (E.get (i:=0) (x:="self") rfl rfl) fun sv V aG=>have z:=VR.irf aG;?_;revert V;refine rE z fun V=>xE6 (Hw p.f65) fun bp bj vs bo cf bb=>xA3 fun Y aD W=>xE3 (Jf p.c54) fun bh bg bf=>fun aa=>gG (bP.mp kx.mro) fun bk hD a7=>gG R2 fun aw N2 r2=>b<|ks_wpAt_execs_cons<|ks_wpAt_Expr_any<|ks_wpAt_MethodCall (ks_node F2 j.X N2 j.T ho rfl V I2 Y aD W aa hD p.m69 p.ZL (by decide) rfl rfl rfl rfl p.ZM PyProof.Rows.Boot.«super» fun so h3 F3 N3 a4=>have X3:Z.K.In h3:=j.X.keeps F3.keep;have R3:SR g L' h3 l:=⟨_,N3,fun a o x=>let⟨ob,h,h'⟩:=r2 a o x;⟨ob,.tail _ h,h'⟩⟩;bc fun b=>xP (R3.Cv O)<|xA3 fun ay _ _=>xE1 (R3.get M) fun _=>xA3 fun aK Q=>?_);revert Q;refine xF2 fun aR av=>xA2 fun D=>?_;subst D;refine fun _=>fun _=>b<|have I3:InstAt h3 e (Am t<|some d) 69 (some<|dictOf aR av):=⟨ay,rfl,rfl,aK⟩;ks_method (s:={s2 with heap:=h3}) F3 j.X N3 (.head _) I3 p.thp p.s66 p.t37 rfl fun n h4 F4 N4 ax=>?_;have R4:SR g L' h4 (l.set n<|.obj<|methodObj (.ref 37)<|.ref e):=⟨_,N4,fun a o x=>by
  by_cases C:a=n
  .replace x:=(St.AH ..)▸C▸x;cases x;exact rE C ⟨_,.head _,rfl,rfl⟩
  .replace x:=(St.AG _ _ C)▸x;refine bc fun b=>?_;refine gG (r2 a o x) fun ob h h'=>?_;refine b ?_;exact⟨ob,.tail _<|.tail _ h,h'⟩⟩
 have k:l n=none:=by
  exact oE (l n) (fun x=>rfl) fun o x=>gG (r2 n o x) fun ob h _=>absurd (ax _<|.tail _ h)<|cY _
 have aH:e≠n:=fun x=>by replace k:=O▸x.symm▸k;exact xsn k
 have aI:d≠n:=fun x=>by replace k:=M▸x.symm▸k;exact xsn k
 refine have aj:(l.set n<|.obj<|methodObj (.ref 37)<|.ref e) e=some (.obj<|Am t<|some d):=(St.AG _ _ aH).trans O;have ai:(l.set n<|.obj<|methodObj (.ref 37)<|.ref e) d=some (.dict 1<|upd (fun _=>none) "message" v):=(St.AG _ _ aI).trans M;callWith_M (q:=n) (g:=37) (self:=.ref e) j.X N4 (.head _) p.k37<|(AS (c:=fcX 66 "QuotientFilterError.__init__" (BP 3 0) 54 3) (M8 kx (AQ 0) rfl) Az).1 (P:=fun ms G5=>G5=l.set n (.obj<|methodObj (.ref 37)<|.ref e)/\ms=[v]) j F4 E R4 ⟨t,d,1,upd (fun _=>none) "message" v,v,aj,ai,cA rfl,hb,rfl,rfl⟩ fun aY a3 G5 s5 u aP ao F5 R5=>bc fun b=>xP aP<|xA2 fun Q=>?_;revert R5;refine rE Q fun R5=>fun D=>?_;revert u;refine rE D fun u=>xP (R5.Cv<|St.AH l n<|.obj<|methodObj (.ref 37)<|.ref e)<|xA3 fun ag _ _=>b ⟨⟨ag,j.X.keeps F5.keep⟩,wpAny_call<|method_call ag<|(Ur kx p) (P:=fun r G6=>r=.none/\∃ t',G6=((l.set n<|.obj<|methodObj (.ref 37)<|.ref e).set d<|.dict 2<|upd (upd (fun _=>none) "message" v) "message" v).set e (.obj<|Am t'<|some d)) (j.less<|by decide) F5 R5 (.cons (.ref e) u) ⟨e,t,d,1,_,v,rfl,hb,aj,ai,by decide,fun t'=>⟨rfl,t',rfl⟩⟩ fun v6 a0 G6 s6 a6 aO ak F6 R6=>bc fun b=>xP aO<|xA2 fun Q=>xF1 fun t'=>fun D=>?_⟩;revert R6;refine rE D fun R6=>b ?_;show PySem.wpAt _ _ _ (execs [] _) _ _ _;refine c9<|wpAny_execs_nil<|gG R6 fun S N6 r6=>leaveK_ F6 N6 fun F7 N7=>q _ _ _ s6 .none (hp t' d _ (fun a C I=>have H:=ah a C I;?_)<|St.AH ..) (((((Sm.ht s _ _).trans aq).trans<|Sm.ht _ _ _).trans ao).trans ak) F7 ⟨S,N7,r6⟩;have J:a≠d:=fun x=>by replace I:=w▸x▸I;exact I rfl
 have aN:a≠n:=fun x=>by replace H:=k▸x▸H;exact I<|rE x H.symm
 exact rE (St.AG _ _ C)<|rE (St.AG _ _ J)<|rE (St.AG _ _ aN)<|rE H rfl
noncomputable def Fly (b:Heap) (l:List Env) (G:St) (e:Addr) (c:Heap):Prop:=
 ∃ B a d,b.StaysIn B/\(∀ q∈a,B.get? q.1=some q.2/\b.get? q.1=none)/\Rep a G/\Heap.FlyingW B l e (.ref 69) d c
inductive Thr (base:Heap) (outer:List Env) (h₀:Heap) (L:Addr) (env:Env) (G:St) (e:Addr) (h':Heap):Prop
 |made (m:Str->Option Value) (G2:St) (t:Addr) (d:Option Addr) (F:Fr h₀ L h' m) (R:SR h₀ L h' G2) (hG:∀ a o,G a=some o->G2 a=some o) (hn:G e=none) (he:G2 e=some (.obj<|Am t d))
 |on (m:Str->Option Value) (g:Heap) (F:Fr h₀ L g m) (f:Fly base (env::outer) G e h') (u:g.UpToSlots h')
theorem Thr.sub (h:Thr i b c L k G e q) (l:∀ a o,n a=some o->G a=some o):Thr i b c L k n e q:=by
 induction h with
 |made m A t d F R r p he=>
  refine .made m A t d F R (fun a o x=>r a o<|l a o x) (oE (n e) (fun x=>rfl) fun o x=>?_) he
  .rw [l e o x]at p;exact xsn p
 |on m g F f u=>
  exact xE3 f fun B j z=>xA4 fun y w v s=>.on m g F ⟨B,j,z,y,w,fun a o x=>v a o<|l a o x,s⟩ u
theorem Thr.leave (h:Thr i c l L j G e w.heap)
  (K:Below I i c l) (Z:A.frames=some (j::c)) (J:j.frame=some L) (hl:j.locals=L) (hk:j.scope.kind=.function)
  (q:∀ v,Fly i c G e v->l.UpToSlots v->Q () {w with heap:=v}):wpAny M A (leaving j<|.ref e) Q E w:=by
 induction h with
 |made m G2 t d F R hG hn T=>
  refine bc fun C=>xP (R.Cv T)<|xA4 fun S _ aa P=>gG R fun k N r=>C ?_;have U:i.get? L=none:=by
   exact oE (i.get? L) (fun x=>rfl) fun o x=>absurd (cj (Heap.lt_size<|K.stays L o x) F.above)<|cY _
  have H:w.heap.FunFrames i (j::c):=.cons (by refine rE hk ?_;decide) J F.ns U<|K.frames.of_keeps fun b o x _=>⟨o,F.keep b o x,rfl⟩;have st:i.StaysIn (hideAll w.heap (e::(j::c).filterMap (·.frame))):=fun b o x=>hideAll_get _ (F.keep _ _<|K.stays b o x) fun n=>by
   rcases bM.mp n with rfl|n
   .have:=K.stays b o x;rw[P]at this;exact xns this
   .rw [(H.mem n).1]at x;exact xns x
  refine wpAny_leaving_firstW (base:=hideAll w.heap (e::(j::c).filterMap (·.frame))) (a0:=.ref t) Z (funFrames_hide H fun X T b hb=>.tail _<|List.mem_filterMap.mpr ⟨X,T,hb⟩) J S (fun b o x=>of_hideAll _ x) (hideAll_none _<|.head _) rfl rfl rfl fun v hL=>xP hL<|xA3 fun k1 z0=>?_;revert z0;refine xA3 fun _ _ k2=>xA2 fun k3 k4=>q v ⟨_,k.filter fun p=>decide<|p.1≠e,_,st,fun p y=>?_,fun a o x=>bc fun C=>gG (r a o<|hG a o x) fun ob W V=>C ⟨ob,b9.mpr ⟨W,Ti fun z=>by rw[show a=e from z,hn]at x;exact xns x⟩,V⟩,k1,hideAll_none _<|.head _,k2,k3⟩<|(Heap.UpToSlots.of_keeps F.keep).trans k4
  .refine xP (b9.mp y)<|xA2 fun y O=>⟨hideAll_get _ (N p y).1 fun n=>T1 (bM.mp n) (fun rfl=>(bU O) rfl) fun n=>?_,fresh_of_stays K.stays (N p y).2.2⟩
   .refine gG (List.mem_filterMap.mp n) fun X s D=>?_;rcases bM.mp s with rfl|s
    .exact (N p y).2.1<|cw<|D.symm.trans J
    .refine gG ((K.frames.mem<|List.mem_filterMap.mpr ⟨X,s,D⟩).2) fun o Y _=>?_;rw[(N p y).2.2]at Y;exact xns Y
 |on m g F f u=>
  exact bc fun C=>xE3 f fun B k a0=>xA4 fun W V h3 h4=>C<|wpAny_leaves_onW Z J h4 fun v x1 x2=>q v ⟨B,k,a0,W,V,h3,x1⟩<|(Heap.UpToSlots.of_keeps F.keep).trans<|u.trans x2
theorem OA (F:A.handled=none)
  (h:wpAny M A x (fun v w=>∃ e t d,v=.ref e/\ZJ w.heap/\
   w.heap.get? e=some (Am t d)/\E (.ref e) w) E s):wpAny M A (raiseStmt c (some x) none) Q E s:=by
 have C:(Value.ref 69::EL).contains (.type "BaseException")=true:=by decide
 unfold raiseStmt;refine U2<|cg h (fun v w y=>bc fun B=>?_) fun _ _ x=>x;obtain⟨e,t,d,z,⟨n,r,N,p,k,a,l,b,m,o,j,u,q,i,D⟩,he,G⟩:=y;revert B;refine rE z fun B=>?_;obtain⟨J,g,K,H,I⟩:=w;refine B ?_;repeat (first|with_reducible refine cU he ?_|with_reducible refine cU D ?_|(with_reducible refine wpAny_isSubtype_exc D ?_;refine rE C ?_)|wp_step)
 exact wpAny_raiseNew_none F G
noncomputable def Ut (j:AT):VT:=fun g G P=>j g G fun h b=>match h with
 | [v]=>(∀ i,v≠.bi i)/\∀ e t d f,b e=none->(∀ a,b a≠none->f a=b a)->f e=some (.obj<|Am t<|some d)->P (.ref e) f
 |_=>False
theorem mv84 {f:MV->Prop}{g:Prop}(e:match d with | [a]=>f a|_=>False) (j:∀ a,d=[a]->f a->g):g:=by
 generalize h:d=b at e;revert e h;exact List.casesOn b (fun _=>False.elim) fun k i=>List.casesOn i (j _) fun _ _ _=>False.elim
theorem Xo (p:KX Z) (ky:KY Z)(hx:Ev Z c (.Name x xp)<|Br<|.ref 69) (u:Ea Z c i Ts) (hn:5<=c.n) :
  Ev Z c (.Call (.Name x xp) i [] M) (Ut Ts):=by
 refine fun A aa L s m ls G P Q E y F lr R t q=>Call_Name rfl<|hx (P:=fun v w=>v=.ref 69/\w=G) y F lr R ⟨rfl,rfl⟩ fun v mv G1 s1 O t1 K F1 R1=>bc fun b=>xP t1<|xA2 fun B=>?_;revert O;refine rE B fun O=>fun z1=>?_;revert t;refine rS z1 fun t=>have z:=VR.irf O;?_;revert b;refine rE z fun b=>b<|Cc (first:=[]) p.keep u y F1 lr R1 t fun o ms G2 e f D J F2 R2=>mv84 D ?_
 .refine fun v=>fun z=>?_;revert f;refine rE z fun f=>fun D=>bc fun b=>xP D<|xA2 fun hb hp=>have X2:=y.X.keeps F2.keep;?_;obtain⟨nm,qn,N,bs,sn,ae,ab,ag,dd,k0,k1,k2,k3,k5,hC⟩:=IX X2 p.ok;refine gG (bP.mp<|cD.mp p.f66) fun oI T U=>xP (SR.pushNone F2 R2 {cls:=.type "tuple",data:=.seq o.toArray}) (xA2 fun F3 R3=>have S:(e.heap.push {cls:=.type "tuple",data:=.seq o.toArray}).objs.size=e.heap.objs.size+1:=Heap.size_push ..;xP (SR.push (ob:=Am e.heap.objs.size none) (mo:=.obj<|Am e.heap.objs.size none) F3 R3 ⟨rfl,rfl⟩)<|xA2 fun F4 R4=>b<|have l:=R3.fresh;?_);rw[S]at R4 l;have hl:o.length=1:=by refine rE f.length ?_;rfl
  have z:=fun Q' E' q'=>(Us p ky).call (s:={e with heap:=_}) (Q:=Q') (E:=E') (P:=fun r w=>r=.none/\(∀ a,G2 a≠none->w a=G2 a)/\∃ t d,w (e.heap.objs.size+1)=some (.obj<|Am t<|some d)) (y.under (C:=69) (vs:=o) ((la1 0x608808029000250a01) hn:4+1<=c.n)) F4 R4 (.cons (.ref<|e.heap.objs.size+1) f)
   ⟨_,_,v,rfl,hb,St.AH ..,fun H d w Y u=>⟨rfl,fun a V=>by
    have k:a≠e.heap.objs.size+1:=fun x=>by rw[x,l]at V;exact V rfl
    rw[Y a k<|by rw[St.AG _ _ k];exact V,St.AG _ _ k],H,d,u⟩⟩ q'
  refine bc fun b=>?_;obtain⟨hh,g,dr,tk,os⟩:=e;refine b<|SJ hC (looks_findIn X2 p.i69) (X2 _ _ T) U (z _ _ fun v5 af G5 s5 j W I F5 R5=>?_) (by refine(rE hl (rE cN ?_):o.length<=_);exact la [] [] 0x20840800040000030900<|by kernel_rfl);refine bc fun b=>xP W<|xA2 fun B=>?_;revert j;refine rE B fun j=>xA2 fun Y=>xF2 fun H d=>fun u=>have z:=VR.ino j;?_;revert b;exact rE z fun b=>b ⟨rfl,q _ _ G5 s5 (.ref _) (hp _ H d G5 l Y u) (((K.trans J).trans<|Sm.h _ _).trans I) F5 R5⟩
noncomputable def Tr (Z:PX) (c:FC) (g:List Stmt) (T:LS->St->(St->Prop)->Prop):Prop:=
 ∀ ⦃A f:Around⦄ ⦃d:Heap⦄ ⦃b:List Env⦄ ⦃a:Heap⦄ ⦃L:Addr⦄ ⦃s:Shared⦄ ⦃m:Str->Option Value⦄ ⦃i:LS⦄ ⦃G:St⦄ ⦃P:St->Prop⦄ ⦃Q:Flow->Shared->Prop⦄ ⦃E:Value->Shared->Prop⦄,
  Cx Z c.n A a L (c.env L)->Below f d b a->A.frames=some (c.env L::b)->Fr a L s.heap m->LR c.vs i m->SR a L s.heap G->T i G P->
  (∀ e h j,P j->Sm s h->Thr d b a L (c.env L) j e h.heap->E (.ref e) h)->wpAny Z.md A (execs g<|c.env L) Q E s
noncomputable def Er (Z:PX) (c:FC) (x:Expr) (T:LS->St->(St->Prop)->Prop):Prop:=
 ∀ ⦃A f:Around⦄ ⦃d:Heap⦄ ⦃b:List Env⦄ ⦃a:Heap⦄ ⦃L:Addr⦄ ⦃s:Shared⦄ ⦃m:Str->Option Value⦄ ⦃h:LS⦄ ⦃G:St⦄ ⦃P:St->Prop⦄ ⦃Q:Value->Shared->Prop⦄ ⦃E:Value->Shared->Prop⦄,
  Cx Z c.n A a L (c.env L)->Below f d b a->A.frames=some (c.env L::b)->Fr a L s.heap m->LR c.vs h m->SR a L s.heap G->T h G P->
  (∀ e g i,P i->Sm s g->Thr d b a L (c.env L) i e g.heap->E (.ref e) g)->wpAny Z.md A (eval x<|c.env L) Q E s
noncomputable def Rz (Z:PX) (n:Nat) (f:Addr) (T:List MV->St->(St->Prop)->Prop):Prop:=
 ∀ ⦃A j:Around⦄ ⦃g:Heap⦄ ⦃b:List Env⦄ ⦃a:Heap⦄ ⦃L:Addr⦄ ⦃i:Env⦄ ⦃s:Shared⦄ ⦃m:Str->Option Value⦄ ⦃G:St⦄ ⦃P:St->Prop⦄ ⦃l:Result->Shared->Prop⦄ ⦃d:List Value⦄ ⦃h:List MV⦄,
  Cx Z n A a L i->Below j g b a->A.frames=some (i::b)->Fr a L s.heap m->SR a L s.heap G->VRs d h->T h G P->
  (∀ e k o,P o->Sm s k->Thr g b a L i o e k.heap->l (.error<|.ref e) k)->codeAny Z.md A (.call (.ref f) ⟨d,[]⟩) l s
inductive Uu (P:St->Prop) (v:MV) (G':St):Prop
 |mk (e t d:Addr) (G1:St) (hv:v=.ref e) (hp:P G1) (hn:G1 e=none) (hG:∀ a,G1 a≠none->G' a=G1 a) (he:G' e=some (.obj<|Am t<|some d))
theorem HB (w:KX Z)(S:KY Z)(T:Ev Z c (.Name x r)<|Br<|.ref 69)(h2:Ea Z c b H)(W:autoParam (5<=c.n) dc) :
  Tr Z c (.Raise (some<|.Call (.Name x r) b [] cp) none h::f) (fun u G P=>Ut H u G<|Uu P):=by
 intro A K D i y L s m u G P Q E p B hA F O R t q;refine cy<|rE (arm_exec_Raise ..)<|U2<|wpAny_standAt<|OA p.hh<|U2<|(Xo w S T h2 W) p F O R t fun v mv G' N k Y M J I=>bc fun j=>?_;obtain⟨e,t,d,G1,g,U,l,hG,C⟩:=Y;revert k;refine rE g fun k=>have z:=VR.irf k;?_;revert j;exact rE z fun j=>xP (I.Cv C)<|xA3 fun V _ _=>j<|U2<|wpAny_standAt<|bZ ⟨e,t,some d,rfl,IX (p.X.keeps J.keep) w.ok,V,q e N G1 U M<|.made m G' t (some d) J I (fun a o x=>(hG a<|rE x<|L0 _).trans x) l C⟩
theorem IY (K:Ss Z c k X) (J:Tr Z c a T):Tr Z c (k::a) (fun n G P=>X n G fun l b u=>l=.next/\T b u P):=by
 intro A v r g o L s m n G P Q E p B I F C R t q;refine cy<|K p F C R t fun f l b u U S i j x O h M=>xP j<|xA2 fun w=>?_;revert i;exact rE w fun i=>fun j=>have z:=FlR.ine i;rE z<|J p B I O h M j fun e y N H d D=>q e y N H (x.trans d) D
theorem NB (h:Tt Z c d B) (H:Tr Z c f T):Tr Z c (.If d f a l::g) (fun o G P=>B o G fun b K=>b=true/\T o K P):=by
 intro A w v n r L s m o G P Q E u N D F p R t q;exact cy<|wpAny_If<|h u F p R t fun b S O i k M I=>xP i<|xA2 fun x=>rE x fun i=>H u N D M p I i fun e y J C j z=>q e y J C (k.trans j) z
theorem Uv (h:Er Z c e T) (k:iK c) (n:CO e=true):Tr Z c (.Expr e b::a) T:=fun A i g d f L s m p G P Q E o B l F j R t q=>cy<|wpAny_Expr_any (h o B l F j R t q) (by refine(rE k ?_:(c.scope.kind==.module&&_)=false);rfl)<|Bn n _ _ _
theorem Rz.weaken (h:Rz Z n f T) (o:∀ g G P,j g G P->T g G P):Rz Z n f j:=fun A k e a d L r s m G P v b i u B p F R l t q=>h u B p F R l (o _ _ _ t) q
theorem Jh {dflt:List Value}(h:FnAt Z.K f j d b dV)(hb:∀(s:Shared) (a:List Value) (J o E:Value) (Y:Option Addr) (W:Value),Z.K.In s.heap->a.length=na->BindsTo s (fnOf j d (EO b) (BO b) (Af b) dV J o E Y (.ref<|f-1) W) ⟨a,[]⟩ (names.zip<|a++dflt))(hd:VRs dflt dm)(l:Tr Z (fc f d b (names++rest) n) (BO b) X)(O:autoParam (na+dflt.length=names.length) rf)(z:autoParam ((names.all fun y=>decide<|(Af b).names.lookup y=some .local)=true) rf)(M:autoParam ((names++rest).Nodup) dc)(Q:autoParam ((Af b).kind=.function) rf)(k:autoParam (∀ x∈(Af b).names,x.2≠.cell) dc)(U:autoParam ((Af b).isCoroutine=false) rf)(C:autoParam ((Af b).isGenerator=false) rf)(hc:(f-1==503)=false:=by rfl) :
  Rz Z (n+1) f (fun i G P=>i.length=na/\X ((i++dm).map some++List.replicate rest.length none) G P):=by
 refine bc fun I=>xE8 h.ex fun oc od J o E Y W af=>xA2 fun ho V=>I ?_;intro A ae ab H aa L ag s m G P R' a i p B hA F R hv t q;refine bc fun I=>xP t (xA2 fun t0 t=>have w:a.length=na:=rE hv.length<|rE t0 rfl;gG R fun u N r=>I<|code_def B F p.X N p.T hA p.fr p.kf ho V (by have:=p.dep;exact (la3 0x182202102482008440011) this) (hb s a J o E Y W (p.X.keeps F.keep) w) (fun y hy=>?_) (fun g L' v FG F' N' D X' T'=>l (s:={s with heap:=v,toks:=s.toks+(names.zip<|a++dflt).length}) (p.deeper (To _) D X' T' rfl Q<|D9 hc) D (c0 D.stack) F' (LR.start (names:=names) (rest:=rest) M (rE cE<|rE w O)<|hv.append hd) ⟨u,N',r⟩ t fun e s' G' hp sm ht=>ht.leave D (c0 D.stack) rfl rfl Q fun h' S hu=>q e _ G' hp (((Sm.ht s _ _).trans sm).trans<|Sm.h _ _)<|.on m g FG S hu) U C Q k)
 .have:y.1∈names:=(List.of_mem_zip hy).1;exact bU<|List.all_eq_true.mp z _ this
noncomputable def Lu (C:Addr) (b:Str) (T:VT) (h:AT) (S:List MV->St->(St->Prop)->Prop):LS->St->(St->Prop)->Prop:=fun d G P=>T d G fun a e=>match a with
 |.ref x=>e.CA x C fun _ _ f=>f b=none/\h d e fun g i=>S (.ref x::g) i P
 |_=>False
theorem IZ 
  (H:Ak Z.K C a f=true) (h1:Ev Z c o T) (O:Ea Z c g V) (hS:Rz Z n f S) (hn:n<=c.n) (h0:Dh o=false) (D:(b.endLine==h.line)=true) (hl:decide (g.length<30)=true) :
  Er Z c (.Call (.Attribute o a b) g [] h) (Lu C a T V S):=by
 refine fun A aa U u M L s m ls G P Q E j B hA F J R t q=>xE1 (Cm (apos:=b) (pos:=h) h0 O.2 D a (c.env L) hl) fun pl=>fun he=>MethodCall_ (h1 j F J R t fun v mv G1 s1 y l r Y W=>mv6 l ?_) he
 .refine fun _=>fun z=>?_;revert y;refine rE z fun y=>fun l=>have z:=VR.irf y;rE z<|bc fun w=>xE3 (St.B4 l) fun d kk fl=>xA4 fun e1 e2 i k=>xE2 (W.inst e1 e2) fun es nn=>xA3 fun I hz hf=>gG (hf a) fun ov hg N=>w ?_;rw[i]at N;cases N;unfold Ak at H;simp only[bV]at H;refine bc fun w=>xP H<|xA2 fun z0=>?_;revert z0;refine xA2 fun z1=>?_;revert z1;exact xA2 fun a1 a2=>fun a3=>fun a4=>w<|method_inst Y j.X I a1 (cD.mp a2) a3 hg<|Cc (first:=[.ref _]) a4 O j Y J W k fun vs ms G2 s2 x k p F2 R2=>wpAny_call<|hS (j.less hn) B hA F2 R2 (.cons (.ref _) x) k fun e s' G' D sm ht=>q e s' G' D ((r.trans p).trans sm) ht
noncomputable def Vs (C:Addr) (g:AT) (S:List MV->St->(St->Prop)->Prop):LS->St->(St->Prop)->Prop:=fun e G P=>g e G fun f b=>∀ x d,b x=none->b d=none->x≠d->S (.ref x::f) ((b.set d<|.dict 0 fun _=>none).set x<|.inst C d) fun h=>(∀ a o,b a=some o->h a=some o)/\P b
theorem Xp (hx:Ev Z c (.Name x xp)<|Br<|.ref C) (hC:Km Z.K C fI=true) (h2:Ea Z c b Ts) (hS:Rz Z n fI S) (hn:n+1<=c.n) :
  Er Z c (.Call (.Name x xp) b [] H) (Vs C Ts S):=by
 refine fun A ae ab I j L s m ls G P Q E l B hA F lr R t q=>Call_Name rfl<|hx (P:=fun v G'=>v=.ref C/\G'=G) l F lr R ⟨rfl,rfl⟩ fun v mv G1 s1 T t1 D F1 R1=>bc fun d=>xP t1<|xA2 fun u=>?_;revert T;refine rE u fun T=>fun p=>?_;revert t;refine rS p fun t=>have z:=VR.irf T;?_;revert d;refine rE z fun d=>d ?_;unfold Km at hC;simp only[bV]at hC;refine bc fun d=>xP hC<|xA2 fun u=>?_;revert u;refine xA2 fun p=>?_;revert p;refine xA2 fun h5 h3=>fun h4=>fun h6=>d<|Cc (first:=[]) h6 h2 l F1 lr R1 t fun vs ms i s2 O t2 y F2 R2=>bc fun d=>gG (id R2) fun aa N r=>d<|call_cls F2 l.X N h5 (cD.mp h3) h4 fun g f h' F' N' hl k=>?_;have M:i g=none:=by
  refine oE (i g) (fun e=>?_) fun o e=>gG (r g o e) fun J U _=>absurd (Nat.lt_trans (hl _ U) k)<|cY _
  .rfl
 have V:i f=none:=by
  refine oE (i f) (fun e=>?_) fun o e=>gG (r f o e) fun J U _=>absurd (hl _ U)<|cY _
  .rfl
 have R':SR j L h' ((i.set f<|.dict 0 fun _=>none).set g<|.inst C f):=by
  refine⟨_,N',fun a o e=>?_⟩;by_cases Y:a=g
  .rw [Y,St.AH]at e;(refine soE e ?_;clear e);exact rE Y ⟨_,.head _,rfl⟩
  .rw [St.AG _ _ Y]at e;by_cases W:a=f
   .rw [W,St.AH]at e;(refine soE e ?_;clear e);exact rE W ⟨_,.tail _<|.head _,⟨[],0,rfl,To _,fun x=>⟨none,rfl,.none⟩⟩⟩
   .rw [St.AG _ _ W]at e;exact gG (r a o e) fun J h1 h2=>⟨J,.tail _<|.tail _ h1,h2⟩
 exact hS (l.under hn) B hA F' R' (.cons (.ref _) O) (t2 g f M V<|Nat.ne_of_gt k) fun e s3 G3 hp w ht=>q e s3 i hp.2 (((D.trans y).trans<|Sm.h _ _).trans w)<|ht.sub hp.1
noncomputable def Vt (T:VT):VT:=fun a G P=>T a G fun v b=>match v with
 |.int i=>(i=2\/i=32)/\∀ t,P (.str t) b
 |_=>False
set_option tactic.hygienic true in theorem Uw {D:Nat}{y x w:Pos}(h:Ev Z c e T) (f:decide (a.length<=1000)=true) (j:decide (b.length<=1000)=true) :
  Ev Z c (.JoinedStr [.Constant (.str a) D y,.FormattedValue e (-1) none x,.Constant (.str b) C w] n) (Vt T):=by
 refine fun A p L s m S G P Q E I F B R t q=>have f:=bU f;have j:=bU j;have k:(Str.empty++a).length=a.length:=rE (strLen_append ..)<|Nat.zero_add _;JoinedStr_many<|joinParts_cons<|wpAny_Constant_str ⟨rE k<|rE cN<|dk f,joinParts_cons<|wpAny_FormattedValue_plain<|h (s:={s with toks:=_}) I F B R t fun v mv K O r g l M J=>mv11 g ?_⟩
 .clear g;intro _;intro z;subst z;intro g;refine VR.kin r fun _ z=>?_;clear r;subst z;rename_i i N;obtain⟨u,H⟩:=g;have o:(toString i:Str).length<=2:=by rcases u with rfl|rfl<;>decide +kernel
  exact wpAny_formatField_int (by rcases u with rfl|rfl<;>decide +kernel) ⟨rE (strLen_append ..)<|rE k<|rE cN<|(la2 0x382302222000fa28000001000000c200202) f o,joinParts_cons<|wpAny_Constant_str ⟨rE (strLen_append ..)<|rE (strLen_append ..)<|rE k<|rE cN<|(la3 0x782402222000fa290003e8a0000004000003101001203) f j o,joinParts_nil (q _ _ K _ (.str _ _) (H _) (((Sm.t s _).trans l).trans<|Sm.t _ _) M J)<|rE (strLen_append ..)<|rE (strLen_append ..)<|rE k<|rE cN<|(la3 0x782402222000fa290003e8a0000004000003101001203) f j o⟩⟩
theorem Lv (b:KX Z)(e:iK c) (d:c.scope.names.lookup (Str.ofString "QuotientFilterError")=some .globalImplicit) (f:(("QuotientFilterError":Str)==("__debug__":Str))=false):Ev Z c (.Name "QuotientFilterError" a) (Br<|.ref 69):=
 Be b.Vr e d f
theorem PC (f:P G):∀ e t d b,G e=none->(∀ a,G a≠none->b a=G a)->b e=some (.obj<|Am t<|some d)->Uu P (.ref e) b:=fun e t d b i h g=>⟨e,t,d,G,rfl,f,i,h,g⟩
theorem OB {t:Str}(b:P G):Ut (DC (Br<|.str t) Hz) a G (Uu P):=⟨fun _ h=>(nomatch h),PC b⟩
theorem P7 :Ss Z c b NT:=fun A a L s m d G P Q E f F e R t q=>t.elim
inductive ZN (args:List MV) (G:St) (P:St->Prop):Prop
 |mk (D:QD) (S:QS) (a b:MV) (ha:args=[.ref D.x,a,b]) (h:Bz G D S) (hc:S.n=S.cnt) (hp:P G)
theorem Xq (k:KF Z) (d:KX Z) (f:KY Z):Rz Z 6 373 ZN:=by
 refine Rz.weaken (Jh (names:=["self","q","r"]) (rest:=[]) (n:=5) (na:=3) (dflt:=[]) (dm:=[]) k.Vb (Eu fun _ _ _ _ _ _ _ _ _=>.of_eq rfl) .nil<|NB (AW (An 0 k.DK EC)<|An 0 k.BV Ba)<|HB d f (Lv d rfl rfl rfl)<|AS E2 Az) ?_;rintro e G P ⟨D,S,a,b,c,h,i,g⟩;exact rE c ⟨rfl,[D.foot,[],[]],[some<|.qf S,some<|.v a,some<|.v b],true,.own (.qf h)<|.own (.v a)<|.own (.v b) .nil,(rE i (rE (cI ..) rfl):some ((S.n:Int)==(S.cnt:Int))=some true),rfl,OB g⟩
inductive Vu (args:List MV) (G:St) (P:St->Prop):Prop
 |mk (D:QD) (S:QS) (ha:args=[.ref D.x,.int 3]) (h:Bz G D S) (hc:8<=S.cnt) (hp:P G)
theorem P8 (k:KF Z) (d:KR Z) (g:KX Z) (j:KY Z):Rz Z 6 345 Vu:=by
 refine xE2 (IK d.Lo) fun o w=>xA2 fun p l=>Rz.weaken (Jh (names:=["self","quotient"]) (rest:=[]) (n:=5) (na:=2) (dflt:=[]) (dm:=[]) d.Lm (fun s e y t u B A X q=>?_) .nil<|IY (EY (AW (AB 1)<|AD K4) (Ae P7 BJ) BJ)
  (NB (AW (Ry k d 0 rfl rfl rfl rfl<|by decide)<|AJ (AD AE)<|AB 1)<|HB g j (Lv g rfl rfl rfl)<|AS E2 Az)) ?_
 .exact ln2 q fun a b z=>rE z<|binds_K X rfl p l rfl rfl
 rintro i G P ⟨D,S,c,h,r,m⟩;exact rE c<|have f:Loc G [D.foot,[]] [some<|.qf S,some<|.v<|.int 3] [some<|.ref D.x,some<|.int 3]:=.own (.qf h)<|.own (.v _) .nil;⟨rfl,_,_,false,f,rfl,rfl,_,_,true,f,(rE (Ti<|by exact (la1 0x60880804100020831) r) rfl:some (decide<|(8:Int)<=(S.cnt:Int))=some true),rfl,OB m⟩
inductive Vv (args:List MV) (G:St) (P:St->Prop):Prop
 |mk (D1 D2:QD) (S T:QS) (ha:args=[.ref D1.x,.ref D2.x]) (h1:Bz G D1 S) (h2:Bz G D2 T) (hf1:S.hf=485) (hf2:T.hf=492) (hp:P G)
theorem SQ (k:KF Z) (f:KL Z) (e:KU Z) (d:KX Z) (i:KY Z):Rz Z 6 352 Vv:=by
 refine Rz.weaken (Jh (names:=["self","second"]) (rest:=[]) (n:=5) (na:=2) (dflt:=[]) (dm:=[]) k.Qt (Bj fun _ _ _ _ _ _ _ _=>.of_eq rfl) .nil<|NB (AW (E4 k f e 0<|AD E2)<|E4 k f e 1<|AD E2)<|HB d i (Lv d rfl rfl rfl)<|AS E2 Az) ?_;rintro g G P ⟨r,q,S,T,b,m,l,c,a,j⟩;refine rE b ⟨rfl,[r.foot,q.foot],[some<|.qf S,some<|.qf T],true,.own (.qf m)<|.own (.qf l) .nil,?_,rfl,OB j⟩;have p:FE 0 (AP<|.str "test") [some<|.qf S,some<|.qf T]=some (.int (FD 97 116:Nat)):=by
  show(match EK S 116 with|some h=>some (MV.int (h:Nat))|none=>none)=_;unfold EK;exact iP (by exact la [] [] 0x20840801d28030d00<|by kernel_rfl)<|iP c rfl
 have o:FE 1 (AP<|.str "test") [some<|.qf S,some<|.qf T]=some (.int (FD 96 116:Nat)):=by
  show(match EK T 116 with|some h=>some (MV.int (h:Nat))|none=>none)=_;unfold EK;rw[cA<|by exact la [] [] 0x20840801d28030d00<|by kernel_rfl,b5<|by rw[a];decide,cA a]
 unfold Aw CF;refine rE p<|rE o ?_;decide +kernel
inductive SS (args:List MV) (G:St) (P:St->Prop):Prop
 |mk (x:Addr) (i:Int) (ha:args=[.ref x,.int i]) (hi:i=2\/i=32) (hp:P G)
theorem Ux (f:KN Z) (e:KX Z) (k:KY Z):Rz Z 6 202 SS:=by
 refine xE3 (Mu f.Vp) fun o w u=>xA2 fun p l=>Rz.weaken (Jh (names:=["self","quotient","auto_expand","hash_function"]) (rest:=[]) (n:=5) (na:=2) (dflt:=[.bool true,.none]) (dm:=[.bool true,.none]) f.Vo (fun s d y r v B A X q=>?_) (.cons (.bool _)<|.cons .none .nil)<|NB (KD (DO (AQ 1) AE)<|KD (DO (AQ 1) AE) HI)<|HB e k (Lv e rfl rfl rfl)<|AS (Uw (AQ 1) (by decide +kernel)<|by decide +kernel) Az) ?_
 .exact ln2 q fun a b z=>rE z<|binds_K X rfl p l rfl rfl
 rintro j G P ⟨x,i,rfl,g,m⟩;refine⟨rfl,?_⟩;have c:Ut (DC (Vt<|B3 1) Hz) [some<|.ref x,some<|.int i,some<|.bool true,some .none] G (Uu P):=⟨g,fun t=>⟨fun _ h=>(nomatch h),PC m⟩⟩;rcases g with rfl|rfl
 .exact ⟨true,rfl,rfl,c⟩
 .exact ⟨false,rfl,true,rfl,rfl,c⟩
inductive Vw (args:List MV) (G:St) (P:St->Prop):Prop
 |mk (n:Nat) (D:QD) (S:QS) (h:Nat) (ha:args=[.ref D.x,.int h]) (hI:Bz G D S) (nd:D.foot.Nodup) (hd:S.due=false) (hq:S.hq h<S.n) (hn:S.n<=1000) (hc:cal S n (S.hq h) (S.hr h)=some (-1)) (hf:S.n=S.cnt)
   (hp:∀(D':QD) G',D'.x=D.x->Bz G' D' S->D'.foot.Nodup->Fm D.foot G D'.foot G'->P G')
theorem OC (k:KF Z) (kx:KX Z) (ky:KY Z):Rz Z 9 295 Vw:=by
 refine Rz.weaken (Jh (names:=["self","_hash"]) (rest:=["key_quotient","key_remainder"]) (n:=8) (na:=2) (dflt:=[]) (dm:=[]) k.JE (Bj fun _ _ _ _ _ _ _ _=>.of_eq rfl) .nil<|IY (Ao (Al<|BW (A3<|An 0 k.DQ C8)<|BW (AW (AJ (AD AE)<|An 0 k.BV Ba)<|AJ (AD AE)<|An 0 k.DK EC) Bt) (AA Iu AI) AI)<|IY (Ab 1<|Ac<|AJ (AB 1)<|An 0 k.a_r JI)<|IY (Ab 2<|Ac<|AJ (AB 1)<|AJ (AJ (AD AE)<|An 0 k.a_r JI)<|AD AE)
   (NB (FO (BF 0 k.Bu (Bw k)<|AN (AB 2)<|AN (AB 3) Aa)<|Ac<|GG<|AD AE)
    (Uv (IZ k.Qv (AQ 0) (AS (AB 2)<|AS (AB 3) Az) (Xq k kx ky) (by decide) rfl rfl rfl) rfl rfl))) ?_
 rintro U G P ⟨n,D,S,x,s,hI,nd,hd,hq,hn,hc,hf,B⟩;refine rE s ?_;have e3:C6 0 (r2 cal) (Ai (AM 2)<|Ai (AM 3) BY) n [some<|.qf S,some<|.v<|.int x,some<|.v<|.int (S.hq x:Nat),some<|.v<|.int (S.hr x:Nat)]=some (.int<|-1,_):=BI rfl rfl<|T8 hq hn hc;have e4:Gl .Eq (C6 0 (r2 cal)<|Ai (AM 2)<|Ai (AM 3) BY) (up<|pUn .USub<|AP<|.int 1) n [some<|.qf S,some<|.v<|.int x,some<|.v<|.int (S.hq x:Nat),some<|.v<|.int (S.hr x:Nat)]=some (true,[some<|.qf S,some<|.v<|.int x,some<|.v<|.int (S.hq x:Nat),some<|.v<|.int (S.hr x:Nat)]):=by
  simp only[Gl,e3,up,wPl,pUn,mI,AP,CD];rfl
 refine⟨rfl,n,_,_,.next,_,⟨.own (.qf hI)<|.own (.v _)<|.free none<|.free none .nil,by simpa using nd⟩,(CE (pl1:=[some<|.qf S,some<|.v<|.int x,none,none])<|Oq (x:=0) |>.trans (by exact rE hd rfl;try rfl)),fun H G1 af f O w N ab F1 h1=>DI.kne N fun z b=>rE b ⟨rfl,n,H,_,.next,_,w,RA (i:=0) (pl:=[]),fun F G2 ae f O u o aa F2 h2=>DI.kne o fun z b=>rE b ⟨rfl,n,F,_,.next,_,u,RB,fun E G3 d f O t m Y F3 h3=>DI.kne m fun z b=>rE b ⟨rfl,n,E,_,true,_,t,e4,fun j I c F4=>⟨rfl,gH (c.lo.qf (i:=0) rfl) fun q a1 V p=>?_⟩⟩⟩⟩⟩;have g:(d[0]?).join=some (.ref D.x):=by
  have T:d.head?=some (some<|.ref D.x):=((h3.trans h2).trans h1).trans rfl;induction d with
  |nil=>exact xns T
  |cons y r=>(revert B;refine soE T ?_;intro B);rfl
 have Q:q.x=D.x:=by
  rw[g]at V;injection V with a;injection a with a;exact a.symm
 have h:=((((BE F1).trans<|BE F2).trans<|BE F3).trans F4).fm;have e:=c.nd;have R:=c.lo;have A:P I:=by
  refine Loc.Pg R rfl fun _ _ _ _ z b N L=>?_;clear R;subst z;refine Loc.Pg L rfl fun _ _ _ _ z b o K=>?_;clear L;subst z;refine Own.kv o fun z b=>?_;clear o;subst z;refine Loc.Pg K rfl fun _ _ _ _ z b m J=>?_;clear K;subst z;refine Own.kv m fun z b=>?_;clear m;subst z;subst b;refine Loc.Pg J rfl fun _ _ _ _ z b M W=>?_;clear J;subst z;subst b;refine Own.kv M fun z b=>?_;clear M;subst z;subst b;cases W;have l:_=q.foot:=a1;simp only[B0]at l;subst l;simp only[D4,List.flatten_nil,cb]at h e;exact B q I Q p e h
 refine gG p.id fun kk hk C=>?_;show B3 0 d I _;unfold B3;exact rE g<|rS Q<|Aq p.ix C ⟨rfl,j,_,_,c.lo,rfl,j,_,_,c.lo,rfl,q,S,_,_,rfl,p,hf,A⟩
noncomputable def cellAt:Option AV->Option Addr
 |some (.B5 a)=>some a
 |some (.cel a _)=>some a
 |_=>none
theorem Loc.Uy {g d ls}(h:Loc G g d ls):∀{i c a},AL d i=some (.cel c a)->∃ mv f,B0 g i=c::f/\G c=some (.cell<|some mv)/\Own G f a mv:=by
 induction h with
 |nil=>intro i c a e;exact xns e
 |free o _ b=>intro i c a e;induction i with|zero=>exact xns e|succ i=>exact b (i:=i) e
 |own h _ b=>intro i c a e;cases i with|zero=>(have z:=so e;revert h;refine rE z ?_;intro h);cases h|succ i=>exact b (i:=i) e
 |B5 h _ b=>intro i c a e;cases i with|zero=>cases e|succ i=>exact b (i:=i) e
 |cel h j _ b=>intro i c a e;cases i with|zero=>cases e;exact⟨_,_,rfl,h,j⟩|succ i=>exact b (i:=i) e
 |tab h _ b=>intro i c a e;induction i with|zero=>cases e|succ i=>exact b (i:=i) e
theorem Loc.PD {d b ls}(h:Loc G d b ls):∀{i c},cellAt (AL b i)=some c->c∈B0 d i/\∃ o,G c=some (.cell o):=by
 induction h with
 |nil=>intro i c e;exact xns e
 |free o _ a=>intro i c e;induction i with|zero=>exact xns e|succ i=>exact a (i:=i) e
 |own h _ a=>intro i c e;induction i with|zero=>(induction h<;>exact xns e)|succ i=>exact a (i:=i) e
 |B5 h _ a=>intro i c e;induction i with|zero=>(refine soE e ?_;clear e);exact⟨.head _,_,h⟩|succ i=>exact a (i:=i) e
 |cel h f _ a=>intro i c e;induction i with|zero=>(refine soE e ?_;clear e);exact⟨.head _,_,h⟩|succ i=>exact a (i:=i) e
 |tab h _ a=>intro i c e;induction i with|zero=>exact xns e|succ i=>exact a (i:=i) e
theorem Loc.SU {s u ls}(h:Loc G s u ls) (p:s.flatten.Nodup):∀{i c f' a' mv},cellAt (AL u i)=some c->(∀ b∈s.flatten,b∉B0 s i->t b=G b)->t c=some (.cell<|some mv)->Own t f' a' mv->
  Loc t (BD s i<|c::f') (AY u i<|.cel c a') ls:=by
 induction h with
 |nil=>intro i c f' a' mv e;exact xns e
 | @free q l m o h n=>
  intro i c f' a' mv e f j g;induction i with
  |zero=>exact xns e
  |succ i=>exact .free o<|n (by simpa using p) e (fun b d a=>f b (by simpa using d) a) j g
 | @own f0 A v q l m h0 h n=>
  intro i c f' a' mv e f j g;rw[D4,SF]at p;refine xP p<|xA3 fun w r k=>?_;induction i with
  |zero=>induction h0<;>exact xns e
  |succ i=>
   refine .own (h0.mono fun b d=>f b (rE D4<|Lf _ d) fun a=>k b d b (Ad a) rfl)<|n r e (fun b d a=>f b (rE D4<|Bl _ d) a) j g
 | @B5 y q l m h0 h n=>
  intro i c f' a' mv e f j g;rw[D4,SF]at p;refine xP p<|xA3 fun w r k=>?_;induction i with
  |zero=>(have z:=so e;clear e;subst z);exact .cel j g<|h.mono fun b d=>f b (rE D4<|Bl _ d) fun a=>k b a b d rfl
  |succ i=>
   exact .B5 ((f _ (by simp) fun a=>k _ (.head _) _ (Ad a) rfl).trans h0)<|n r e (fun b d a=>f b (rE D4<|Bl _ d) a) j g
 | @cel y f0 A v q l m h0 x h n=>
  intro i c f' a' mv e f j g;rw[D4,SF]at p;refine xP p<|xA3 fun w r k=>?_;induction i with
  |zero=>(have z:=so e;clear e;subst z);exact .cel j g<|h.mono fun b d=>f b (rE D4<|Bl _ d) fun a=>k b a b d rfl
  |succ i=>
   exact .cel ((f _ (by simp) fun a=>k _ (.head _) _ (Ad a) rfl).trans h0) (x.mono fun b d=>f b (by simp[d]) fun a=>k b (.tail _ d) b (Ad a) rfl)<|n r e (fun b d a=>f b (rE D4<|Bl _ d) a) j g
 | @tab f0 q l m h0 h n=>
  intro i c f' a' mv e f j g;rw[D4,SF]at p;refine xP p<|xA3 fun w r k=>?_;induction i with
  |zero=>exact xns e
  |succ i=>
   exact .tab (h0.mono fun b d=>f b (by simp[d]) fun a=>k b d b (Ad a) rfl)<|n r e (fun b d a=>f b (rE D4<|Bl _ d) a) j g
section
variable {Z:PX}{c:FC}
noncomputable def OD (b:List<|Str×Addr) (x:Str):VT:=fun _ G P=>∃ a v,b.lookup x=some a/\G a=some (.cell<|some v)/\P v G
theorem GS (n:iK c) (j:c.scope.names.lookup x=some .cell) (o:jD x):Ev Z c (.Name x b) (OD c.cl x):=by
 refine fun A f L s m w G P Q E z F y R=>xF2 fun a v=>xA3 fun r p l=>fun q=>bc fun i=>xE1 (R.get p) fun h=>xA3 fun t g=>?_;revert g;refine xF1 fun u=>xA2 fun d e=>fun _=>i ?_;cases e with
 |some k=>exact wpAny_Name (wpAny_loadName_cell n j r ⟨h,t,d⟩<|q _ v G s k l (Sm.refl s) F R) o
theorem HC (o:iK c)(j:c.scope.names.lookup x=some .free)(p:autoParam (jD x) rf)(n:autoParam ((x==("__classdict__":Str))=false) rf):Ev Z c (.Name x b) (OD c.cl x):=by
 refine fun A f L s m y G P Q E B F z R=>xF2 fun a v=>xA3 fun t r l=>fun q=>bc fun i=>xE1 (R.get r) fun h=>xA3 fun u g=>?_;revert g;refine xF1 fun w=>xA2 fun d e=>fun _=>i ?_;cases e with
 |some k=>exact wpAny_Name (wpAny_loadName_free o j t ⟨h,u,d⟩ (q _ v G s k l (Sm.refl s) F R) n) p
def IJ (d:List<|Str×Addr) (x:Str) (i:Nat):PE:=fun b=>match AL b i with
 |some (.cel a<|.v m)=>if d.lookup x=some a then some m else none
 |_=>none
theorem mv85 {h:Type}{i:Addr->MV->Option h}{r:h}{g:Prop}(e:(match f with|some (AV.cel b<|AV.v a)=>i b a|_=>none)=some r) (m:∀ b a,f=some (AV.cel b<|AV.v a)->i b a=some r->g):g:=by
 generalize j:f=d at e;revert e j;exact Option.casesOn d (fun _=>xns) fun l=>AV.casesOn l (fun _ _=>xns) (fun _ _=>xns) (fun _ _ _=>xns) (fun _ _ _=>xns) (fun _ _ _=>xns) (fun _ _=>xns) (fun _ _=>xns) (fun o k=>AV.casesOn k (fun n=>m _ _) (fun _ _=>xns) (fun _ _ _=>xns) (fun _ _ _=>xns) (fun _ _ _=>xns) (fun _ _=>xns) (fun _ _=>xns) (fun _ _ _=>xns) fun _=>xns) fun _=>xns
theorem DL (i:Nat)(j:autoParam (iK c) rf)(g:autoParam (c.scope.names.lookup x=some .cell) rf)(k:autoParam (jD x) rf):Pu Z c (.Name x b) (IJ c.cl x i):=by
 refine Ev.weaken (GS j g k) ?_;rintro s G P ⟨u,q,r,d,e,h⟩;unfold IJ at e;refine mv85 e ?_
 .refine fun a m p e=>xP (BL e)<|xA2 fun o e=>?_;cases e;exact xE2 (d.Uy p) fun mv f=>xA3 fun t n l=>⟨a,r,o,rE n<|rE l.val rfl,h⟩
theorem He 
  (u:iK c) (p:c.scope.names.lookup x=some .cell) (y:c.cl.lookup x=some a) (F:Fr b L s.heap m) (R:SR b L s.heap G) (e:G a=some (.cell n)) (r:VR v mv)
  (q:∀ d,Sm s d->Fr b L d.heap m->SR b L d.heap (G.set a<|.cell<|some mv)->Q () d):wpAny Z.md A (storeName (c.env L) x v) Q E s:=by
 refine bc fun f=>xE1 (R.get e) fun o=>xA3 fun z l=>?_;revert l;exact xF1 fun D=>xA2 fun i _=>fun _=>f<|wpAny_storeName_cell u p y ⟨o,z,i⟩ fun I g t=>bc fun f=>gG g fun H j k=>xP (R.turn (mo:=.cell<|some mv) F e t j ⟨some v,k,.some r⟩)<|xA2 fun C B=>f<|q _ (Sm.h _ _) C B
theorem LN.setC {l m ls}(h:LN G l m ls)(e:cellAt (AL m i)=some a) (r:Own G f q mv) (s:(f++l.flatten).Nodup) :
  LN (G.set a<|.cell<|some mv) (BD l i<|a::f) (AY m i<|.cel a q) ls/\FmN (f::l) G ([]::BD l i (a::f)) (G.set a<|.cell<|some mv):=by
 refine xP (h.lo.PD e) (xA2 fun n=>xF1 fun o=>fun t=>have g:=Ad n;have j:=SF.mp s;have k:a∉f:=fun x=>j.2.2 a x a g rfl;⟨⟨h.lo.SU h.nd e (fun b _ d=>St.AG _ _ fun z=>d<|z▸n) (St.AH ..)<|r.mono fun b d=>St.AG _ _ fun z=>k<|z▸d,Bb h.nd (bL.mpr ⟨k,j.1⟩) fun b d=>mC d (.inl n) fun d=>.inr fun x=>j.2.2 b d b x rfl⟩,?_⟩)
 .refine ⟨⟨fun b _ d=>St.AG _ _ fun z=>d<|rE D4<|rE z<|Bl _ g,fun b d=>.inl ?_,fun b d p=>?_⟩⟩
  .rw [D4]at d ⊢;refine T1 (X1.mp d) (fun d=>?_) fun d=>T1 (Bs d) (fun d=>mC d (Bl _ g) fun d=>Lf _ d) fun d=>Bl _ d
   .cases d
  .rw [St.AG _ _ fun z=>p<|by rw[D4,z];exact Bl _ g];exact d
def setC (e:List<|Str×Addr) (x:Str) (i:Nat) (a:AV) (d:PL):Option PL:=match cellAt (AL d i)with
 |some b=>if e.lookup x=some b then some (AY d i<|.cel b a)else none
 |none=>none
theorem mv86 {f:Type}{h:Addr->Option f}{r:f}{g:Prop}(e:(match d with|some a=>h a|none=>none)=some r) (j:∀ a,d=some a->h a=some r->g):g:=by
 generalize i:d=b at e;revert e i;exact Option.casesOn b eS fun k=>j _
theorem Hf (h:setC g x i a f=some d):∃ b,cellAt (AL f i)=some b/\g.lookup x=some b/\d=AY f i (.cel b a):=by
 unfold setC at h;exact mv86 h (fun b e h=>xP (BL h)<|xA2 fun k j=>⟨b,e,k,j.symm⟩)
def Ks (d:List<|Str×Addr) (x:Str) (i:Nat) (M:ME):MX:=fun n b=>match M n b with|some (m,a)=>nx (setC d x i (.v m) a)|none=>none
theorem PF (i:Nat) (hk:iK c) (Y:c.scope.names.lookup x=some .cell) (h:Ee Z c a M)
  (h0:CO a=true):Sx Z c (.Assign [.Name x k] a y) (Ks c.cl x i M):=by
 refine fun A J L s m H G P Q E cx F I R B q=>bc fun p=>?_;obtain⟨n,K,W,r,V,X,e,g⟩:=B;refine p ?_;unfold Ks at e;refine mv25 e ?_
 .refine fun mv l e1 e=>bc fun p=>xP (Ft e)<|xA2 fun ee=>fun j=>?_;revert g;refine rE j fun g=>xE1 (Hf ee) fun b=>xA3 fun N e3=>fun j=>?_;revert g;refine rE j fun g=>p<|wpAny_Assign_Name (h (P:=fun v O=>∃ d,LN O d l H/\FmN K G d O/\v=mv) cx F I R ⟨n,K,W,mv,l,X,e1,fun d G1 U T=>⟨d,U,T,rfl⟩⟩ fun v z G1 s1 hv hP w F1 R1=>bc fun p=>xE1 hP fun d=>xA3 fun f D=>fun j=>?_)<|Bn h0 _ _ _;revert g;refine rS j fun g=>xP (f.lo.PD N)<|xA2 fun hm=>xF1 fun o=>fun hG=>xP (f.setC N (Own.v z) f.nd')<|xA2 fun t C=>p<|He hk Y e3 F1 R1 hG hv fun S u F2 R2=>q _ _ H _ m S .next (g _ _ _ _ _ t .next t.nd' (D.trans ⟨have:=C.fm;?_⟩) rfl) (w.trans u) F2 I R2;rw[D4,c7]at this;exact this
def Lw (e:List<|Str×Addr) (x:Str) (i:Nat) (M:Nat->PL->Option (AV×PL)):MX:=fun n d=>match M n d with|some (a,b)=>nx (setC e x i a b)|none=>none
theorem Ji (i:Nat) (hk:iK c) (hx:c.scope.names.lookup x=some .cell) (h:Eo Z c a M)
  (h0:CO a=true):Sx Z c (.Assign [.Name x g] a z) (Lw c.cl x i M):=by
 refine fun A K L s m I G P Q E cx F J R B q=>bc fun k=>?_;obtain⟨n,N,pl,r,Y,lo,e,t⟩:=B;refine k ?_;unfold Lw at e;refine mv38 e ?_
 .refine fun S j e1 e=>bc fun k=>xP (Ft e)<|xA2 fun ee=>fun u=>?_;revert t;refine rE u fun t=>xE1 (Hf ee) fun b=>xA3 fun O e3=>fun u=>?_;revert t;exact rE u fun t=>k<|wpAny_Assign_Name (h (P:=fun v H=>∃ d f,LN H d j I/\Own H f S v/\(f++d.flatten).Nodup/\FmN N G (f::d) H) cx F J R ⟨n,N,pl,S,j,lo,e1,fun d G1 f mv X W V U=>⟨d,f,X,W,V,U⟩⟩ fun v aa G1 s1 hv hP y F1 R1=>bc fun k=>xE2 hP fun d f=>xA4 fun p ho hn D=>xP (p.lo.PD O)<|xA2 fun hm=>xF1 fun o=>fun hG=>xP (p.setC O ho hn)<|xA2 fun l C=>k<|He hk hx e3 F1 R1 hG hv fun T w F2 R2=>q _ _ I _ m T .next (t _ _ _ _ _ l .next l.nd' (D.trans C) rfl) (y.trans w) F2 J R2)<|Bn h0 _ _ _
end
theorem LN.Vx {g s ls l m}{f f':List Addr}(h:LN G g s ls) (p:Loc o (BD g i f') l m) (t:(f++f').Nodup) (F:Fm (B0 g i) G (f++f') o) :
  LN o (BD g i f') l m/\(f++(BD g i f').flatten).Nodup/\FmN g G (f::BD g i f') o:=by
 have r:=h.lo.dom;have c:=SF.mp t;have j:∀ b∈f',b∈B0 g i\/b∉g.flatten:=fun b a=>(F.sub b<|Bl _ a).imp id fun u v=>r b v u;refine⟨⟨p,Bb h.nd c.2.1 j⟩,?_,⟨⟨fun b d k=>F.keep b d fun q=>k<|Ad q,fun b a=>?_,fun b d k=>F.dom b d fun q=>k<|Ad q⟩⟩⟩
 .rw [SF];refine⟨c.1,Bb h.nd c.2.1 j,fun b a w n e=>?_⟩;subst e;exact T1 (Bs n) (fun d=>c.2.2 b a b d rfl) fun d=>T1 (F.sub b<|Lf _ a) (fun k=>c.2.2 b a b (Cq h.nd n k) rfl) fun k=>r b d k
 .rw [D4]at a;exact T1 (X1.mp a) (fun a=>(F.sub b<|Lf _ a).imp Ad id) fun a=>T1 (Bs a) (fun d=>(F.sub b<|Bl _ d).imp Ad id) fun d=>.inl d
theorem LN.Hg {k o ls}(h:LN G k o ls) (e:AL o i=some (.cel a w)) (p:B0 k i=a::t) (s:G a=some (.cell<|some mv)) (v:Own G' f' av' mv)
  (u:(f++f').Nodup) (F:Fm t G (f++f') G'):LN G' (BD k i<|a::f') (AY o i<|.cel a av') ls/\(f++(BD k i<|a::f').flatten).Nodup/\FmN k G (f::BD k i (a::f')) G':=by
 have l:G a≠none:=rE s<|L0 _;have n:=(bL.mp<|p▸Ay h.nd i).1;have m:a∉f++f':=fun x=>(F.sub a x).elim n l;have j:=SF.mp u;refine h.Vx (f:=f) (f':=a::f') (h.lo.SU h.nd (c:=a) (by refine rE e ?_;rfl) (fun b d g=>F.keep b (h.lo.dom b d) fun x=>g<|rE p<|.tail _ x) ((F.keep a l n).trans s) v) ?_ ?_
 .refine SF.mpr ⟨j.1,bL.mpr ⟨fun x=>m<|Bl _ x,j.2.1⟩,fun b d y g e=>?_⟩;subst e;rcases bM.mp g with rfl|g
  .exact m<|Lf _ d
  .exact j.2.2 b d b g rfl
 .exact rE p ⟨fun b r q=>F.keep b r fun x=>q<|.tail _ x,fun b d=>T1 (X1.mp d) (fun d=>(F.sub b<|Lf _ d).imp (.tail _) id) fun d=>mC d (.inl<|.head _) fun d=>(F.sub b<|Bl _ d).imp (.tail _) id,fun b r q=>F.dom b r fun x=>q<|.tail _ x⟩
def callC (e:List<|Str×Addr) (x:Str) (M:Nat->QS->List MV->Option (AV×QS)) (n i:Nat) (d:PL) (b:Option<|List MV):Option (AV×PL):=match AL d i,b with
 |some (.cel a<|.qf S),some b=>if e.lookup x=some a then(match M n S b with|some (r,f)=>some (r,AY d i<|.cel a<|.qf f)|none=>none)else none
 |_,_=>none
theorem mv87 {k:Type}{l:Addr->QS->(List MV)->Option k}{r:k}{g:Prop}(e:(match j,i with|some (AV.cel d<|AV.qf b),some a=>l d b a|_,_=>none)=some r) (q:∀ d b a,j=some (AV.cel d<|AV.qf b)->i=some a->l d b a=some r->g):g:=by
 generalize n:j=h at e;generalize m:i=f at e;revert e n m;exact Option.casesOn h (fun _ _=>xns) fun p=>AV.casesOn p (fun _ _ _=>xns) (fun _ _ _=>xns) (fun _ _ _ _=>xns) (fun _ _ _ _=>xns) (fun _ _ _ _=>xns) (fun _ _ _=>xns) (fun _ _ _=>xns) (fun u o=>AV.casesOn o (fun _ _ _=>xns) (fun _ _ _=>xns) (fun _ _ _ _=>xns) (fun _ _ _ _=>xns) (fun _ _ _ _=>xns) (fun t=>Option.casesOn f (fun _ _=>xns) fun s=>q _ _ _) (fun _ _ _=>xns) (fun _ _ _ _=>xns) fun _ _=>xns) fun _ _=>xns
theorem GU (h:callC g x M n i e j=some (r,d)) :
  ∃ a S b f,AL e i=some (.cel a<|.qf S)/\g.lookup x=some a/\j=some b/\M n S b=some (r,f)/\d=AY e i (.cel a<|.qf f):=by
 unfold callC at h;refine mv87 h ?_
 .refine fun a S b=>fun m=>fun z=>rE z fun h=>xP (Au h)<|xA2 fun k h=>?_;split at h
  .rename_i r f l;(refine BH h ?_;clear h);exact⟨_,_,_,_,m,k,rfl,l,rfl⟩
  .exact xns h
theorem Loc.qfC {j g ls}(h:Loc G j g ls) (e:AL g i=some (.cel a<|.qf S)):∃ D:QD,B0 j i=a::D.foot/\G a=some (.cell<|some<|.ref D.x)/\Bz G D S:=by
 refine bc fun m=>xE2 (h.Uy e) fun mv f=>xA3 fun d b o=>xE1 o.qfD fun D=>xA2 fun l=>?_;revert d;refine rE l fun d=>xA2 fun k=>?_;revert b;exact rE k fun b=>fun n=>m ⟨D,d,b,n⟩
def PG (b:List<|Str×Addr) (x:Str) (i:Nat) (M:Nat->QS->List MV->Option (AV×QS)) (g:PL->Option (List MV)):Nat->PL->Option (AV×PL):=fun n a=>callC b x M n i a<|g a
theorem Jj (i:Nat)
  (T:Ak Z.K CQ b f=true) (R:Sp Z n f<|sQ M) (J:n<=c.n) (O:Iy b=true)
  (N:iK c) (I:c.scope.names.lookup x=some .cell) (Q:jD x)
  (m:Pa Z c d g) (k:(h.endLine==j.line)=true) (L:decide (d.length<30)=true) :
  Eo Z c (.Call (.Attribute (.Name x t) b h) d [] j) (PG c.cl x i M g):=by
 refine(C1 T (GS N I Q) m R J k rfl L).weaken ?_;rintro ls G P ⟨n,U,F,r,E,l,e,k⟩;refine bc fun H=>xE4 (GU e) fun a S Y S'=>xA5 fun q X W V=>fun s=>?_;revert k;exact rE s fun k=>gH (l.lo.qfC q) fun D p m o=>H ⟨a,_,X,m,o.free O ⟨U,F,_,l.lo,W,n,D,S,Y,r,S',o,(bL.mp<|p▸Ay l.nd i).2,rfl,V,fun D' G' f mv C B A z y=>xP (l.Hg q p m (B▸Own.qf C) A y)<|xA3 fun w v u=>k _ _ _ _ w z v u⟩⟩
def GV (d:List<|Str×Addr) (x:Str) (i:Nat) (M:Nat->QS->List MV->Option (AV×QS)) (g:PL->Option (List MV)):ME:=fun n b=>match callC d x M n i b (g b)with
 |some (.v m,a)=>some (m,a)
 |_=>none
theorem CX (i:Nat)(D:Ak Z.K CQ a f=true)(C:Sp Z n f<|sQ M)(w:n<=c.n)(E:Pa Z c b g)(A:autoParam (Iy a=true) rf)(z:autoParam (iK c) rf)(v:autoParam (c.scope.names.lookup x=some .cell) rf)(B:autoParam (jD x) rf)(j:autoParam ((d.endLine==h.line)=true) rf)(y:autoParam (decide (b.length<30)=true) rf) :
  Ee Z c (.Call (.Attribute (.Name x k) a d) b [] h) (GV c.cl x i M g):=by
 refine(Jj i D C w A z v B E j y).weaken ?_;rintro L G P ⟨n,H,t,r,s,u,e,j⟩;unfold GV at e;refine mv37 e ?_
 .intro m q I e;revert j;exact BH e fun j=>⟨n,H,t,_,_,u,I,fun F N f mv p o J l=>rE o.val<|j _ _ p<|BE l⟩
def Kt (d:List<|Str×Addr) (x:Str) (i:Nat) (f:PE):ME:=fun _ b=>match AL b i,f b with
 |some (.cel a<|.lst xs),some m=>if d.lookup x=some a/\xs.length<=900 then some (.none,AY b i<|.cel a<|.lst<|xs++[m])else none
 |_,_=>none
theorem Loc.Uz {g d ls}{a:Addr}(h:Loc G g d ls) (e:AL d i=some (.cel a<|.lst b)):∃ l,B0 g i=[a,l]/\G a=some (.cell<|some<|.ref l)/\G l=some (.list b):=by
 refine bc fun j=>xE2 (h.Uy e) fun mv f=>xA3 fun n m k=>j ?_;cases k with
 |lst h=>exact⟨_,n,m,h⟩
theorem mv88 {k:Type}{l:Addr->(List MV)->MV->Option k}{r:k}{g:Prop}(e:(match j,i with|some (AV.cel d<|AV.lst b),some a=>l d b a|_,_=>none)=some r) (q:∀ d b a,j=some (AV.cel d<|AV.lst b)->i=some a->l d b a=some r->g):g:=by
 generalize n:j=h at e;generalize m:i=f at e;revert e n m;exact Option.casesOn h (fun _ _=>xns) fun p=>AV.casesOn p (fun _ _ _=>xns) (fun _ _ _=>xns) (fun _ _ _ _=>xns) (fun _ _ _ _=>xns) (fun _ _ _ _=>xns) (fun _ _ _=>xns) (fun _ _ _=>xns) (fun u o=>AV.casesOn o (fun _ _ _=>xns) (fun t=>Option.casesOn f (fun _ _=>xns) fun s=>q _ _ _) (fun _ _ _ _=>xns) (fun _ _ _ _=>xns) (fun _ _ _ _=>xns) (fun _ _ _=>xns) (fun _ _ _=>xns) (fun _ _ _ _=>xns) fun _ _=>xns) fun _ _=>xns
theorem PH (i:Nat) (K:iK c) (H:c.scope.names.lookup x=some .cell) (L:jD x)
  (h:Pu Z c e f) (I:notStar e=true) (j:(d.endLine==g.line)=true):Ee Z c (.Call (.Attribute (.Name x y) "append" d) [e] [] g) (Kt c.cl x i f):=by
 refine(Im (GS K H L) h rfl I j).weaken ?_;rintro R G P ⟨n,N,D,r,C,o,e,j⟩;unfold Kt at e;refine mv88 e ?_
 .refine fun a q m v O e=>bc fun E=>xP (Au e)<|xA2 fun w=>?_;revert w;refine xA2 fun M F=>fun e=>?_;revert j;refine BH e fun j=>gH (o.lo.Uz v) fun l u t s=>E ⟨a,_,M,t,(rE s ?_:(match G l with|some (.list _)=>_|_=>False))⟩;refine⟨N,D,_,o.lo,O,rE s<|have J:[a,l].Nodup:=u▸Ay o.nd i;?_⟩;obtain⟨B,_,A⟩:=o.Hg (f:=[]) (f':=[l]) (av':=.lst<|q++[m]) (G':=G.set l<|.list<|q++[m]) v u t (.lst<|St.AH ..) (by simp) ⟨fun b _ k=>St.AG _ _ fun z=>k<|by rw[z];exact .head _,fun b k=>.inl k,fun b k p=>by
   rw[St.AG _ _ fun z=>p<|by rw[z];exact .head _];exact k⟩
  exact⟨dK F,j _ _ B<|BE A⟩
theorem VRs.ints :∀{a:List Int},VRs b (a.map .int)->IntsAre b a:=by
 induction b with
 |nil=>intro a h;cases a with|nil=>exact .nil|cons=>cases h
 |cons v b c=>
  intro a h;cases a with
  |nil=>cases h
  |cons n a=>
   cases h with
   |cons e d=>(refine VR.kin e fun _ z=>?_;refine rE z ?_);exact .cons _ _<|c d
theorem VRs.Lx (h:IntsAre a b):VRs a (b.map .int):=by
 induction h with
 |nil=>exact .nil
 |cons n t _ c=>exact .cons (.int _ _) c
noncomputable def E5:List MV->Option (List Int)
 | []=>some []
 |.int i::r=>(match E5 r with|some l=>some (i::l)|none=>none)
 |_=>none
theorem Fo:∀{b:List MV}{a:List Int},E5 b=some a->b=a.map .int:=by
 intro b;induction b with
 |nil=>intro a h;(refine soE h ?_;clear h);rfl
 |cons x r c=>
  intro a h;induction x with
  |int i=>
   refine have h:(match E5 r with|some l=>some (i::l)|none=>none)=some a:=h;oE (E5 r) (fun e=>?_) fun l e=>?_
   .rw [e]at h;exact xns h
   .rw [e]at h;exact soE h<|rE (c e) rfl
  |_=>exact xns h
theorem GW (a:List Int):E5 (a.map .int)=some a:=by
 induction a with
 |nil=>rfl
 |cons n a b=>
  show(match E5 (a.map .int)with|some l=>some (n::l)|none=>none)=_;exact rE b rfl
theorem Hh (l:List Nat):AX l=(l.map fun(x:Nat)=>(x:Int)).map .int:=by unfold AX;exact rE List.map_map rfl
section
variable {Z:PX}{c:FC}
noncomputable def tIn (d:Bool) (i h:VT) (K:Bool->St->Prop):LS->St->Prop:=fun f G=>i f G fun a j=>h f j fun b g=>match a,b with
 |.int k,.ref l=>∃ e:List Int,g l=some (.list<|e.map .int)/\K (d != e.any (·== k)) g
 |_,_=>False
noncomputable def SV:Bool->CmpOp
 |true=>.NotIn
 |false=>.In
theorem Vy {m:Str->Option Value}{d:List Int}(R:SR b L s.heap G) (e:G l=some (.list<|d.map .int))
  (q:Q (.bool (a != d.any (·== k))) s):wpAny Z.md A (compareOp (SV a) (.int k t)<|.ref l) Q E s:=by
 refine gG (R.isList e) fun h g f=>?_;induction a with
 |true=>exact notin_list_ints g f.ints (by rw[Bool.true_bne]at q;exact q)
 |false=>exact in_list_ints g f.ints (by rw[Bool.false_bne]at q;exact q)
theorem mv91 {j:Int->Addr->Prop}{g:Prop}(e:match i,h with|MV.int b,MV.ref a=>j b a|_,_=>False) (m:∀ b a,i=MV.int b->h=MV.ref a->j b a->g):g:=by
 generalize l:i=f at e;generalize k:h=d at e;revert e l k;exact MV.casesOn f (fun _ _=>False.elim) (fun _ _ _=>False.elim) (fun o=>MV.casesOn d (fun _ _=>False.elim) (fun _ _ _=>False.elim) (fun _ _ _=>False.elim) (fun _ _ _=>False.elim) (fun n=>m _ _) (fun _ _ _=>False.elim) fun _ _ _=>False.elim) (fun _ _ _=>False.elim) (fun _ _ _=>False.elim) (fun _ _ _=>False.elim) fun _ _ _=>False.elim
theorem ZO (I:Ev Z c l w) (H:Ev Z c r u) (C:Dc r=true):Ev Z c (.Compare l [SV d] [r] i) (fun k G P=>tIn d w u (fun b M=>P (.bool b) M) k G):=by
 intro A o L s m k G P Q E p F n R t q;refine wpAny_Compare1 (I p F n R t fun v mv W U j y h O J=>H p O n J y fun S B K T a f g N x=>mv91 f ?_)<|CT C _
 .refine fun _ _=>fun z=>?_;revert j;refine rE z fun j=>fun z=>?_;revert a;refine rE z fun a=>fun f=>VR.kin j fun _ z=>rE z ?_;(have z:=VR.irf a;refine rE z ?_);exact gG f fun V e D=>Vy (Z:=Z) (m:=m) x e<|q _ _ K _ (.bool _) D (h.trans g) N x
theorem ZP (J:Ev Z c l u) (I:Ev Z c r p) (D:Dc r=true):Tt Z c (.Compare l [SV b] [r] h) (fun j G P=>tIn b u p P j G):=by
 intro A n L s m j G P Q E o F k R t q;refine wpAny_isTrue_Compare1 (J o F k R t fun v mv W U i y g O K=>I o O k K y fun S C M T a d f N x=>mv91 d ?_)<|CT D _
 .refine fun _ _=>fun z=>?_;revert i;refine rE z fun i=>fun z=>?_;revert a;refine rE z fun a=>fun d=>VR.kin i fun _ z=>rE z ?_;(have z:=VR.irf a;refine rE z ?_);exact gG d fun V e H=>Vy (Z:=Z) (m:=m) (Q:=fun v B=>wpAny Z.md A (truthy v) Q E B) x e<|wpAny_truthy_bool<|q _ M _ H (g.trans f) N x
def pIn (a:Bool) (f:PE) (i:Nat):PB:=fun b=>match mI (f b),AL b i with
 |some k,some (.lst xs)=>(match E5 xs with|some ns=>some (a != ns.any (·== k))|none=>none)
 |_,_=>none
theorem mv92 {j:Type}{k:Int->(List MV)->Option j}{r:j}{g:Prop}(e:(match i,h with|some b,some (AV.lst a)=>k b a|_,_=>none)=some r) (o:∀ b a,i=some b->h=some (AV.lst a)->k b a=some r->g):g:=by
 generalize m:i=f at e;generalize l:h=d at e;revert e m l;exact Option.casesOn f (fun _ _=>xns) fun q=>Option.casesOn d (fun _ _=>xns) fun n=>AV.casesOn n (fun _ _ _=>xns) (fun p=>o _ _) (fun _ _ _ _=>xns) (fun _ _ _ _=>xns) (fun _ _ _ _=>xns) (fun _ _ _=>xns) (fun _ _ _=>xns) (fun _ _ _ _=>xns) fun _ _=>xns
theorem mv90 {f:Type}{h:(List Int)->Option f}{r:f}{g:Prop}(e:(match d with|some a=>h a|none=>none)=some r) (j:∀ a,d=some a->h a=some r->g):g:=by
 generalize i:d=b at e;revert e i;exact Option.casesOn b eS fun k=>j _
theorem NC {m ls}(g:Loc G m d ls) (e:pIn a f i d=some r):∃(k:Int) (b:List Int) (l:Addr),f d=some (.int k)/\(ls[i]?).join=some (.ref l)/\G l=some (.list<|b.map .int)/\r=(a != b.any (·== k)):=by
 unfold pIn at e;exact mv92 e (fun k q p o e=>mv90 e (fun b n e=>soE e<|gH (g.lst o) fun l _ j h=>⟨k,b,l,BA p,j,rE h<|rE (Fo n) rfl,rfl⟩))
theorem PI (i:Nat) (s:c.vs[i]?=some x) (q:iK c) (p:iL c x) (t:jD x) (h:Pu Z c e f) :
  PuB Z c (.Compare e [SV neg] [.Name x j] a) (pIn neg f i):=by
 refine Tt.weaken (ZP h (AQ i s q p t) rfl) ?_;rintro z G P ⟨y,m,r,d,e,b⟩;refine bc fun o=>xE3 (NC d e) fun k n l=>xA4 fun w v u=>fun g=>?_;revert b;refine rE g fun b=>o ⟨y,m,_,d,w,?_⟩;unfold B3;exact rE v ⟨n,u,b⟩
def P9 (a:Bool) (f:PE) (i:Nat):PE:=fun d=>match pIn a f i d with|some b=>some (.bool b)|none=>none
theorem PJ (i:Nat) (t:c.vs[i]?=some x) (s:iK c) (q:iL c x) (u:jD x) (h:Pu Z c e f) :
  Pu Z c (.Compare e [SV neg] [.Name x m] d) (P9 neg f i):=by
 refine Ev.weaken (ZO h (AQ i t s q u) rfl) ?_;rintro B G P ⟨z,n,r,g,e,a⟩;unfold P9 at e;refine mv22 e ?_
 .refine fun b A e=>bc fun p=>?_;revert a;refine soE e fun a=>xE3 (NC g A) fun k o l=>xA4 fun y w v=>fun j=>?_;revert a;refine rE j fun a=>p ⟨z,n,_,g,y,?_⟩;unfold B3;exact rE w ⟨o,v,a⟩
def Ek (i:Nat) (g:PE):PE:=fun a=>match AL a i,mI (g a)with
 |some (.lst xs),some (.ofNat k)=>if k<900 then xs[k]? else none
 |_,_=>none
theorem mv93 {j:Type}{k:(List MV)->Nat->Option j}{r:j}{g:Prop}(e:(match i,h with|some (AV.lst b),some (Int.ofNat a)=>k b a|_,_=>none)=some r) (p:∀ b a,i=some (AV.lst b)->h=some (Int.ofNat a)->k b a=some r->g):g:=by
 generalize m:i=f at e;generalize l:h=d at e;revert e m l;exact Option.casesOn f (fun _ _=>xns) fun o=>AV.casesOn o (fun _ _ _=>xns) (fun s=>Option.casesOn d (fun _ _=>xns) fun n=>Int.casesOn n (fun q=>p _ _) fun _ _ _=>xns) (fun _ _ _ _=>xns) (fun _ _ _ _=>xns) (fun _ _ _ _=>xns) (fun _ _ _=>xns) (fun _ _ _=>xns) (fun _ _ _ _=>xns) fun _ _=>xns
theorem EM (i:Nat)(h:Pu Z c a g)(t:autoParam (c.vs[i]?=some x) rf)(d:autoParam (iK c) rf)(q:autoParam (iL c x) rf)(u:autoParam (jD x) rf)(y:autoParam (Cy a=true) rf) :
  Pu Z c (.Subscript (.Name x n) a b) (Ek i g):=by
 refine Ev.weaken (IM (AQ i t d q u) h y) ?_;rintro C G P ⟨z,o,r,f,e,s⟩;unfold Ek at e;refine mv93 e ?_
 .refine fun m k B A e=>bc fun p=>xP (Au e)<|xA2 fun d e=>gH (f.lst B) fun l _ w j=>p ?_;unfold QY B3;refine rE w (rE j ?_:(match G l with|some (.list _)=>_|_=>False));refine⟨z,o,_,f,BA A,?_⟩;show(match G l with|some (.list _)=>_|_=>False);exact rE j ⟨⟨bX k,by exact((la1 0x6088080e1280103e8a00041) d:((k:Nat):Int)<1000)⟩,(rE (show(Int.ofNat k).toNat=k from rfl) (rE e s):(match m[(Int.ofNat k).toNat]? with|some v=>P v G|none=>False))⟩
def PK (d:List<|Str×Addr) (x:Str) (i:Nat) (g:PE):PE:=fun b=>match AL b i,mI (g b)with
 |some (.cel a<|.lst xs),some (.ofNat k)=>if d.lookup x=some a/\k<900 then xs[k]? else none
 |_,_=>none
theorem mv94 {k:Type}{l:Addr->(List MV)->Nat->Option k}{r:k}{g:Prop}(e:(match j,i with|some (AV.cel d<|AV.lst b),some (Int.ofNat a)=>l d b a|_,_=>none)=some r) (s:∀ d b a,j=some (AV.cel d<|AV.lst b)->i=some (Int.ofNat a)->l d b a=some r->g):g:=by
 generalize n:j=h at e;generalize m:i=f at e;revert e n m;exact Option.casesOn h (fun _ _=>xns) fun q=>AV.casesOn q (fun _ _ _=>xns) (fun _ _ _=>xns) (fun _ _ _ _=>xns) (fun _ _ _ _=>xns) (fun _ _ _ _=>xns) (fun _ _ _=>xns) (fun _ _ _=>xns) (fun v p=>AV.casesOn p (fun _ _ _=>xns) (fun u=>Option.casesOn f (fun _ _=>xns) fun o=>Int.casesOn o (fun t=>s _ _ _) fun _ _ _=>xns) (fun _ _ _ _=>xns) (fun _ _ _ _=>xns) (fun _ _ _ _=>xns) (fun _ _ _=>xns) (fun _ _ _=>xns) (fun _ _ _ _=>xns) fun _ _=>xns) fun _ _=>xns
theorem PM {g:PE}(i:Nat) (f:iK c) (u:c.scope.names.lookup x=some .cell) (y:jD x) (h:Pu Z c b g) (j:Cy b=true) :
  Pu Z c (.Subscript (.Name x q) b d) (PK c.cl x i g):=by
 refine Ev.weaken (IM (GS f u y) h j) ?_;rintro D G P ⟨A,s,r,m,e,w⟩;unfold PK at e;refine mv94 e ?_
 .refine fun a p k C B e=>bc fun t=>xP (Au e)<|xA2 fun o=>?_;revert o;refine xA2 fun j f=>fun e=>gH (m.Uz C) fun l _ z n=>t ⟨a,_,j,z,(rE n ?_:(match G l with|some (.list _)=>_|_=>False))⟩;refine⟨A,s,_,m,BA B,?_⟩;show(match G l with|some (.list _)=>_|_=>False);exact rE n ⟨⟨bX k,by exact((la1 0x6088080e1280103e8a00041) f:((k:Nat):Int)<1000)⟩,(rE (show(Int.ofNat k).toNat=k from rfl) (rE e w):(match p[(Int.ofNat k).toNat]? with|some v=>P v G|none=>False))⟩
end
noncomputable def cut (b:Bool) (k:Nat) (a:List MV):List MV:=match b with|true=>a.drop k|false=>a.take k
noncomputable def sLo (a:Bool) (e:Expr):Option Expr:=match a with|true=>some e|false=>none
noncomputable def sHi (a:Bool) (e:Expr):Option Expr:=match a with|true=>none|false=>some e
theorem ND {lo:Bool}{k:Nat}(d:VRs a b):∃ c,slicePick a.toArray (if lo then some (k:Int)else none) (if lo then none else some (k:Int)) none=List.toArray c/\VRs c (cut lo k b):=by
 induction lo with
 |true=>
  have e:sliceBounds (some (k:Int)) none none a.toArray.size=(((min k a.toArray.size:Nat):Int),((a.toArray.size:Nat):Int),1):=by
   simp only[sliceBounds,Option.getD_none,show(1:Int)>0 by decide,if_true,b5<|show¬ ((k:Int)<0) by exact la1 0x8210202000460];congr 1;exact o26 ..
  refine⟨_,kmk_pick_nat _ e,?_⟩;show VRs ((a.drop<|min k a.toArray.size).take<|a.toArray.size-min k a.toArray.size) _;exact rE b8<|rE (kmk_drop_min ..)<|rE (List.take_of_length_le<|by rw[List.length_drop];exact (la5 0x508c028860542c02926010a023080051040228c20040409d018030409e040003) (mnk _ _) rfl rfl)<|d.drop k
 |false=>
  have e:sliceBounds none (some (k:Int)) none a.toArray.size=(((0:Nat):Int),((min k a.toArray.size:Nat):Int),1):=by
   simp only[sliceBounds,Option.getD_none,show(1:Int)>0 by decide,if_true,b5<|show¬ ((k:Int)<0) by exact la1 0x8210202000460];congr 1;congr 1;exact o26 ..
  refine⟨_,kmk_pick_nat _ e,?_⟩;show VRs ((a.drop 0).take<|min k a.toArray.size-0) _;exact rE List.drop_zero<|rE (Nat.sub_zero ..)<|rE b8<|rE (kmk_take_min ..)<|d.take k
section
variable {Z:PX}{c:FC}
noncomputable def SW (e:Bool) (k:Nat) (T:VT):VT:=fun d G P=>T d G fun a b=>match a with
 |.ref l=>(match b l with
  |some (.list xs)=>xs.length<=1000/\∀ r,b r=none->P (.ref r) (b.set r<|.list<|cut e k xs)
  |_=>False)
 |_=>False
theorem NF (d:Bool){k:Nat}(h:Ev Z c (.Name x S) T):Ev Z c (.Subscript (.Name x S) (.Slice (sLo d<|.Constant (.int k) C D) (sHi d<|.Constant (.int k) C D) none p) J) (SW d k T):=by
 intro A W L s m ls G P Q E cx F lr R t q;have b:∀{e:Option Expr} {n:Shared} {O:Value->Shared->Prop},(∀ t,O (if e.isSome then .int k t else .none) {n with toks:=if e.isSome then n.toks+1 else n.toks})->(e=none\/e=some (.Constant (.int k) C D))->wpAny Z.md A (evalPart e<|c.env L) O E n:=by
  intro e n O X he;rcases he with rfl|rfl
  .exact rE (evalPart_none ..)<|bZ<|X 0
  .exact (wpAny_Constant_int (X _):wpAny _ _ (eval (.Constant (.int k) C D)<|c.env L) _ _ _)
 refine wpAny_Subscript_list_slice<|h cx F lr R t fun v mv G1 j M f I F1 R1=>mv6 f ?_
 .clear f;refine fun l=>fun z=>?_;revert M;refine rE z fun M=>fun f=>have z:=VR.irf M;rE z<|mv8 f ?_
  .clear f;refine fun xs e f=>xP f<|xA2 fun hz hP=>?_;have B:∀(i g:Value) (H:Nat),IsPart i (if d then some (k:Int)else none)->IsPart g (if d then none else some (k:Int))->∃ V a o u,(Value.ref l)=.ref V/\({j with toks:=H}:Shared).heap.IsList V a/\a.size<=sizeLine/\IsPart i o/\IsPart g u/\
     Q (.ref<|j.heap.objs.size+1) {j with heap:=(j.heap.push {cls:=.type "slice",data:=.fields #[i,g,.none]}).push {cls:=.type "list",data:=.seq (slicePick a o u none)},toks:=H}:=by
    refine fun i g H p1 p2=>bc fun ng=>gG (R1.isList e) fun vs hl r=>ng ⟨l,vs.toArray,_,_,rfl,hl,rE b8<|rE r.length<|rE cN<|dk hz,p1,p2,gG (ND (lo:=d) (k:=k) r) fun U hw K=>rE hw<|xP (SR.pushNone F1 R1 {cls:=.type "slice",data:=.fields #[i,g,.none]}) (xA2 fun F2 R2=>have N:(j.heap.push {cls:=.type "slice",data:=.fields #[i,g,.none]}).objs.size=j.heap.objs.size+1:=Heap.size_push ..;have y:=R2.fresh;xP (SR.push (ob:={cls:=.type "list",data:=.seq (List.toArray U)}) (mo:=.list<|cut d k xs) F2 R2 ⟨U,0,rfl,K⟩)<|xA2 fun F3 Y=>?_)⟩;rw[N]at y Y;exact q _ _ _ _ (.ref _) (hP _ y) (I.trans<|Sm.ht _ _ _) F3 Y
   induction d with
   |true=>exact b (e:=some _) (fun t=>b (e:=none) (fun t'=>B _ _ _ (.int _ _) .none)<|.inl rfl)<|.inr rfl
   |false=>exact b (e:=none) (fun t=>b (e:=some _) (fun t'=>B _ _ _ .none<|.int _ _)<|.inr rfl)<|.inl rfl
def OE (b:Bool) (k:Nat) (j:Nat):MI:=fun _ a=>match AL a j with
 |some (.lst xs)=>if xs.length<=1000 then some (cut b k xs,a)else none
 |_=>none
def Ia (e:List<|Str×Addr) (x:Str) (d:Bool) (k:Nat) (j:Nat):MI:=fun _ b=>match AL b j with
 |some (.cel a<|.lst xs)=>if e.lookup x=some a/\xs.length<=1000 then some (cut d k xs,b)else none
 |_=>none
theorem GX {J:LS}{G K:St}{o:List MV}{t:FS}{D:PL}{P:Addr->St->Prop}{r:Addr}(F:Fr d L s.heap m) (R:SR d L s.heap K) (v:LN G t D J) (y:G r=none) (e:K=G.set r (.list o))
  (N:∀ k n I f,LN n k D J->CG n I f o->(f++k.flatten).Nodup->FmN t G (f::k) n->G I=none->P I n) (q:∀ I n p,P I n->Sm s p->Fr d L p.heap m->SR d L p.heap n->Q (.ref I) p):wpAny Z.md A (pyIter<|.ref r) Q E s:=by
 revert R;refine rE e fun R=>Hc F R (St.AH ..) fun I H M j S O u U T=>?_;have h:I≠r:=fun z=>by replace j:=(St.AH ..)▸z▸j;exact xsn j
 replace j:=(St.AG _ _ h)▸j;have B:=v.lo.dom;have C:I∉t.flatten:=fun x=>B I x j;have g:∀ b,G b≠none->((G.set r<|.list o).set I<|.obj H) b=G b:=fun b a=>by
  exact rE (St.AG _ _ fun z=>a<|by rw[z];exact j)<|rE (St.AG _ _ fun z=>a<|by rw[z];exact y) rfl
 refine q I _ M (N t _ I [I,r] (v.mono fun b a=>g b<|B b a) (CG.lst (G:=(G.set r<|.list o).set I<|.obj H) (I:=I) (l:=r) (xs:=o) 0 (St.AH ..) S O ((St.AG _ _<|cZ h).trans<|St.AH ..) h) ?_ ⟨⟨fun b a _=>g b a,fun b a=>?_,fun b a _=>rE (g b a) a⟩⟩ j) u U T
 .refine SF.mpr ⟨by simp[h],v.nd,fun b a V i e=>?_⟩;subst e;rcases bM.mp a with rfl|a
  .exact C i
  .exact have i:=(bO.mp a)▸i;(fun x=>B r x y) i
 .replace a:=D4▸a;exact T1 (X1.mp a) (fun a=>mC a (.inr j) fun a=>rE (bO.mp a)<|.inr y) fun a=>.inl a
theorem SX (d:Bool){k:Nat}(j:Nat) (V:c.vs[j]?=some x) (U:iK c) (S:iL c x) (W:jD x) :
  Ei Z c (.Subscript (.Name x H) (.Slice (sLo d<|.Constant (.int k) u y) (sHi d<|.Constant (.int k) u y) none p) g) (OE d k j):=by
 refine fun A w L s m ls G P Q E cx F N R t q=>bc fun a=>?_;obtain⟨n,fs,pl,xs,M,b,e,T⟩:=t;refine a ?_;unfold OE at e;refine mv67 e ?_
 .clear e;refine fun D e1 e=>xP (BL e)<|xA2 fun O e=>?_;cases e;refine gH (b.lo.lst e1) fun l h1 Y X=>(NF d<|AQ j V U S W) (P:=fun v B=>∃ r,v=.ref r/\G r=none/\B=G.set r (.list<|cut d k D)) cx F N R (by unfold SW B3;refine rE Y ?_;show(match G l with|some (.list _)=>_|_=>False);exact rE X ⟨O,fun r i=>⟨r,rfl,i,rfl⟩⟩) fun v mv B s1 h o f F1 R1=>?_;refine bc fun a=>xE1 o fun r=>xA2 fun C=>?_;revert h;refine rE C fun h=>xA2 fun i e=>have z:=VR.irf h;?_;revert a;exact rE z fun a=>a<|GX F1 R1 b i e T fun I G' K o J F' R'=>q I G' K o (f.trans J) F' R'
theorem mv95 {h:Type}{i:Addr->(List MV)->Option h}{r:h}{g:Prop}(e:(match f with|some (AV.cel b<|AV.lst a)=>i b a|_=>none)=some r) (m:∀ b a,f=some (AV.cel b<|AV.lst a)->i b a=some r->g):g:=by
 generalize j:f=d at e;revert e j;exact Option.casesOn d (fun _=>xns) fun l=>AV.casesOn l (fun _ _=>xns) (fun _ _=>xns) (fun _ _ _=>xns) (fun _ _ _=>xns) (fun _ _ _=>xns) (fun _ _=>xns) (fun _ _=>xns) (fun o k=>AV.casesOn k (fun _ _=>xns) (fun n=>m _ _) (fun _ _ _=>xns) (fun _ _ _=>xns) (fun _ _ _=>xns) (fun _ _=>xns) (fun _ _=>xns) (fun _ _ _=>xns) fun _=>xns) fun _=>xns
theorem Ku (f:Bool){k:Nat}(j:Nat) (V:iK c) (T:c.scope.names.lookup x=some .cell) (W:jD x) :
  Ei Z c (.Subscript (.Name x J) (.Slice (sLo f<|.Constant (.int k) y C) (sHi f<|.Constant (.int k) y C) none p) i) (Ia c.cl x f k j):=by
 refine fun A B L s m ls G P Q E cx F O R w q=>bc fun b=>?_;obtain⟨n,fs,pl,xs,N,d,e,U⟩:=w;refine b ?_;unfold Ia at e;refine mv95 e ?_
 .clear e;refine fun a H e1 e=>bc fun b=>xP (BL e)<|xA2 fun g=>?_;revert g;refine xA2 fun h0 S=>fun e=>b ?_;cases e;refine gH (d.lo.Uz e1) fun l h1 Y X=>(NF f<|GS V T W) (P:=fun v D=>∃ r,v=.ref r/\G r=none/\D=G.set r (.list<|cut f k H)) cx F O R ⟨a,_,h0,Y,by show(match G l with|some (.list _)=>_|_=>False);exact rE X ⟨S,fun r t=>⟨r,rfl,t,rfl⟩⟩⟩ fun v mv D s1 o u h F1 R1=>bc fun b=>xE1 u fun r=>xA2 fun g=>?_;revert o;refine rE g fun o=>xA2 fun t e=>have z:=VR.irf o;?_;revert b;exact rE z fun b=>b<|GX F1 R1 d t e U fun I G' M u K F' R'=>q I G' M u (h.trans K) F' R'
end
theorem Xr (i:Nat) (I:iK c) (C:c.scope.names.lookup x=some .cell):Tg Z c x (fun y k=>setC c.cl x i (.v y) k):=by
 refine fun A l L s m w G K k u y v Q E F B R j e D q=>xE1 (Hf e) fun b=>xA3 fun p N=>fun r=>?_;revert q;refine rE r fun q=>xP (j.lo.PD p)<|xA2 fun H=>xF1 fun o=>fun J=>xP (j.setC p (Own.v y) j.nd') (xA2 fun g M=>have n:b∈K.flatten:=Ad H;He I C N F R J D fun t f P O=>q m w _ _ t f P B O g (fun a d=>T1 (Bs d) (fun h=>rE (bO.mp h) n) fun h=>h) (fun a d=>St.AG _ _ fun z=>d<|z▸n) (fun a d=>?_) rfl)
 .by_cases h:a=b
  .exact rE h<|rE (St.AH ..)<|L0 _
  .exact rE (St.AG _ _ h) d
theorem U0 (hi:c.vs[0]?=some x) (hk:iK c) (hx:iL c x) (hd:jD x):Ei2 Z c (.Name x xp) (Ub 0) fun u S=>AY S 0 (.lst u):=by
 intro A ab L s m T G P Q E cx F lr R W q;refine bc fun ng=>?_;obtain⟨n,fs,S,u,af,D,e,hp⟩:=W;refine ng ?_;have J:=e;unfold Ub at J;refine mv67 J ?_
 .clear J;intro ys e1 J;cases J;refine gH (D.lo.lst e1) fun l h1 h2 X=>(AQ 0 hi hk hx hd) (P:=fun v K=>v=.ref l/\K=G) cx F lr R (by unfold B3;exact rE h2 ⟨rfl,rfl⟩) fun v mv K s1 V hP O F1 R1=>xP hP<|xA2 fun z0=>?_;revert V;refine rE z0 fun V=>fun z1=>?_;subst z1;cases V;refine Hc F1 R1 X fun I ob s2 k c1 c2 N F2 R2=>?_;have j:I≠l:=fun z=>by replace k:=X▸z▸k;cases k
  have C:LN K (BD fs 0 []) (E3 S 0) T:=⟨D.lo.unset 0,Bb D.nd dC fun b d=>nomatch d⟩;have H:(K.set I<|.obj ob) l=some (.list u):=(St.AG _ _<|cZ j).trans X;refine q I _ s2 (hp (BD fs 0 []) _ I [I,l] (fun G'=>G' l=some (.list u)) (C.Rd _ k) ?_ ?_ ⟨⟨fun b d _=>St.AG _ _ fun z=>d<|z▸k,fun b d=>?_,fun b d _=>rE (St.AG _ _ fun z=>d<|by exact rE z k) d⟩⟩ k H (fun G3 G4 h5 h6=>(h6 l (.tail _<|.head _)<|cZ j).trans h5) ?_) (O.trans N) F2 R2
  .have:=CG.lst (G:=K.set I<|.obj ob) (I:=I) (l:=l) (xs:=u) 0 (St.AH ..) c1 c2 H j;exact this
  .refine SF.mpr ⟨by simp[j],C.nd,fun b d b' g e=>?_⟩;subst e;rcases bM.mp d with rfl|d
   .exact D.lo.dom _ (BM _ g) k
   .replace g:=(bO.mp d)▸g;have:=Cq D.nd g<|rE h1<|.head _;cases this
  .replace d:=D4▸d;exact T1 (X1.mp d) (fun d=>mC d (.inr k) fun d=>rE (bO.mp d)<|.inl<|Ad (i:=0)<|rE h1<|.head _) fun d=>.inl<|BM _ d
  .intro G2 aa ae o hK U w t M;have B:=SF.mp w;have p:=(RZ (I:=I) (f:=[I,l]) (.head _) U w).Qi 0 (Own.lst<|(b5<|cZ j).trans hK)<|SF.mpr ⟨by simp,B.2.1,fun b d b' g e=>B.2.2 b (.tail _ d) b' g e⟩;have e5:o.set 0 (some<|.ref l)=o:=by
    have h0:T.head?=some (some<|.ref l):=by
     cases T with
     |nil=>cases h2
     |cons y r=>have Y:y=some (.ref l):=h2;refine rE Y ?_;rfl
    replace M:=h0▸M;cases o with
    |nil=>cases M
    |cons y r=>cases M;rfl
   refine have p:=e5▸p;⟨_,p,((FmN.congr (fs':=[l]::aa) ⟨⟨t.fm.keep,fun b d=>t.fm.sub b ?_,t.fm.dom⟩⟩ fun a ha=>b5 fun(z:a=I)=>ha<|z▸k) |> fun F=>⟨⟨F.fm.keep,fun b d=>F.fm.sub b ?_,F.fm.dom⟩⟩)⟩
   .rw [D4]at d ⊢;exact(X1.mp d).elim (fun h=>Lf _<|.tail _ h)<|Bl _
   .exact have d:=(c7 ..)▸D4▸d;rE D4<|(Bs d).elim (Lf _)<|Bl _
theorem FmN.ext {G e:St}(F:FmN f G b e) (h:∀ a,e a≠none->g a=e a):FmN f G b g:=
 ⟨⟨fun a c d=>by have:=F.fm.keep a c d;rw[h a<|by rw[this];exact c,this],F.fm.sub,fun a c d=>by have:=F.fm.dom a c d;rw[h a this];exact this⟩⟩
theorem LN.ext {f d ls}(e:LN c f d ls) (h:∀ a,c a≠none->g a=c a):LN g f d ls:=e.mono fun b i=>h b<|e.lo.dom b i
inductive U3 (args:List MV) (G:St) (P:MV->St->Prop):Prop
 |mk (l:Addr) (ns:List Int) (ha:args=[.ref l]) (hl:G l=some (.list<|ns.map .int)) (hz:ns.length<64) (hp:∀ r (ns':List Int),G r=none->ns'.Perm ns->ns'.Pairwise (·<= ·)->P (.ref r) (G.set r<|.list<|ns'.map .int))
theorem Kv:Bi Z 0 (.builtin "sorted") U3:=by
 refine fun A x L U s m G P Q E u y cx F R i n q=>bc fun C=>?_;obtain⟨l,Y,f,M,I,J⟩:=n;refine C ?_;revert i;refine rE f fun i=>VRs.kco i fun _ _ z t p=>rE z<|have z:=VRs.inl p;rE z<|have z:=VR.irf t;rE z<|gG (R.isList M) fun X T S=>gG (id R) fun w N r=>kso_sorted F N T S.ints I fun D B g cc h' W V H O _ d b _=>?_;have j:G D=none:=by
  exact oE (G D) (fun e=>rfl) fun o e=>gG (r D o e) fun v K _=>absurd (H _ K)<|cY _
 refine q _ _ _ _ (.ref _) (J D g j d b) (Sm.h _ _) W ⟨_,V,fun a o e=>?_⟩;by_cases k:a=D
 .rw [k,St.AH]at e;(refine soE e ?_;clear e);exact rE k ⟨_,.head _,_,_,rfl,VRs.Lx O⟩
 .rw [St.AG _ _ k]at e;exact gG (r a o e) fun v t p=>⟨v,.tail _ t,p⟩
inductive ZQ (a b:MV) (G:St) (P:Bool->St->Prop):Prop
 |mk (x y:Addr) (ns ms:List Int) (ha:a=.ref x) (hb:b=.ref y) (hx:G x=some (.list<|ns.map .int)) (hy:G y=some (.list<|ms.map .int)) (hp:P (!decide (ns=ms)) G)
theorem Xs (W:Ev Z c l H) (V:Ev Z c r D) (U:Dc r=true) (T:8<=c.n):Tt Z c (.Compare l [.NotEq] [r] j) (fun k G P=>H k G fun a I=>D k I fun b w=>ZQ a b w P):=by
 intro A C L s m k G P Q E p F B R t q;refine wpAny_isTrue_Compare1 (W p F B R t fun v mv I s1 o K i F1 R1=>V p F1 B R1 K fun v2 M w s2 d J h F2 u=>bc fun e=>?_)<|CT U _;obtain⟨x,y,ns,ms,g,f,O,N,S⟩:=J;revert o;refine rE g fun o=>?_;revert d;refine rE f fun d=>have z:=VR.irf o;?_;revert e;refine rE z fun e=>?_;(have z:=VR.irf d;revert e;refine rE z ?_;intro e);exact gG (u.isList O) fun vs g1 g2=>gG (u.isList N) fun ws Y X=>e<|ke_ne_ints g1 Y g2.ints X.ints (by have:=p.un;exact (la3 0x62046122080430084841010008140212) T this)<|wpAny_truthy_bool<|q _ w _ S (i.trans h) F2 u
def Ib (M:Nat->PL->Option (AV×PL)) (i:Nat):MB:=fun n d=>match M n d with
 |some (.lst xs,a)=>(match AL a i with
  |some (.lst b)=>(match E5 xs,E5 b with
   |some ns,some ms=>if ns.isPerm ms=true/\ms.length<64 then some (false,a)else none
   |_,_=>none)
  |_=>none)
 |_=>none
theorem mv96 {h:Type}{i:(List MV)->PL->Option h}{r:h}{g:Prop}(e:(match f with|some (AV.lst b,a)=>i b a|_=>none)=some r) (m:∀ b a,f=some (AV.lst b,a)->i b a=some r->g):g:=by
 generalize j:f=d at e;revert e j;exact Option.casesOn d (fun _=>xns) fun l=>Prod.casesOn l fun k o=>AV.casesOn k (fun _ _=>xns) (fun n=>m _ _) (fun _ _ _=>xns) (fun _ _ _=>xns) (fun _ _ _=>xns) (fun _ _=>xns) (fun _ _=>xns) (fun _ _ _=>xns) fun _=>xns
theorem mv97 {j:Type}{k:(List Int)->(List Int)->Option j}{r:j}{g:Prop}(e:(match i,h with|some b,some a=>k b a|_,_=>none)=some r) (n:∀ b a,i=some b->h=some a->k b a=some r->g):g:=by
 generalize m:i=f at e;generalize l:h=d at e;revert e m l;exact Option.casesOn f eT fun p=>Option.casesOn d eT fun o=>n _ _
theorem Hi {K v:Pos}(i:Nat) (H:∀ s,Ev Z c (.Name "sorted" s)<|Br<|.bi "sorted") (C:Eo Z c p M) (T:notStar p=true)
  (hi:c.vs[i]?=some x) (hk:iK c) (X:iL c x) (hd:jD x) (hn:8<=c.n) :
  Eb Z c (.Compare (.Call (.Name "sorted" s) [p] [] w) [.NotEq] [.Call (.Name "sorted" q) [.Name x K] [] v] u) (Ib M i):=by
 refine(Xs (FK (H _) (AS C Az T) Kv<|cO _) (FK (H _) (AS (AQ i hi hk X hd) Az) Kv<|cO _) rfl hn).weaken ?_;rintro V G P ⟨n,fs,R,r,Q,W,e,hp⟩;unfold Ib at e;refine mv96 e ?_
 .clear e;refine fun xs O p e=>mv67 e ?_
  .clear e;refine fun ys e2 e=>mv97 e ?_
   .clear e;refine fun S U a1 a2 e=>bc fun y=>xP (BL e)<|xA2 fun J=>?_;revert J;refine xA2 fun d F=>fun e=>y ?_;cases e;refine have d:=List.isPerm_iff.mp d;⟨n,fs,R,_,_,W,p,fun aa j f mv m ho nd fm=>?_⟩;cases ho with
    | @lst l _ hl=>
    refine bc fun y=>gH (m.lo.lst e2) fun D _ b2 I=>y ⟨l,S,rfl,rE hl<|rE (Fo a1) rfl,rE d.length_eq F,fun r h Y w N=>have A:∀ a,j a≠none->(j.set r<|.list<|h.map .int) a=j a:=fun a o=>St.AG _ _ fun z=>o<|z▸Y;?_⟩;show B3 i V _ _;unfold B3;refine rE b2 ⟨D,U,rfl,by rw[A D<|by rw[I];exact L0 _,I,Fo a2],F,fun t k g v L=>?_⟩;have B:r≠t:=fun z=>by rw[<- z,St.AH]at g;exact xsn g
    have E:∀ a,j a≠none->((j.set r<|.list<|h.map .int).set t<|.list<|k.map .int) a=j a:=fun a o=>by
     rw[St.AG _ _ fun z=>?_,A a o];rw[<- z,A a o]at g;exact o g
    exact⟨r,t,h,k,rfl,rfl,(St.AG _ _ B).trans<|St.AH ..,St.AH ..,rE (Ti<|List.Perm.eq_of_pairwise (fun a b _ _ C h2=>Int.le_antisymm C h2) N L<|(w.trans d).trans v.symm)<|hp _ _ (m.ext E)<|(BE fm).ext E⟩
theorem OF (l:List Value) (h:TriplesOk l) (e:codeAmong d (l++[.int a k,.int b g,c])=some v):codeAmong d l=some v\/v=c:=by
 fun_induction TriplesOk l with
 |case1=>
  simp only[c7,codeAmong]at e;split at e
  .exact soE e<|.inr rfl
  .exact xns e
 |case2 i t j u n rest m=>
  simp only[List.cons_append,codeAmong]at e ⊢;split at e
  .rename_i f;(refine soE e ?_;clear e);exact .inl<|cA f
  .rename_i f;exact iN f<|m h e
 |case3=>exact h.elim
structure Ic (G:St) (ft:List Addr) (G1:St) (f1:List Addr):Prop where
 tab:Jq G1 f1
 keep:∀ a,a∉ft->G a≠none->G1 a=G a
 sub:∀ a∈f1,a∈ft\/G a=none
 dom:∀ a,G a≠none->G1 a≠none
 nd:ft.Nodup->f1.Nodup
noncomputable abbrev Jk:Str:="law.<locals>.<lambda>"
abbrev Ly (params:Arguments) (body:Expr) (scope:Scope) (clos:List<|Str×Addr) (pm:Value) (c':Addr) (ctv:Value):Obj:=kla_obj "<lambda>" Jk params body scope clos pm c' ctv
noncomputable def vKd:Value->Option Nat
 |.int _ _=>some 1
 |.bool _=>some 2
 |.str _ _=>some 3
 |_=>none
theorem Lz :(vKd v=some 1->∃ i t,v=.int i t)/\(vKd v=some 2->∃ b,v=.bool b)/\(vKd v=some 3->∃ f t,v=.str f t):=by
 induction v<;>refine⟨fun h=>?_,fun h=>?_,fun h=>?_⟩<;>first|exact⟨_,_,rfl⟩|exact⟨_,rfl⟩|exact xns h|exact absurd (so h) (by decide)
def Hj (K:Frag):Bool:=((K.lookup 503).map fun o=>o.cls==.type "code")==some true&&((V7 K 503).map fun a=>a[11]?==some (.ref 501)&&a.getD 11 .none==.ref 501&&vKd (a.getD 18 .none)==some 3&&vKd (a.getD 7 .none)==some 1&&vKd (a.getD 9 .none)==some 2&&vKd (a.getD 10 .none)==some 1)==some true
theorem Kw {K:Frag}(X:K.In h) (e:Hj K=true):CodeHd h 503 501:=by
 refine bc fun w=>xP (bN.mp e)<|xA2 fun D C=>gG (bP.mp<|eq_of_beq D) fun o p B=>gG (bP.mp<|eq_of_beq C) fun s A a=>gG (OT A) fun F m y=>have z:=so<|m.symm.trans p;?_;subst z;exact xP (bN.mp a)<|xA2 fun a k=>xP (bN.mp a)<|xA2 fun a u=>xP (bN.mp a)<|xA2 fun a v=>xP (bN.mp a)<|xA2 fun a i=>xP (bN.mp a)<|xA2 fun j b=>xE2 (Lz.1<|eq_of_beq k) fun l g d=>xE1 (Lz.2.1<|eq_of_beq u) fun E q=>xE2 (Lz.1<|eq_of_beq v) fun x t r=>xE2 (Lz.2.2<|eq_of_beq i) fun n f c=>w ⟨_,s,n,f,x,t,E,l,g,X _ _ p,eq_of_beq B,y,eq_of_beq j,eq_of_beq b,c,r,q,d,by decide⟩
section
variable {Z:PX}{c:FC}
noncomputable def Zz (a:Arguments) (e:Expr) (b:Scope) (d:List<|Str×Addr):VT:=fun _ G P=>∃ k,Jq G k/\∀ f l j i t m h g n,Ic G k g n->g l=some (.obj j)->j.data=.fields i->i[1]?=some (.str Jk t)->g f=none->
 P (.ref f) (g.set f<|.obj<|Ly a e b d m l h)
theorem Xt (h:TriplesOk<|b::a) (e:a[0]?=some (.str q t)):False:=by
 induction a with
 |nil=>exact xns e
 |cons y r=>
  have z:=so e;clear e;revert h;refine rE z fun h=>?_;induction b<;>induction r<;>exact h.elim
theorem QA (aw:Hj Z.K=true)(hq:c.qual = "law") (ao:c.cdv=.ref 503)
  (aj:∀ az,defaultsOf d az=([],[])) (ak:∀ L,closureFor i (c.env L)=pure O):Ev Z c (.Lambda d S i k) (Zz d S i O):=by
 refine fun A aE L s m ls G P Q E cx F lr R=>xF1 fun ft=>xA2 fun hT hp=>fun q=>bc fun W=>?_;obtain⟨J,ps,M,hG,u,I⟩:=id hT;refine W<|kla_eval (aj _) ?_;have aq:(c.env L).qual++("<lambda>":Str)=Jk:=by
  refine(rE hq ?_:(c.qual ++ ".<locals>.")++("<lambda>":Str)=Jk);decide +kernel
 refine rE aq<|have C:=Kw cx.X aw;bc fun W=>gG R fun ae N r=>xE1 (r 501 _ hG) fun ob=>xA3 fun hm z0=>?_;revert hm;refine rE z0 fun hm=>fun _=>W ?_;cases B:codeAmong k ps.toList with
 |none=>
  refine kla_nest (cn:=c.qual) (cs:=c.scope) (a:=c.f) (cl:=c.cl) F (News.pull N hm) cx.T C ao (.head fun p hp=>bU (b9.mp hp).2) u B (ak L) fun f g V vs t aa h' tk F' N' hd hv ag af=>?_;have av:∀ p∈ae,p.1<g:=fun p hp=>by
   by_cases h:p.1=501
   .have:=ag (501,_)<|.head _;exact rE h this
   .exact ag p<|.tail _<|b9.mpr ⟨hp,Ti h⟩
  have fr:∀ b,g<=b->G b=none:=fun b hb=>by
   refine oE (G b) (fun e=>?_) fun o e=>gG (r b o e) fun ob n _=>absurd (cj (av _ n) hb)<|cY _
   .rfl
  have y:=fr g<|To _;have w:=fr f<|cK af;have ay:g≠501:=fun z=>by rw[z,hG]at y;exact xsn y
  have ax:f≠501:=fun z=>by rw[z,hG]at w;exact xsn w
  let j:Array Value:=ps ++ #[rawInt k.line,rawInt k.col,.ref g];have k1:∀ a,G a≠none->a≠501->((G.set g<|.obj V).set 501<|.obj<|tabObj j) a=G a:=fun a n h2=>by
   exact rE (St.AG _ _ h2)<|rE (St.AG _ _ fun z=>n<|by rw[z];exact y) rfl
  have kc:((G.set g<|.obj V).set 501<|.obj<|tabObj j) g=some (.obj V):=(St.AG _ _ ay).trans<|St.AH ..;have ai:j.toList=ps.toList++[rawInt k.line,rawInt k.col,.ref g]:=by simp[j]
  have kd:∀ a,G a≠none->((G.set g<|.obj V).set 501<|.obj<|tabObj j) a≠none:=fun a n=>by
   by_cases h:a=501
   .exact rE h<|rE (St.AH ..)<|L0 _
   .exact rE (k1 a n h) n
  refine q _ _ _ _ (.ref f) (hp f g V vs t ((Z.mg "__name__").getD .none) aa ((G.set g<|.obj V).set 501<|.obj<|tabObj j) (g::ft) ⟨⟨fun b hb=>mC hb (rE kc<|L0 _) fun hb=>kd b<|J b hb,j,.tail _ M,St.AH ..,rE ai<|TriplesOk_snoc _ _ _ _ u,fun ab v ah=>?_⟩,fun a n h2=>k1 a h2 fun z=>n<|z▸M,fun a B=>mC B (.inr y) fun B=>.inl B,kd,fun h=>bL.mpr ⟨(fun x=>J g x y),h⟩⟩ kc hd hv<|rE (St.AG _ _ ax)<|rE (St.AG _ _<|Nat.ne_of_gt af) w) (Sm.ht _ _ _) F' ⟨_,N',fun a o e=>?_⟩
  .rw [ai]at ah;refine T1 (OF _ u ah) (fun h=>?_) fun h=>⟨g,V,vs,t,h,.head _,kc,hd,hv⟩
   .refine bc fun W=>xE4 (I ab v h) fun c2 U D t2=>xA5 fun a1 a2 a3 a4 a5=>W ?_;have ar:c2≠501:=fun z=>by
     rw[z,hG]at a3;cases a3;have aD:(ps:Array Value)=D:=by injection a4
     revert a5;refine rS aD fun a5=>lE' ps.toList (fun hl=>?_) fun x1 r1 hl=>?_
     .rw [hl]at B h;simp[codeAmong]at h
     .have e1:ps[1]?=r1[0]?:=by refine rS Array.getElem?_toList<|rE hl ?_;rfl
      rw[e1]at a5;rw[hl]at u;exact Xt u a5
    exact⟨c2,U,D,t2,a1,.tail _ a2,(k1 c2 (rE a3<|L0 _) ar).trans a3,a4,a5⟩
  .by_cases l:a=f
   .rw [l,St.AH]at e;(refine soE e ?_;clear e);exact rE l ⟨_,.head _,rfl,rfl⟩
   .rw [St.AG _ _ l]at e;by_cases H:a=501
    .rw [H,St.AH]at e;(refine soE e ?_;clear e);exact rE H ⟨_,.tail _<|.tail _<|.head _,rfl,rfl⟩
    .rw [St.AG _ _ H]at e;by_cases Y:a=g
     .rw [Y,St.AH]at e;(refine soE e ?_;clear e);exact rE Y ⟨_,.tail _<|.head _,rfl,(Obj.isFreed_of_fields hd)⟩
     .rw [St.AG _ _ Y]at e;exact gG (r a o e) fun ob n h2=>⟨ob,.tail _<|.tail _<|.tail _<|b9.mpr ⟨n,Ti H⟩,h2⟩
 |some v=>
  refine bc fun W=>xE4 (I k v B) fun c2 U D t2=>xA2 fun z0=>?_;revert B;refine rE z0 fun B=>xA4 fun a2 a3 a4 a5=>W<|kla_hit (cn:=c.qual) (cs:=c.scope) (a:=c.f) (cl:=c.cl) F N cx.T C ao hm u B (ak L) fun f aa h' tk F' N' lt=>?_;have w:G f=none:=by
   refine oE (G f) (fun e=>?_) fun o e=>gG (r f o e) fun ob n _=>absurd (lt _ n)<|cY _
   .rfl
  refine q _ _ _ _ (.ref f) (hp f c2 U D t2 ((Z.mg "__name__").getD .none) aa G ft ⟨hT,fun a _ _=>rfl,fun a h=>.inl h,fun a h=>h,id⟩ a3 a4 a5 w) (Sm.ht _ _ _) F' ⟨_,N',fun a o e=>?_⟩;by_cases l:a=f
  .rw [l,St.AH]at e;(refine soE e ?_;clear e);exact rE l ⟨_,.head _,rfl,rfl⟩
  .rw [St.AG _ _ l]at e;exact gG (r a o e) fun ob n h2=>⟨ob,.tail _ n,h2⟩
end
structure KT (Z:PX):Prop where
 Z0:FnAt Z.K 499 "_law_refused" "_law_refused" (top 15) .none
 NG:nsIn Z.K mainGlobals "_law_refused" = some (some<|.ref 499)
 ZR:keepIn Z.K (.ref 499)=true
 hhd:Hj Z.K=true
 Jl:nsIn Z.K mainGlobals "sorted" = some none
 U4:nsIn Z.K mainGlobals "_law_other" = some (some<|.ref 492)
 OG:nsIn Z.K mainGlobals "_law_hash" = some (some<|.ref 485)
def HD (a:Scope) (b:List<|Str×Addr) (f c:Addr) (n:Nat):FC:=⟨Jk,a,f,.ref c,b,[],n⟩
noncomputable def Xu (h:VT) (g:LS->St->(St->Prop)->Prop):VT:=fun _ G P=>∃ c,Jq G c/\∀ a e f d,Ic G c a e->a f=none->
 (h [] (a.set f d) (fun _ b=>P (.bool false) b)\/g [] (a.set f d) fun b=>P (.bool true) b)
theorem U5 (v:a.StaysIn B) (l:∀ q∈d,B.get? q.1=some q.2/\a.get? q.1=none) (r:Rep d G)
  (f:Heap.FlyingW B [j,h] e (.ref 69) w i) (t:h.frame=some L) (F:Fr a L g m) (u:g.UpToSlots i):Fr a L i m/\SR a L i G:=by
 have s:a.StaysIn i:=fun b o q=>f.1 b o<|v b o q;refine⟨F.of_stays s u,d,fun p k=>⟨f.1 _ _ (l p k).1,fun z=>?_,(l p k).2⟩,r⟩;have:=(f.2.2.1.mem<|List.mem_filterMap.mpr ⟨h,by simp,t⟩).1;have n:=(l p k).1;rw[z,this]at n;exact xns n
theorem NH 
  (h:∀ R:Result->Shared->Prop,(∀ v s,Q v s->R (.ok<|.ret v) s)->codeAny M A (.call f ⟨a,b⟩) R s):wpAny M A (call f a b) Q E s:=
 wpAny_call<|h _ fun _ _ h=>h
theorem Dz (kt:KT Z)(kx:KX Z){Tn:VT}{Tr:LS->St->(St->Prop)->Prop}(hx:Ev Z c (.Name x xp)<|Br<|.ref 499)(aR:∀ bu,defaultsOf j bu=([],[]))(bo:∀ L,closureFor d (c.env L)=pure k)(br:∀ J w u,bindArgs (kla_fn "<lambda>" Jk j l d k J (.ref w) u) ⟨[],[]⟩=pure [])(hn:∀ f w,Ev Z (HD d k f w n) l Tn)(hr:∀ f w,Er Z (HD d k f w n) l Tr)(aS:n+2<=c.n)(hq:autoParam (c.qual = "law") rf)(aU:autoParam (c.cdv=.ref 503) rf)(aq:autoParam (d.kind=.function) rf)(bf:autoParam (∀ x∈d.names,x.2≠.cell) dc)(bk:autoParam (d.isCoroutine=false) rf)(aN:autoParam (d.isGenerator=false) rf) :
  Ev Z c (.Call (.Name x xp) [.Lambda j l d aG] [] a7) (Xu Tn Tr):=by
 refine fun A ai L s m ls G P Q E H F lr R=>xF1 fun ft=>xA2 fun hT hp=>fun q=>bc fun C=>gG (H.tp aU) fun bA B hA=>C<|Call_Name rfl<|hx (P:=fun v G'=>v=.ref 499/\G'=G) H F lr R ⟨rfl,rfl⟩ fun v mv G1 s1 hv t1 aD F1 R1=>bc fun C=>xP t1<|xA2 fun z0=>?_;revert hv;refine rE z0 fun hv=>fun z1=>?_;revert hT hp;refine rS z1 fun hT hp=>have z:=VR.irf hv;?_;revert C;refine rE z fun C=>C<|Cc (first:=[]) kt.ZR (AS (QA kt.hhd hq aU aR bo) Az) H F1 lr R1 (P:=fun ms G2=>∃ f w oc vs t J u S f1,Ic G1 ft S f1/\S w=some (.obj oc)/\oc.data=.fields vs/\vs[1]?=some (.str Jk t)/\S f=none/\ms=[.ref f]/\G2=S.set f (.obj<|Ly j l d k J w u))
  ⟨ft,hT,fun f w oc vs t J u S f1 a1 a2 a3 a4 a5=>⟨f,w,oc,vs,t,J,u,S,f1,a1,a2,a3,a4,a5,rfl,rfl⟩⟩ fun vs ms G2 s2 aa hP az F2 R2=>?_
 refine bc fun C=>xE9 hP fun f w oc aZ t J u S f1=>xA7 fun bb aw aK aI hf z0=>?_;revert aa;refine rE z0 fun aa=>fun z1=>?_;revert R2;refine rE z1 fun R2=>VRs.kco aa fun _ _ z h1 h2=>?_;clear aa;subst z;have z:=VRs.inl h2;revert C;refine rE z fun C=>have z:=VR.irf h1;?_;revert C;refine rE z fun C=>xE8 kt.Z0.ex fun bD od kV bw a8 an ct bC=>xA2 fun ho aT=>gG (id R2) fun D N r=>C<|NH fun RR aW=>xP (groundX (R:=RR) B F2 N hA H.fr H.kf) (xA4 fun FG BG st lv=>have X2:=H.X.keeps F2.keep;ks_codeAny_call_defAt (fd:=fnOf "_law_refused" "_law_refused" (EO<|top 15) (BO<|top 15) (Af<|top 15) .none kV bw a8 an (.ref 498) ct) (body:=BO<|top 15) (binds:=[("deed",.ref f)]) (by have:=H.dep;exact (la3 0x608808410008440011) this) (X2 _ _ ho) rfl (H.T.nolimit.keeps F2.keep) (codeRec_of X2 aT) rfl (.of_eq rfl) (show∀ x∈(Af<|top 15).names,x.2≠.cell by decide) (locs rfl) (fun ah aM V=>c9<|have F3:Fr (hideAll s2.heap (D.map (·.1))) s2.heap.objs.size ah (fun y=>([("deed",Value.ref f)]:List<|Str×Value).reverse.lookup y):=⟨aM,fun b o e=>V b o<|of_hideAll _ e,Nat.le_of_eq<|hideAll_size _ _⟩;have N3:News (hideAll s2.heap (D.map (·.1))) s2.heap.objs.size ah D:=fun p hp=>⟨V _ _ (N p hp).1,Nat.ne_of_lt<|Heap.lt_size (N p hp).1,hideAll_none _<|List.mem_map_of_mem hp⟩;?_) rfl rfl rfl);generalize hideAll s2.heap (D.map (·.1))=g at FG BG st lv F3 N3;generalize s2.heap.objs.size=L1 at aM F3 N3;refine have Y:Cx Z (n+1) (A.deeper<|(fc 499 "_law_refused" (top 15) ["deed"]<|n+1).env L1) g L1 ((fc 499 "_law_refused" (top 15) ["deed"]<|n+1).env L1):=H.deeper ((la2 0x60880841100804091201201) aS) BG (H.X.keeps st) (H.T.keeps st) rfl rfl<|D9 (f:=499);have aF:LR ["deed"] [some<|.ref f] (fun y=>([("deed",Value.ref f)]:List<|Str×Value).reverse.lookup y):=LR.start (names:=["deed"]) (rest:=[]) (by decide) rfl<|.cons (.ref _) .nil;?_;have bp:w≠f:=fun z=>by rw[z,hf]at aw;exact xns aw
 have aV:(S.set f<|.obj<|Ly j l d k J w u) w=some (.obj oc):=(St.AG _ _ bp).trans aw;have av:(Value.ref w)≠.ref 503:=fun z=>by
  injection z with z;have h0:=(R2.get aV).choose_spec.2.2.2;refine xE9 (Kw H.X kt.hhd) fun o5 _ _ _ _ _ _ _ _=>xA2 fun h5 _=>?_;rw[z,h5]at h0;exact xsn h0
 refine cg (E:=fun _ _=>False) (cy<|wpAny_Try_except<|cy<|wpAny_Expr_any (Call_Name rfl<|(AQ (c:=fc 499 "_law_refused" (top 15) ["deed"]<|n+1) 0) (P:=fun v G'=>v=.ref f/\G'=S.set f (.obj<|Ly j l d k J w u)) Y F3 aF ⟨D,N3,r⟩ ⟨rfl,rfl⟩ fun v mv G4 s4 hv t4 ay F4 R4=>bc fun C=>xP t4<|xA2 fun z0=>?_) rfl<|Bn rfl _ _ _) (fun _ _ x=>x) fun _ _ x=>x.elim;revert hv;refine rE z0 fun hv=>fun z1=>?_;revert R4;refine rE z1 fun R4=>have z:=VR.irf hv;?_;revert C;refine rE z fun C=>xP (R4.Cv<|St.AH S f<|.obj<|Ly j l d k J w u)<|xA3 fun bj _ _=>xP (R4.Cv aV)<|xA3 fun bq _ _=>C<|callWith_of (P:=fun h=>h.get? f=some (Ly j l d k J w u)) rfl (fun h hq=>⟨.frame,.inl rfl,(Looks.ld (part:=none) hq).andThen .now⟩)<|evalArgs_nil3 ⟨bj,bc fun C=>gG (id R4) fun ao N4 r4=>xE1 (r4 f _<|St.AH S f<|.obj<|Ly j l d k J w u) fun bF=>xA3 fun ar z0=>?_⟩;revert ar;refine rE z0 fun ar=>fun _=>C<|wpAny_call<|kla_code BG F4 Y.X N4 Y.T (c0 BG.stack) rfl rfl ar ⟨w,oc,aZ,t,rfl,bq,aK,aI⟩ (show A.depth+1<_ by have:=H.dep;exact (la4 0x3823021060021304482010240212) aS this) (br J w u) (fun y hy=>nomatch hy) (fun g2 L2 h2 ax F5 N5 B2 X5 T5=>have aY:Cx Z n ((A.deeper<|(fc 499 "_law_refused" (top 15) ["deed"]<|n+1).env L1).deeper<|(HD d k f w n).env L2) g2 L2 ((HD d k f w n).env L2):=Y.deeper (To _) B2 X5 T5 rfl aq av;have aE:LR [] [] (fun y=>([]:List<|Str×Value).reverse.lookup y):=⟨dC,rfl,fun i x hi=>by simp at hi⟩;have R5:SR g2 L2 h2 (S.set f<|.obj<|Ly j l d k J w u):=⟨ao,N5,r4⟩;T1 (hp S f1 f (.obj<|Ly j l d k J w u) bb hf) (fun tt=>?_) fun tt=>?_) bk aN aq bf
 .refine(hn f w) aY F5 aE R5 tt fun v5 bG G6 s6 bI W aj F6 R6=>bc fun C=>gG R6 fun U N6 r6=>C<|leaveK_ F6 N6 fun F7 N7=>(Ae (c:=fc 499 "_law_refused" (top 15) ["deed"]<|n+1) (Il Bf) BJ) (P:=fun mf a9 G'=>mf=.ret (.bool false)/\G'=G6) Y F7 aF ⟨U,N7,r6⟩ ⟨rfl,rfl⟩ fun fl mf a9 G' m' s' ag bt a6 F' bH R'=>xP bt<|xA2 fun z0=>?_;revert ag;refine rE z0 fun ag=>fun z1=>?_;revert W;refine rS z1 fun W=>FlR.kre ag fun _ z hv=>?_;clear ag;subst z;have z:=VR.ibo hv;clear hv;subst z;exact gG R' fun ak N8 r8=>lv _ _<|leaveK_ F' N8 fun F8 N8=>aW _ _ <|q _ _ G' s' (.bool false) W (((((aD.trans az).trans<|Sm.ht _ _ _).trans ay).trans<|(Sm.ht _ _ _).trans aj).trans a6) F8 ⟨ak,N8,r8⟩
 .refine(hr f w) aY B2 (c0 B2.stack) F5 aE R5 tt fun e s6 G6 W aj ht=>ht.leave B2 (c0 B2.stack) rfl rfl aq fun h' aO hu=>bc fun C=>xE3 aO fun B6 U a0=>xA4 fun aX bh r6 aP=>C<|wpAny_looks_onW (c0 BG.stack) rfl aP fun bz O M=>wpAny_landsW O fun aH I K=>have aJ:ai.StaysIn aH:=fun b o q=>I.1 b o<|aX b o q;bc fun C=>gG I.there fun ob bg aL=>C<|wpAny_handleBy_cons (codeAny_handlers_test<|name_K (cn:="_law_refused") (cs:=Af<|top 15) (a:=499) (ccd:=.ref 498) ((⟨ax.ns,fun b o e=>ax.keep b o<|BG.stays b o e,(bW FG.above<|bW (cK FG.ns.lt) F3.above)⟩:Fr ai L1 g2 _).of_stays aJ<|(hu.trans M).trans K) H.X (topRead_of H.T) kx.Vr (bc fun C=>?_) rfl rfl<|by decide) (by intro q;cases q);obtain⟨nm,qn,N0,bs,sn,bB,ab,bJ,dd,k0,k1,k2,k3,k5,hC⟩:=IX (H.X.keeps aJ) kx.ok;exact C<|wpAny_excMatches_sub_self hC bg aL (by decide)<|codeAny_handlers_suite<|lands_againW I fun bx af ae=>wpAny_passesOwnAt PassesOwnAt.never<|cy<|wpAny_Return_some<|wpAny_Constant_bool<|xP (U5 aX bh r6 af H.fr FG<|((((Heap.UpToSlots.of_keeps ax.keep).trans hu).trans M).trans K).trans ae)<|xA2 fun F8 R8=>aW _ _ <|q _ _ G6 _ (.bool true) W ((((aD.trans az).trans<|Sm.ht _ _ _).trans ay).trans<|((Sm.ht _ _ _).trans aj).trans<|Sm.h _ _) F8 R8
theorem Loc.ZS {s u ls}(h:Loc G s u ls) (m:s.flatten.Nodup):∀{i f'},AL u i=some .tab->(∀ b∈s.flatten,b∉B0 s i->y b=G b)->Jq y f'->Jq G (B0 s i)/\Loc y (BD s i f') u ls:=by
 induction h with
 |nil=>intro i f' e;exact xns e
 | @free g k l o h j=>
  intro i f' e d f;have t:g.flatten.Nodup:=by simpa using m
  induction i with
  |zero=>exact xns e
  |succ i=>exact⟨(j t e (fun b c a=>d b (by simpa using c) a) f).1,.free o (j t e (fun b c a=>d b (by simpa using c) a) f).2⟩
 | @own f0 A v g k l h0 h j=>
  intro i f' e d f;rw[D4,SF]at m;obtain⟨w,r,n⟩:=m;cases i with
  |zero=>cases h0<;>cases e
  |succ i=>
   obtain⟨q,p⟩:=j r e (fun b c a=>d b (rE D4<|Bl _ c) a) f;exact⟨q,.own (h0.mono fun b c=>d b (rE D4<|Lf _ c) fun a=>n b c b (Ad a) rfl) p⟩
 | @B5 z g k l h0 h j=>
  intro i f' e d f;rw[D4,SF]at m;obtain⟨w,r,n⟩:=m;cases i with
  |zero=>cases e
  |succ i=>
   obtain⟨q,p⟩:=j r e (fun b c a=>d b (rE D4<|Bl _ c) a) f;exact⟨q,.B5 ((d _ (by simp) fun a=>n _ (.head _) _ (Ad a) rfl).trans h0) p⟩
 | @cel z f0 A v g k l h0 x h j=>
  intro i f' e d f;rw[D4,SF]at m;obtain⟨w,r,n⟩:=m;cases i with
  |zero=>cases e
  |succ i=>
   obtain⟨q,p⟩:=j r e (fun b c a=>d b (rE D4<|Bl _ c) a) f;exact⟨q,.cel ((d _ (by simp) fun a=>n _ (.head _) _ (Ad a) rfl).trans h0) (x.mono fun b c=>d b (by simp[c]) fun a=>n b (.tail _ c) b (Ad a) rfl) p⟩
 | @tab f0 g k l h0 h j=>
  intro i f' e d f;rw[D4,SF]at m;obtain⟨w,r,n⟩:=m;induction i with
  |zero=>exact⟨h0,.tab f<|h.mono fun b c=>d b (rE D4<|Bl _ c) fun a=>n b a b c rfl⟩
  |succ i=>
   obtain⟨q,p⟩:=j r e (fun b c a=>d b (rE D4<|Bl _ c) a) f;exact⟨q,.tab (h0.mono fun b c=>d b (by simp[c]) fun a=>n b c b (Ad a) rfl) p⟩
theorem Loc.Xv {c b ls}(h:Loc G c b ls):∀{i},AL b i=some .tab->Jq G (B0 c i):=by
 induction h with
 |nil=>intro i e;exact xns e
 |free o _ a=>intro i e;cases i with|zero=>exact xns e|succ i=>exact a (i:=i) e
 |own h _ a=>intro i e;cases i with|zero=>(cases h<;>cases e)|succ i=>exact a (i:=i) e
 |B5 h _ a=>intro i e;induction i with|zero=>cases e|succ i=>exact a (i:=i) e
 |cel h d _ a=>intro i e;induction i with|zero=>cases e|succ i=>exact a (i:=i) e
 |tab h _ a=>intro i e;induction i with|zero=>exact h|succ i=>exact a (i:=i) e
theorem LN.PN {g m ls}(h:LN G g m ls) (e:AL m j=some .tab) (d:Ic G (B0 g j) c l) (t:c f=none) :
  LN (c.set f fo) (BD g j l) m ls/\FmN g G (BD g j l) (c.set f fo):=by
 refine bc fun q=>?_;obtain⟨_,n⟩:=h.lo.ZS h.nd e (fun b u o=>d.keep b o<|h.lo.dom b u) d.tab;refine q ?_;obtain⟨s,w,r⟩:=h.Vx (f:=[]) (f':=l) n (by refine rE (c7 ..) ?_;exact d.nd<|Ay h.nd j) ⟨fun a p v=>d.keep a v p,fun a i=>d.sub a<|by rw[c7]at i;exact i,fun a p _=>d.dom a p⟩;have k:∀ a,c a≠none->(c.set f fo) a=c a:=fun a i=>St.AG _ _ fun z=>i<|rE z t;exact⟨s.ext k,(BE r).ext k⟩
theorem HE :Ev Z c e (fun _ _ _=>False):=fun _ _ _ _ _ _ _ _ _ _ _ _ _ _ t _=>t.elim
def SY (j:Nat) (b:Nat->PL->Bool):ME:=fun n a=>match AL a j with
 |some .tab=>if b n a=true then some (.bool true,a)else none
 |_=>none
theorem mv98 {d:Type}{f:Option d}{r:d}{g:Prop}(e:(match b with|some AV.tab=>f|_=>none)=some r) (j:b=some AV.tab->f=some r->g):g:=by
 generalize h:b=a at e;revert e h;exact Option.casesOn a (fun _=>xns) fun i=>AV.casesOn i (fun _ _=>xns) (fun _ _=>xns) (fun _ _ _=>xns) (fun _ _ _=>xns) (fun _ _ _=>xns) (fun _ _=>xns) (fun _ _=>xns) (fun _ _ _=>xns) j
theorem QB {r:MV}(h:SY j d n b=some (r,a)):AL b j=some .tab/\d n b=true/\r=.bool true/\a=b:=by
 unfold SY at h;refine mv98 h ?_
 .clear h;intro e h;obtain⟨g,f⟩:=BL h;cases f;exact⟨e,g,rfl,rfl⟩
theorem MA (j:Nat) (p:Nat->PL->Bool) (h:Ev Z c e<|Xu (fun _ _ _=>False) u)
  (m:∀{n:Nat} {G:St} {o:FS} {d:PL} {k:LS} {P:St->Prop},LN G o d k->p n d=true->(∀ a b,LN b a d k->FmN o G a b->P b)->u [] G P):Ee Z c e (SY j p):=by
 refine Ev.weaken h ?_;rintro k G P ⟨n,o,d,r,w,q,e,l⟩;refine bc fun x=>?_;obtain⟨s,D,i,g⟩:=QB e;refine x ?_;revert l;refine rE i fun l=>?_;subst g;refine⟨_,q.lo.Xv s,fun F E f t v C=>.inr ?_⟩;obtain⟨B,A⟩:=q.PN (fo:=t) s v C;exact m B D fun a b z y=>l a b z<|A.trans y
theorem Sb:∀{b:PL}{i:Nat}{a:AV},AL b i=some a->AY b i a=b:=by
 intro b;induction b with
 |nil=>intro i a e;rfl
 |cons y r c=>
  intro i a e;cases i with
  |zero=>cases e;rfl
  |succ i=>exact cT (y :: ·)<|c (i:=i) e
theorem U6 {G i:St}(j:G x=none) (k:G d=none) (h:∀ a,((G.set d o).set x f) a≠none->a≠d->i a=((G.set d o).set x f) a):∀ b,G b≠none->i b=G b:=fun b c=>by
 have g:b≠x:=fun z=>c<|rE z j;have e:b≠d:=fun z=>c<|rE z k;rw[h b (by rw[St.AG _ _ g,St.AG _ _ e];exact c) e,St.AG _ _ g,St.AG _ _ e]
noncomputable def Sd (i:Int):LS->St->(St->Prop)->Prop:=Vs CQ (DC (Br<|.int i) Hz) SS
theorem PO (a:KN Z) (d:KX Z) (c:KY Z)(j:q.kind=.function) (k:q.names.lookup (Str.ofString "QuotientFilter")=some .globalImplicit) (h:7<=n) :
  Er Z (HD q m f r n) (.Call (.Name "QuotientFilter" b) [.Constant (.int i) e g] [] p) (Sd i):=
 Xp (Mw a j k) a.Xl (AS AE Az) (Ux a d c) h
theorem PQ (t:i=2\/i=32)(k:LN G c g j) (s:∀ b e,LN e b g j->FmN c G b e->P e):Sd i [] G P:=by
 intro x d p u l;refine⟨x,i,rfl,t,fun a o h=>?_,s c G k .refl⟩;rw[St.AG _ _ fun z=>?_,St.AG _ _ fun z=>?_]
 .exact h
 .rw [z,u]at h;exact xns h
 .rw [z,p]at h;exact xns h
noncomputable def Vz (m:List<|Str×Addr):LS->St->(St->Prop)->Prop:=Lu CQ "merge" (OD m "one") (DC (XE CQ (DC (Br<|.int 3)<|DC (Br<|.bool true)<|DC (Br<|.ref 492) Hz) SI) Hz) Vv
theorem Xw (k:KF Z) (y:KI Z) (x:KJ Z) (w:KL Z) (u:KU Z) (a:KN Z) (v:KT Z) (t:KX Z) (s:KY Z)(b:q.kind=.function) (E:q.names.lookup (Str.ofString "one")=some .free) (D:q.names.lookup (Str.ofString "QuotientFilter")=some .globalImplicit)
  (C:q.names.lookup (Str.ofString "_law_other")=some .globalImplicit) (B:(e.endLine==p.line)=true) (d:7<=n) :
  Er Z (HD q m f r n) (.Call (.Attribute (.Name "one" g) "merge" e) [.Call (.Name "QuotientFilter" h) [.Constant (.int 3) A o,.Constant (.bool true) z l,.Name "_law_other" j] [] i] [] p) (Vz m):=
 IZ k.Qu (HC (c:=HD q m f r n) b E) (AS (Jc (Mw a b D) a.Xl (AS AE<|AS Bf<|AS (Be v.U4 b C) Az) (O8 k y x a)<|bW (by decide) d) Az) (SQ k w u t s) (bW (by decide) d) rfl B rfl
def PR (m:List<|Str×Addr) (i:Nat):Nat->PL->Bool:=fun _ b=>match AL b i with
 |some (.cel a<|.qf S)=>m.lookup (Str.ofString "one")==some a&&S.hf==485
 |_=>false
theorem mv1026 {h:Addr->QS->Bool}{g:Prop}(e:(match d with|some (AV.cel b<|AV.qf a)=>h b a|_=>false)=true) (l:∀ b a,d=some (AV.cel b<|AV.qf a)->h b a=true->g):g:=by
 generalize i:d=c at e;revert e i;exact Option.casesOn c (fun _=>xft) fun k=>AV.casesOn k (fun _ _=>xft) (fun _ _=>xft) (fun _ _ _=>xft) (fun _ _ _=>xft) (fun _ _ _=>xft) (fun _ _=>xft) (fun _ _=>xft) (fun p j=>AV.casesOn j (fun _ _=>xft) (fun _ _=>xft) (fun _ _ _=>xft) (fun _ _ _=>xft) (fun _ _ _=>xft) (fun o=>l _ _) (fun _ _=>xft) (fun _ _ _=>xft) fun _=>xft) fun _=>xft
theorem Xx (s:LN G o k p) (e:PR m i n k=true) (u:∀ h j,LN j h k p->FmN o G h j->P j):Vz m [] G P:=by
 unfold PR at e;refine mv1026 e ?_
 .intro a S z e;rw[bV,cD,cD]at e;exact gH (s.lo.qfC z) fun D F y l=>⟨a,_,e.1,y,l.free rfl fun x d t v g=>⟨x,d,3,true,492,rfl,St.AH ..,((St.AG _ _<|cZ g).trans<|St.AH ..),g,by decide,fun E j C J B I H A=>⟨rfl,have c:=U6 t v A;⟨D,E,S,QS.new 3 true 492,rE C rfl,l.mono fun b w=>c b<|((Own.qf l).dom) b w,B,e.2,rfl,u o j (s.ext c)<|FmN.refl.ext c⟩⟩⟩⟩
noncomputable def V0 (m:List<|Str×Addr):LS->St->(St->Prop)->Prop:=Lu CQ "add_alt" (OD m "small") (DC (QY (OD m "eight")<|Br<|.int 8) Hz) Vw
theorem Xy (k:KF Z) (h:KX Z) (g:KY Z)(a:q.kind=.function) (t:q.names.lookup (Str.ofString "small")=some .free) (s:q.names.lookup (Str.ofString "eight")=some .free) (l:(b.endLine==p.line)=true) (o:9<=n) :
  Er Z (HD q m f r n) (.Call (.Attribute (.Name "small" d) "add_alt" b) [.Subscript (.Name "eight" u) (.Constant (.int 8) i j) e] [] p) (V0 m):=
 IZ k.DX (HC (c:=HD q m f r n) a t) (AS (IM (HC (c:=HD q m f r n) a s) AE rfl) Az) (OC k h g) o rfl l rfl
def Se (m:List<|Str×Addr) (i j:Nat):Nat->PL->Bool:=fun n c=>match AL c i,AL c j with
 |some (.cel a<|.qf S),some (.cel b<|.lst xs)=>(match(xs[8]?:Option MV)with
  |some (MV.int<|.ofNat h)=>m.lookup (Str.ofString "small")==some a&&m.lookup (Str.ofString "eight")==some b&&!S.due&&decide (S.hq h<S.n/\S.n<=1000)&&(cal S n (S.hq h) (S.hr h)==some (-1))&&S.n==S.cnt
  |_=>false)
 |_,_=>false
theorem mv1027 {l:Addr->QS->Addr->(List MV)->Bool}{g:Prop}(e:(match k,j with|some (AV.cel d<|AV.qf c),some (AV.cel b<|AV.lst a)=>l d c b a|_,_=>false)=true) (w:∀ d c b a,k=some (AV.cel d<|AV.qf c)->j=some (AV.cel b<|AV.lst a)->l d c b a=true->g):g:=by
 generalize p:k=i at e;generalize o:j=h at e;revert e p o;exact Option.casesOn i (fun _ _=>xft) fun v=>AV.casesOn v (fun _ _ _=>xft) (fun _ _ _=>xft) (fun _ _ _ _=>xft) (fun _ _ _ _=>xft) (fun _ _ _ _=>xft) (fun _ _ _=>xft) (fun _ _ _=>xft) (fun A u=>AV.casesOn u (fun _ _ _=>xft) (fun _ _ _=>xft) (fun _ _ _ _=>xft) (fun _ _ _ _=>xft) (fun _ _ _ _=>xft) (fun z=>Option.casesOn h (fun _ _=>xft) fun t=>AV.casesOn t (fun _ _ _=>xft) (fun _ _ _=>xft) (fun _ _ _ _=>xft) (fun _ _ _ _=>xft) (fun _ _ _ _=>xft) (fun _ _ _=>xft) (fun _ _ _=>xft) (fun y s=>AV.casesOn s (fun _ _ _=>xft) (fun x=>w _ _ _ _) (fun _ _ _ _=>xft) (fun _ _ _ _=>xft) (fun _ _ _ _=>xft) (fun _ _ _=>xft) (fun _ _ _=>xft) (fun _ _ _ _=>xft) fun _ _=>xft) fun _ _=>xft) (fun _ _ _=>xft) (fun _ _ _ _=>xft) fun _ _=>xft) fun _ _=>xft
theorem mv1028 {d:Nat->Bool}{g:Prop}(e:(match c with|some (MV.int<|Int.ofNat a)=>d a|_=>false)=true) (k:∀ a,c=some (MV.int<|Int.ofNat a)->d a=true->g):g:=by
 generalize h:c=b at e;revert e h;exact Option.casesOn b (fun _=>xft) fun j=>MV.casesOn j (fun _=>xft) (fun _ _=>xft) (fun i=>Int.casesOn i (fun l=>k _) fun _ _=>xft) (fun _ _=>xft) (fun _ _=>xft) (fun _ _=>xft) fun _ _=>xft
theorem Xz (g:LN G y k s) (e:Se m i j n k=true) (L:∀ c d,LN d c k s->FmN y G c d->P d):V0 m [] G P:=by
 unfold Se at e;refine mv1027 e ?_
 .refine fun a S b E o O e=>mv1028 e ?_
  .intro h N e;simp only[bV,cD,Bool.not_eq_true',decide_eq_true_eq]at e;refine xP e<|xA2 fun C=>?_;revert C;refine xA2 fun B=>?_;revert B;refine xA2 fun A=>?_;revert A;refine xA2 fun z=>?_;revert z;refine xA2 fun X W=>fun V=>xA2 fun U T=>fun R=>fun Q=>gH (g.lo.qfC o) fun D x w u=>gH (g.lo.Uz O) fun l h4 M t=>⟨a,_,X,w,u.free rfl ⟨b,.ref l,W,M,(rE t ?_:(match G l with|some (.list _)=>_|_=>False))⟩⟩;show(match G l with|some (.list _)=>_|_=>False);refine rE t ⟨by decide,(rE N ?_:(match E[8]? with|some v=>_|none=>False))⟩;refine⟨n,D,S,h,rfl,u,(bL.mp<|x▸Ay g.nd i).2,V,U,T,R,Q,fun Y d K J I H=>xP (g.Hg (f:=[]) (f':=Y.foot) o x w (K▸Own.qf J) (rE (c7 ..) I)<|rE (c7 ..) H)<|xA3 fun p _ F=>?_⟩;rw[Sb o]at p;exact L _ d p<|BE F
noncomputable def V1 (b:List<|Str×Addr):VT:=KH CQ "resize" (OD b "one") (DC (Br<|.int 3) Hz)<|sQ SA
noncomputable def V2 (b:List<|Str×Addr):LS->St->(St->Prop)->Prop:=Lu CQ "resize" (OD b "one") (DC (Br<|.int 3) Hz) Vu
theorem X0 (k:KF Z) (j:KI Z) (i:KJ Z) (e:KR Z)(r:a.kind=.function) (s:a.names.lookup (Str.ofString "one")=some .free) (o:(g.endLine==p.line)=true) (q:22<=n) :
  Ev Z (HD a b f d n) (.Call (.Attribute (.Name "one" h) "resize" g) [.Constant (.int 3) l m] [] p) (V1 b):=
 C1 e.IW (HC (c:=HD a b f d n) r s) (AS AE Az) (P2 k j i e) q o
theorem X4 (k:KF Z) (e:KR Z) (j:KX Z) (i:KY Z)(r:a.kind=.function) (s:a.names.lookup (Str.ofString "one")=some .free) (o:(g.endLine==p.line)=true) (q:6<=n) :
  Er Z (HD a b f d n) (.Call (.Attribute (.Name "one" h) "resize" g) [.Constant (.int 3) l m] [] p) (V2 b):=
 IZ e.IW (HC (c:=HD a b f d n) r s) (AS AE Az) (P8 k e j i) q rfl o rfl
def PS (b:List<|Str×Addr) (j i:Nat):ME:=fun n d=>match AL d j,AL d i with
 |some .tab,some (.cel a<|.qf S)=>if b.lookup (Str.ofString "one")=some a then(match decide (8<=S.cnt)with
  |true=>some (.bool true,d)
  |false=>(match rsz n S 3 with|some e=>some (.bool false,AY d i<|.cel a<|.qf e)|none=>none))else none
 |_,_=>none
theorem mv99 {j:Type}{k:Addr->QS->Option j}{r:j}{g:Prop}(e:(match i,h with|some AV.tab,some (AV.cel b<|AV.qf a)=>k b a|_,_=>none)=some r) (q:∀ b a,i=some AV.tab->h=some (AV.cel b<|AV.qf a)->k b a=some r->g):g:=by
 generalize m:i=f at e;generalize l:h=d at e;revert e m l;exact Option.casesOn f (fun _ _=>xns) fun p=>AV.casesOn p (fun _ _ _=>xns) (fun _ _ _=>xns) (fun _ _ _ _=>xns) (fun _ _ _ _=>xns) (fun _ _ _ _=>xns) (fun _ _ _=>xns) (fun _ _ _=>xns) (fun _ _ _ _=>xns)<|Option.casesOn d eT fun o=>AV.casesOn o (fun _ _ _=>xns) (fun _ _ _=>xns) (fun _ _ _ _=>xns) (fun _ _ _ _=>xns) (fun _ _ _ _=>xns) (fun _ _ _=>xns) (fun _ _ _=>xns) (fun t n=>AV.casesOn n (fun _ _ _=>xns) (fun _ _ _=>xns) (fun _ _ _ _=>xns) (fun _ _ _ _=>xns) (fun _ _ _ _=>xns) (fun s=>q _ _) (fun _ _ _=>xns) (fun _ _ _ _=>xns) fun _ _=>xns) fun _ _=>xns
theorem mv1010 {f:Type}{h:QS->Option f}{r:f}{g:Prop}(e:(match d with|some a=>h a|none=>none)=some r) (j:∀ a,d=some a->h a=some r->g):g:=by
 generalize i:d=b at e;revert e i;exact Option.casesOn b eS fun k=>j _
theorem QC (j i:Nat) (h:Ev Z c e<|Xu (V1 b)<|V2 b):Ee Z c e (PS b j i):=by
 refine Ev.weaken h ?_;rintro Q G P ⟨n,R,O,r,H,o,e,d⟩;unfold PS at e;refine mv99 e ?_
 .refine fun a S w u e=>xP (Au e)<|xA2 fun s e=>⟨_,o.lo.Xv w,fun U T f t A J=>bc fun I=>xP (o.PN (fo:=t) w A J)<|xA2 fun g p=>gH (g.lo.qfC u) fun D q m k=>I ?_⟩;split at e
  .rename_i K;revert d;exact BH e fun d=>.inr ⟨a,_,s,m,k.free rfl ⟨D,S,rfl,k,bU K,d _ _ g p⟩⟩
  .refine mv1010 e ?_
   .intro x M e;revert d;refine BH e fun d=>have l:(a::D.foot).Nodup:=q▸Ay g.nd i;?_;have L:SA n S [.int<|.ofNat 3]=some (.v .none,x):=by unfold SA;dsimp only;exact rE M rfl
    exact .inl ⟨a,_,s,m,k.free rfl ⟨n,D,S,[.int<|.ofNat 3],.v .none,x,k,(bL.mp l).2,rfl,L,fun W V f mv F E C N B=>xP (g.Hg u q m (E▸Own.qf F) C B)<|xA3 fun z _ y=>d _ _ z<|p.trans<|BE y⟩⟩
def X6 (d:List<|Str×Addr) (x:Str) (i k:Nat):ME:=fun n b=>match AL b i,AL b k with
 |some (.cel a<|.qf S),some (.qf T)=>if d.lookup x=some a/\S.hf=485/\T.hf=485/\i≠k then(match hsh T with
  |some l=>(match HA n S l with
   |some e=>some (.none,AY (AY (E3 b k) i<|.cel a<|.qf e) k<|.qf T)
   |none=>none)
  |none=>none)else none
 |_,_=>none
theorem OH:∀{a:PL}{i k:Nat},i≠k->AL (E3 a k) i=AL a i:=by
 intro a;induction a with
 |nil=>intro i k h;rfl
 |cons y r b=>
  intro i k h;cases k with
  |zero=>induction i with|zero=>exact absurd rfl h|succ i=>rfl
  |succ k=>induction i with|zero=>rfl|succ i=>exact b (i:=i) (k:=k) fun z=>h<|rE z rfl
theorem Hk:∀{a:FS}{i k:Nat}{f:List Addr},i≠k->B0 (BD a k f) i=B0 a i:=by
 intro a;induction a with
 |nil=>intro i k f h;rfl
 |cons y r b=>
  intro i k f h;cases k with
  |zero=>induction i with|zero=>exact absurd rfl h|succ i=>rfl
  |succ k=>induction i with|zero=>rfl|succ i=>exact b (i:=i) (k:=k) fun z=>h<|rE z rfl
theorem QE:∀{a:LS}{k:Nat}{v:MV},(a[k]?).join=some v->a.set k (some v)=a:=by
 intro a;induction a with
 |nil=>intro k v h;rfl
 |cons y r b=>
  intro k v h;induction k with
  |zero=>have h:y=some v:=h;refine rE h ?_;rfl
  |succ k=>exact cT (y :: ·)<|b (k:=k)<|by simpa using h
theorem LN.ZT {m H ls}{i k:Nat}{q v e j:QD}(A:LN G m H ls) (t:i≠k) (Y:AL H i=some (.cel a<|.qf S)) (w:B0 m i=a::q.foot) (N:G a=some (.cell<|some<|.ref q.x)) (E:B0 m k=v.foot) (V:(ls[k]?).join=some (.ref v.x))
  (P:e.x=q.x) (O:j.x=v.x) (R:Bz y e M) (Q:Bz y j T) (U:(e.foot++j.foot).Nodup) (F:Fm (q.foot++v.foot) G (e.foot++j.foot) y) :
  ∃ D,LN y D (AY (AY (E3 H k) i<|.cel a<|.qf M) k<|.qf T) ls/\FmN m G D y:=by
 have K:=A.lo.dom;have B:G a≠none:=rE N<|L0 _;have r:(BD m k []).flatten.Nodup:=Bb A.nd dC fun b d=>nomatch d;have l:∀ b∈v.foot,b∉(BD m k []).flatten:=fun b d g=>nomatch (Cq A.nd g<|E▸d);have o:B0 (BD m k []) i=a::q.foot:=(Hk t).trans w;have C:a∉q.foot++v.foot:=fun h=>(X1.mp h).elim ((bL.mp<|w▸Ay A.nd i).1) (fun h=>l a h<|Ad (i:=i)<|rE o<|.head _);have u:a∉e.foot++j.foot:=fun h=>(F.sub a h).elim C B;have p:=SF.mp U;have X:∀ b∈(BD m k []).flatten,b∉B0 (BD m k []) i->y b=G b:=fun b d g=>F.keep b (K b<|BM b d) fun h=>by
  exact T1 (X1.mp h) (fun h=>g<|rE o<|.tail _ h) fun h=>l b h d
 have J:(BD (BD m k []) i<|a::e.foot).flatten.Nodup:=Bb r (bL.mpr ⟨fun h=>u<|Lf _ h,p.1⟩) fun b d=>by
  exact mC d (.inl<|rE o<|.head _) fun d=>T1 (F.sub b<|Lf _ d) (fun h=>T1 (X1.mp h) (fun h=>.inl<|rE o<|.tail _ h) fun h=>.inr<|l b h) fun h=>.inr fun g=>K b (BM b g) h
 have s:=((A.lo.unset k).SU r (i:=i) (c:=a) (a':=.qf M) (f':=e.foot) (mv:=.ref q.x) (by refine rE (OH t)<|rE Y ?_;rfl) X ((F.keep a B C).trans N)<|P▸Own.qf R).set (i:=k) (f:=j.foot) (a:=.qf T) (mv:=.ref j.x)<|.qf Q;replace s:=(QE V)▸O▸s;have W:B0 (BD (BD m k []) i<|a::e.foot) k=B0 (BD m k []) k:=Hk<|cZ t;have I:(BD (BD (BD m k []) i<|a::e.foot) k j.foot).flatten.Nodup:=Bb J p.2.1 fun b d=>.inr fun g=>by
  refine T1 (Bs g) (fun h=>?_) fun h=>?_
  .rcases bM.mp h with rfl|h
   .exact u<|Bl _ d
   .exact p.2.2 b h b d rfl
  .refine T1 (F.sub b<|Bl _ d) (fun n=>?_) fun n=>K b (BM b h) n
   .refine T1 (X1.mp n) (fun n=>?_) fun n=>l b n h
    .have:=Cq (f':=a::e.foot) r (i:=i) g<|rE o<|.tail _ n;rcases bM.mp this with rfl|h
     .exact u<|Bl _ d
     .exact p.2.2 b h b d rfl
 refine⟨_,⟨s,I⟩,⟨⟨fun b n L=>F.keep b n fun h=>L<|(X1.mp h).elim (fun h=>Ad (i:=i)<|rE w<|.tail _ h) fun h=>Ad (i:=k)<|rE E h,fun b d=>?_,fun b n L=>F.dom b n fun h=>L<|(X1.mp h).elim (fun h=>Ad (i:=i)<|rE w<|.tail _ h) fun h=>Ad (i:=k)<|rE E h⟩⟩⟩
 .have z:b∈q.foot++v.foot\/G b=none->b∈m.flatten\/G b=none:=fun h=>h.imp (fun h=>(X1.mp h).elim (fun h=>Ad (i:=i)<|rE w<|.tail _ h) fun h=>Ad (i:=k)<|rE E h) id;exact T1 (Bs d) (fun d=>z<|F.sub b<|Bl _ d) fun d=>T1 (Bs d) (fun d=>mC d (.inl<|Ad (i:=i)<|rE w<|.head _) fun d=>z<|F.sub b<|Lf _ d) fun d=>.inl<|BM b d
theorem mv100 {k:Type}{l:Addr->QS->QS->Option k}{r:k}{g:Prop}(e:(match j,i with|some (AV.cel d<|AV.qf b),some (AV.qf a)=>l d b a|_,_=>none)=some r) (s:∀ d b a,j=some (AV.cel d<|AV.qf b)->i=some (AV.qf a)->l d b a=some r->g):g:=by
 generalize n:j=h at e;generalize m:i=f at e;revert e n m;exact Option.casesOn h (fun _ _=>xns) fun q=>AV.casesOn q (fun _ _ _=>xns) (fun _ _ _=>xns) (fun _ _ _ _=>xns) (fun _ _ _ _=>xns) (fun _ _ _ _=>xns) (fun _ _ _=>xns) (fun _ _ _=>xns) (fun v p=>AV.casesOn p (fun _ _ _=>xns) (fun _ _ _=>xns) (fun _ _ _ _=>xns) (fun _ _ _ _=>xns) (fun _ _ _ _=>xns) (fun u=>Option.casesOn f (fun _ _=>xns) fun o=>AV.casesOn o (fun _ _ _=>xns) (fun _ _ _=>xns) (fun _ _ _ _=>xns) (fun _ _ _ _=>xns) (fun _ _ _ _=>xns) (fun t=>s _ _ _) (fun _ _ _=>xns) (fun _ _ _ _=>xns) fun _ _=>xns) (fun _ _ _=>xns) (fun _ _ _ _=>xns) fun _ _=>xns) fun _ _=>xns
theorem X7 (k:KF Z) (ki:KI Z) (kj:KJ Z) (X:KR Z) (Y:KL Z) (W:KU Z){x y:Str}{H F:Pos}(i j:Nat) (u:iK c) (hx:c.scope.names.lookup x=some .cell) (hd:jD x)
  (hj:c.vs[j]?=some y) (hy:iL c y) (o:jD y) (g:(B.endLine==f.line)=true) (hn:26<=c.n) :
  Ee Z c (.Call (.Attribute (.Name x H) "merge" B) [.Name y F] [] f) (X6 c.cl x i j):=by
 refine(C1 k.Qu (GS u hx hd) (AS (AQ j hj u hy o) Az) (Ui k ki kj X Y W) hn g).weaken ?_;rintro V G P ⟨n,fs,pl,r,R,d,e,g⟩;unfold X6 at e;refine mv100 e ?_
 .refine fun a S T A e2 e=>xP (Au e)<|xA2 fun E=>?_;revert E;refine xA4 fun h0 f1 f2 h=>fun e=>mv55 e ?_
  .refine fun l el e=>mv40 e ?_
   .intro S' ea e;revert g;refine BH e fun g=>bc fun U=>gH (d.lo.qfC A) fun D s z w=>gH (d.lo.qf e2) fun C q v h6=>U ⟨a,_,h0,z,w.free rfl ?_⟩;show B3 j V G _;unfold B3;refine rE v ?_;have m:(D.foot++C.foot).Nodup:=by
     refine SF.mpr ⟨(bL.mp<|s▸Ay d.nd i).2,q▸Ay d.nd j,fun b hb b' p e=>?_⟩;subst e;have d1:b∈(BD fs j []).flatten:=Ad (i:=i)<|rE (Hk h)<|rE s<|.tail _ hb;exact nomatch (Cq d.nd d1<|q▸p)
    exact⟨n,D,C,S,T,S',l,rfl,w,h6,m,f1,f2,el,ea,fun ab aa G' J I Q O N M=>gG (d.ZT h A s z q v J I Q O N M) fun t L K=>g t G' L K⟩
noncomputable def cGo (T:MV->MB) (g:MV->Option MV) (n:Nat):List MV->List MV->PL->Option (List MV×PL)
 | [],acc,a=>some (acc,a)
 |y::b,acc,a=>(T y n a).bind fun x=>bif x.1 then(g y).bind fun r=>bif decide (acc.length<=900)then cGo T g n b (acc++[r]) x.2 else none else cGo T g n b acc x.2
noncomputable def Ct (Z:PX) (c:FC) (a:Scope) (d:List<|Str×Addr) (x:Str) (l:List Expr) (T:MV->MB):Prop:=
 ∀ ⦃A:Around⦄ ⦃f:Heap⦄ ⦃L:Addr⦄ ⦃s:Shared⦄ ⦃m:Str->Option Value⦄ ⦃k:LS⦄ ⦃G:St⦄ ⦃t:FS⦄ ⦃p h:PL⦄ ⦃C:Addr⦄ ⦃q:Obj⦄ ⦃g:Str->Option Value⦄ ⦃y:MV⦄ ⦃v:Value⦄ ⦃n:Nat⦄ ⦃b:Bool⦄ ⦃Q:Bool->Shared->Prop⦄ ⦃E:Value->Shared->Prop⦄,
  Cx Z c.n A f L (c.env L)->Fr f L s.heap m->LR c.vs k m->SR f L s.heap G->LN G t p k->G C=some (.obj q)->LCg.NsObj q g->g x=some v->VR v y->T y n p=some (b,h)->
  (∀ i o j,LN o i h k->FmN t G i o->Sm s j->Fr f L j.heap m->SR f L j.heap o->Q b j)->
  wpAny Z.md A (forIn l true fun e r=>if r=true then do let ok <- isTrue e (compEnvC a d C<|c.env L) (eval e<|compEnvC a d C<|c.env L);pure (ForInStep.yield ok)else pure (ForInStep.yield r)) Q E s
noncomputable def Cg (Z:PX) (c:FC) (a:Scope) (d:List<|Str×Addr) (x:Str) (e:Expr) (g:MV->Option MV):Prop:=
 ∀ ⦃L:Addr⦄ ⦃A:Around⦄ ⦃s:Shared⦄ ⦃C:Addr⦄ ⦃b:Str->Option Value⦄ ⦃y r:MV⦄ ⦃v:Value⦄ ⦃Q:Value->Shared->Prop⦄ ⦃E:Value->Shared->Prop⦄,
  s.heap.Ns C b->b x=some v->VR v y->g y=some r->(∀ f t,VR f r->Q f {s with toks:=t})->
  wpAny Z.md A (eval e<|compEnvC a d C<|c.env L) Q E s
theorem X8:Ct Z c a d x [] fun _ _ f=>some (true,f):=by
 refine fun A h L s m o G k f i C l g y v n b Q E B F p R j w u r t e q=>xA2 ?_<|so2 e;clear e;intro z;subst z;intro z;subst z;exact wpAny_tests_nil<|q k G s j .refl (Sm.refl s) F R
theorem PT (j:a.kind=.function) (g:a.names.lookup x=some .local) (k:jD x):Cg Z c a d x (.Name x f) some:=by
 intro L A s C b y r v Q E l i h e q;have z:=so e;clear e;subst z;exact ldVarK l i (q v s.toks h) j (lookup_relabel_local g) k
noncomputable def ZU (k:Int):MV->Option MV
 |.int i=>some<|.int<|i.fmod k
 |_=>none
theorem X9 (n:a.kind=.function) (j:a.names.lookup x=some .local) (o:jD x) (w:k≠0):Cg Z c a d x (.BinOp (.Name x f) .Mod (.Constant (.int k) h g) p) (ZU k):=by
 refine fun L A s C b y r v Q E u m l e q=>wpAny_BinOp<|ldVarK u m (wpAny_Constant_int ?_) n (lookup_relabel_local j) o;induction l with
 |int i t=>(have z:=so e;clear e;subst z);exact mod_int w<|q _ _<|.int _ _
 |_=>exact xns e
theorem Kx (h:LCg.NsObj o m):o.isFreed=false:=by
 refine xE2 h fun g k=>xA2 fun e _=>?_;obtain⟨a,b,d,f⟩:=o;cases e;rfl
inductive ZV (Z:PX) (c:FC) (h₀:Heap) (L:Addr) (m:Str->Option Value) (ls:LS) (s:Shared) (F0:List Addr) (G0:St) (I C D:Addr) (f:List Addr) (xs acc:List MV) (pl:PL) (s2:Shared):Prop
 |mk (G2:St) (fs2:FS) (oC:Obj) (m2:Str->Option Value) (h1:Sm s s2) (h2:Fr h₀ L s2.heap m) (h3:SR h₀ L s2.heap G2) (h4:LN G2 fs2 pl ls) (h5:CG G2 I f xs) (h6:((D::C::f)++fs2.flatten).Nodup) (h7:G2 D=some (.list acc)) (h8:G2 C=some (.obj oC)) (h9:LCg.NsObj oC m2) (hA:Fm F0 G0 ((D::C::f)++fs2.flatten) G2)
inductive Z1 (Z:PX) (c:FC) (h₀:Heap) (L:Addr) (m:Str->Option Value) (ls:LS) (s:Shared) (F0:List Addr) (G0:St) (I C D:Addr) (f:List Addr) (T:MV->MB) (g:MV->Option MV) (n:Nat) (e:List MV×PL) (k:Nat) (s2:Shared):Prop
 |mk (xs acc:List MV) (pl:PL) (h1:k=xs.length) (h2:ZV Z c h₀ L m ls s F0 G0 I C D f xs acc pl s2) (h3:cGo T g n xs acc pl=some e)
theorem QG (ht:Ct Z c i j x ay T) (hg:Cg Z c i j x aM g) (hx:i.names.lookup x=some .local) (hk:i.kind=.function)
      {ls:LS}    {I C D:Addr} {f:List Addr} {n:Nat} {ys:List MV} {S:PL} {R:Result->Shared->Prop}
  (cx:Cx Z c.n A p L<|c.env L) (lr:LR c.vs ls m)
  (hR:∀ s' G',Sm s s'->Fr p L s'.heap m->SR p L s'.heap G'->(∃ oC m2,G' C=some (.obj oC)/\LCg.NsObj oC m2)->(∃ ak,LN G' ak S ls/\(C::D::ak.flatten).Nodup/\G' D=some (.list ys)/\p.get? C=none/\C≠L/\Fm F0 G0 (C::D::ak.flatten) G')->R (.ok .next) s')
     (hi:ZV Z c p L m ls s F0 G0 I C D f xs [] pl s1) (hF:G0 I=none) (e:cGo T g n xs [] pl=some (ys,S)) :
  codeAny Z.md A (.compLoop (.ListComp aM [⟨.Name x px,aw,ay,0⟩] i aP) 0 (.ref I) (.ref D)<|compEnvC i j C<|c.env L) R s1:=by
 refine codeAny_compLoop_tests (Z1 Z c p L m ls s F0 G0 I C D f T g n (ys,S)) ?_ _ ⟨xs,[],pl,rfl,hi,e⟩;clear hi e;intro k s2 hh;refine bc fun ng=>?_;obtain⟨aN,u,aY,ao,⟨G2,l,oC,m2,ar,F2,R2,W,Y,G,aJ,aj,aF,O⟩,e2⟩:=hh;obtain⟨nD,nC,aR⟩:D∉C::(f++l.flatten)/\C∉f++l.flatten/\(f++l.flatten).Nodup:=⟨(bL.mp G).1,(bL.mp (bL.mp G).2).1,(bL.mp (bL.mp G).2).2⟩;have K:=Y.self;have aG:∀ b∈l.flatten,b≠I:=fun b q z=>(SF.mp aR).2.2 I K b q z.symm;have ag:C≠I:=fun z=>nC<|z▸Lf _ K;have aI:D≠I:=fun z=>nD<|.tail _<|z▸Lf _ K;have ah:C≠D:=fun z=>nD<|z▸.head _;cases aN with
 |nil=>
  refine ng ?_;revert hR;refine BH e2 fun hR=>Nr cx.hh F2 R2 Y fun s3 Q F3 R3=>xP (R3.Cv (a:=C) (o:=oC)<|(b5 ag).trans aj) (xA4 fun g1 _ g3 g4=>have k3:∀ b,b≠I->(fun a=>if a=I then none else G2 a) b=G2 b:=fun b q=>b5 q;hR s3 _ (ar.trans Q) F3 R3 ⟨_,m2,(b5 ag).trans aj,aF⟩ ⟨l,W.mono fun b q=>k3 b<|aG b q,bL.mpr ⟨fun h=>(bM.mp h).elim ah fun h=>nC<|Bl _ h,bL.mpr ⟨fun h=>nD<|.tail _<|Bl _ h,W.nd⟩⟩,(k3 D aI).trans aJ,g4,g3,?_⟩)
  .have P:∀ a,G0 a≠none->(fun a=>if a=I then none else G2 a) a=G2 a:=fun a d=>b5 fun(z:a=I)=>d<|rE z hF;have aW:∀ a∈C::D::l.flatten,a∈(D::C::f)++l.flatten:=fun a d=>?_;exact⟨fun a F E=>(P a F).trans<|O.keep a F E,fun a d=>O.sub a<|aW a d,fun a F E z=>O.dom a F (E)<|(P a F).symm.trans z⟩;exact mC d (.tail _<|.head _) fun d=>mC d (.head _) fun d=>.tail _<|.tail _<|Bl _ d
 |cons y r=>
  refine ng<|Lg F2 R2 Y fun v G3 s3 hv aS J Q F3 R3=>have aK:=(J C ag).trans aj;xP (R3.Cv aK)<|xA4 fun g1 _ g3 g4=>wpAny_assign_Name<|wpAny_storeName_local (lookup_relabel_local hx) (aF.ns g1) (fun az ab aa=>bc fun ng=>gG (LCg.ns_obj ab) fun B k1 k2=>xP (R3.turn (mo:=.obj B) F3 aK aa k1 ⟨rfl,Kx k2⟩) (xA2 fun F4 R4=>have P:∀ b,b≠C->(G3.set C<|.obj B) b=G3 b:=fun b q=>St.AG _ _ q;have aE:∀ b∈f++l.flatten,b≠C:=fun b q z=>nC<|z▸q;have X:CG (G3.set C<|.obj B) I f r:=aS.mono fun b q=>P b<|aE b<|Lf _ q;have af:(G3.set C<|.obj B) D=some (.list u):=(P D<|cZ ah).trans<|(J D aI).trans aJ;?_)) (by simp[compEnvC,relabel,hk]);have aX:Fm F0 G0 ((D::C::f)++l.flatten) (G3.set C<|.obj B):=by
   have:Fm ((D::C::f)++l.flatten) G2 ((D::C::f)++l.flatten) (G3.set C<|.obj B):=by
    exact⟨fun b F E=>(P b fun z=>E<|z▸.tail _ (.head _)).trans<|J b fun z=>E<|z▸Lf _ (.tail _<|.tail _ K),fun b q=>.inl q,fun b F E=>rE ((P b fun z=>E<|z▸.tail _ (.head _)).trans<|J b fun z=>E<|z▸Lf _ (.tail _<|.tail _ K)) F⟩
   exact O.trans this
  obtain⟨⟨b,av⟩,e3,e4⟩:=bQ.mp e2;refine ng<|ht cx F4 lr R4 (W.mono fun b q=>(P b<|aE b<|Bl _ q).trans<|J b<|aG b q) (St.AH ..) k2 (by simp) hv e3 fun N G5 s5 V M aO F5 R5=>?_;have H:∀ a∈D::C::f,G5 a=(G3.set C<|.obj B) a:=fun a d=>M.fm.keep a ?_ fun q=>?_;rotate_left
  .exact mC d (rE af<|L0 _) fun d=>mC d (rE (St.AH ..)<|L0 _) fun d=>X.dom a d
  .exact (SF.mp G).2.2 a d a q rfl
  have U:((D::C::f)++N.flatten).Nodup:=by
   refine SF.mpr ⟨(SF.mp G).1,V.nd,fun a d b' q e=>?_⟩;subst e;refine T1 (M.fm.sub a q) (fun h=>(SF.mp G).2.2 a d a h rfl) fun h=>?_
   .rcases bM.mp d with rfl|d
    .rw [af]at h;exact xsn h
    .rcases bM.mp d with rfl|d
     .rw [St.AH]at h;exact xsn h
     .exact X.dom a d h
  have ax:CG G5 I f r:=X.mono fun a d=>H a<|.tail _<|.tail _ d;have ai:=(H C<|.tail _<|.head _).trans<|St.AH ..;have ae:=(H D<|.head _).trans af;have aL:Fm F0 G0 ((D::C::f)++N.flatten) G5:=by
   exact aX.trans ⟨fun a F E=>M.fm.keep a F fun h=>E<|Bl _ h,fun a d=>T1 (X1.mp d) (fun h=>.inl<|Lf _ h) fun h=>(M.fm.sub a h).imp (Bl _) id,fun a F E=>M.fm.dom a F fun h=>E<|Bl _ h⟩
  have aq:=((ar.trans Q).trans<|Sm.ht s3 az<|s3.toks+1).trans aO;induction b with
  |false=>exact⟨_,ao▸dB _,r,u,av,rfl,⟨G5,N,B,_,aq,F5,R5,V,ax,U,ae,ai,k2,aL⟩,e4⟩
  |true=>
   refine gG (bQ.mp e4) fun z e5 e6=>bE (decide<|u.length<=900) (fun hz=>?_) fun hz=>?_
   .rw [hz]at e6;exact xns e6
   .rw [hz]at e6;refine xP (R5.Cv ai)<|xA3 fun g5 _ _=>hg (k2.ns g5) (by simp) hv e5 fun v' t aT=>bc fun ng=>xE2 (R5.D8 ae) fun vs n2=>xA2 fun hl aD=>ng<|append_at (s:={s5 with toks:=t}) hl (fun h' aU aV=>?_) (by refine rE b8<|rE aD.length<|rE cN ?_;have:=bU hz;exact (la1 0x1822020384a00000040000030001) this);exact xP (R5.turn (mo:=.list<|u++[z]) F5 ae aU aV ⟨vs++[v'],n2+1,by simp,aD.append<|.cons aT .nil⟩) (xA2 fun F7 R7=>have k7:∀ a,a≠D->(G5.set D<|.list<|u++[z]) a=G5 a:=fun a d=>St.AG _ _ d;have aH:=(bL.mp U).1;⟨_,ao▸dB _,r,u++[z],av,rfl,⟨_,N,_,_,aq.trans<|Sm.ht _ _ _,F7,R7,V.mono fun a d=>k7 a fun z=>aH<|z▸Bl _ d,ax.mono fun a d=>k7 a fun z=>aH<|z▸.tail _ (Lf _ d),U,St.AH ..,(k7 C ah).trans ai,k2,aL.trans ⟨fun a F E=>k7 a fun z=>E<|z▸.head _,fun a d=>.inl d,fun a F E=>rE (k7 a fun z=>E<|z▸.head _) F⟩⟩,e6⟩)
section
variable {Z:PX}{c:FC}{d:Scope}{j:List (Str×Addr)}{x:Str}
theorem U7 (l:A.handled=none) (R:SR a L s.heap G) (h:CG G I f g) (q:Q (.ref I) s) :
  wpAny Z.md A (pyIter<|.ref I) Q E s:=by
 induction h with
 |lst i b o m h4 p=>
  exact xP (R.Cv b)<|xA3 fun e _ _=>wpAny_pyIter_listiter ⟨_,e,o,m⟩ q
 | @rng x n k b=>
  exact xP (R.Cv b)<|xA3 fun e _ _=>(Walks.range l I x k n).self 0 s Q E (by show IsRangeIter _ _ _ _ _;simpa [Fj]using e) q
structure QH (Z:PX) (c:FC) (h₀:Heap) (L:Addr) (m:Str->Option Value) (ls:LS) (s:Shared) (F0:List Addr) (G0:St) (ys:List MV) (pl':PL) (D C:Addr) (s':Shared) (G':St) (fs':FS):Prop where
 sm:Sm s s'
 F:Fr h₀ L s'.heap m
 R:SR h₀ L s'.heap G'
 ns:∃ oC m2,G' C=some (.obj oC)/\LCg.NsObj oC m2
 lo:LN G' fs' pl' ls
 nd:(C::D::fs'.flatten).Nodup
 hD:G' D=some (.list ys)
 hC:h₀.get? C=none
 hL:C≠L
 fm:Fm F0 G0 (C::D::fs'.flatten) G'
theorem Hl (ht:Ct Z c d j x J T) (hg:Cg Z c d j x O g) (hx:d.names.lookup x=some .local) (hk:d.kind=.function) (M:∀ y∈d.names,y.2≠.cell)
   {l:Heap} {L:Addr} {m:Str->Option Value} {ls:LS} {s u:Shared} {F0:List Addr} {G0 t:St}       {RR:Value->Addr->Result->Shared->Prop} 
  (cx:Cx Z c.n A l L<|c.env L) (lr:LR c.vs ls m) (sm:Sm s u) (F:Fr l L u.heap m) (R:SR l L u.heap t) (lo:LN t X pl ls) (it:CG t I f xs) (nd:(f++X.flatten).Nodup) (fm:Fm F0 G0 (f++X.flatten) t) (hI:G0 I=none)
  (e:cGo T g n xs [] pl=some (ys,S))
  (hR:∀ D C s' G' N,QH Z c l L m ls s F0 G0 ys S D C s' G' N->RR (.ref D) C (.ok .next) s') :
  wpAny Z.md A (newList []) (fun Y a=>wpAny Z.md A (newFunctionEnv d (c.env L).globals j [] (c.env L).qual none .none<|some<|c.env L) (fun G P=>
   codeAny Z.md A (.compStart (.ListComp O [⟨.Name x px,v,J,0⟩] d Q) 0 (.ref I) Y {G with scope:=relabel d (c.env L)}) (RR Y G.locals) P) E a) E u:=by
 refine wpAny_newObj_type<|wpAny_newFunctionEnv M (by intro y hy;simp at hy) (fun V p o=>?_) hk;dsimp only at p o ⊢;refine have K:=R.fresh;xP (SR.push (ob:={cls:=.type "list",dict:=none,data:=.seq ([]:List Value).toArray}) (mo:=.list []) F R ⟨[],0,rfl,.nil⟩)<|xA2 fun F3 R3=>have i:=R3.fresh;xP (SR.push (ob:={cls:=.type "dict",data:=.dict #[]}) (mo:=.obj {cls:=.type "dict",data:=.dict #[]}) F3 R3 ⟨rfl,rfl⟩)<|xA2 fun F4 R4=>?_;generalize hH:u.heap.push {cls:=.type "list",dict:=none,data:=.seq ([]:List Value).toArray} = H at *;generalize hD:u.heap.objs.size=D at *;refine gG (LCg.ns_obj p) fun oC g1 g2=>xP (R4.turn (mo:=.obj oC) F4 (St.AH ..) o g1 ⟨rfl,Kx g2⟩)<|xA2 fun F5 R5=>?_;generalize hC:H.objs.size=C at *;have r:C≠D:=fun z=>by replace i:=(St.AH ..)▸z▸i;exact xsn i
 replace i:=(St.AG _ _ r)▸i;have k:∀ b,t b≠none->((((t.set D<|.list []).set C<|.obj {cls:=.type "dict",data:=.dict #[]}).set C<|.obj oC)) b=t b:=fun b q=>by
  have n1:b≠C:=fun z=>q<|rE z i;exact rE (St.AG _ _ n1)<|rE (St.AG _ _ n1)<|rE (St.AG _ _ (fun z=>q<|by exact rE z K)) rfl
 have hd:=lo.lo.dom;have B:∀ b∈f++X.flatten,t b≠none:=fun b q=>(X1.mp q).elim (it.dom b)<|hd b;have U:=it.mono fun b q=>k b<|it.dom b q;have ae:((((t.set D<|.list []).set C<|.obj {cls:=.type "dict",data:=.dict #[]}).set C<|.obj oC)) D=some (.list []):=by
  exact rE (St.AG _ _<|cZ r)<|rE (St.AG _ _<|cZ r)<|rE (St.AH ..) rfl
 have lp:∀ a:Shared,a = {u with heap:=V,toks:=u.toks+([]:List<|Str×Value).length}->codeAny Z.md A (.compLoop (.ListComp O [⟨.Name x px,v,J,0⟩] d Q) 0 (.ref I) (.ref D)<|compEnvC d j C<|c.env L) (RR (.ref D) C) a:=by
  rintro a aa;refine rE aa<|QG (s:=s) (F0:=F0) (G0:=G0) ht hg hx hk cx lr (fun s' G' ab F' R' W ⟨N,l1,l2,l3,l4,l5,l6⟩=>hR D C s' G' N ⟨ab,F',R',W,l1,l2,l3,l4,l5,l6⟩)
   ⟨_,X,oC,_,sm.trans<|Sm.ht _ _ _,F5,R5,lo.mono fun b q=>k b<|hd b q,U,?_,ae,St.AH ..,g2,?_⟩ hI e
  ·exact bL.mpr ⟨fun h=>T1 (bM.mp h) (fun h=>r h.symm) fun h=>B D h K,bL.mpr ⟨fun h=>B C h i,nd⟩⟩
  ·exact fm.trans ⟨fun b h1 _=>k b h1,fun b q=>mC q (.inr K) fun q=>mC q (.inr i) fun q=>.inl q,fun b h1 _=>rE (k b h1) h1⟩
 exact codeAny_compStart_list (lp _ rfl)<|U7 cx.hh R5 U<|lp _ rfl
theorem QH.at (h:QH Z c a L m q s v t o b D C k u i):∃ f,k.heap.Ns C f:=by
 refine bc fun p=>xE2 h.ns fun w f=>xA2 fun e g=>xE1 (h.R.get e) fun _=>xA3 fun r n=>?_;revert n;refine xA2 fun l=>?_;revert g;exact rS l fun g=>fun _=>fun _=>p ⟨f,g.ns r⟩
theorem QH.fin (h:QH Z c e L m A s u r v o D C w t f)(B:Heap.SameBut C w.heap n) :
  ∃ g,Fr e L n m/\SR e L n g/\LN g f o A/\g D=some (.list v)/\([D]++f.flatten).Nodup/\Fm u r ([D]++f.flatten) g:=by
 refine xP (bL.mp h.nd)<|xA2 fun y G=>?_;have k:∀ b,b≠C->(fun a=>if a=C then none else t a) b=t b:=fun b p=>b5 p;have E:∀ a,r a≠none->a∉u->a≠C:=fun a l i z=>(h.fm.sub C<|.head _).elim (fun q=>i<|z▸q) fun q=>l<|z▸q;exact⟨_,Fr.RX h.F B.extBut h.hL h.hC,h.R.drop B.extBut,h.lo.mono fun b p=>k b fun z=>y<|.tail _<|z▸p,(k D fun z=>y<|z▸.head _).trans h.hD,G,
  ⟨fun a l i=>(k a<|E a l i).trans<|h.fm.keep a l i,fun a H=>h.fm.sub a<|.tail _ H,fun a l i z=>h.fm.dom a l i<|(k a<|E a l i).symm.trans z⟩⟩
def Jm (M:MI) (T:MV->MB) (g:MV->Option MV):Nat->PL->Option (AV×PL):=fun n e=>(M n e).bind fun a=>(cGo T g n a.1 [] a.2).map fun b=>(.lst b.1,b.2)
theorem U8 (h:Ei Z c b M) (ht:Ct Z c d j x p T) (hg:Cg Z c d j x t g) (hx:d.names.lookup x=some .local) (hk:d.kind=.function) (k:∀ y∈d.names,y.2≠.cell)
  (N:∀ L,closureFor d (c.env L)=pure j) (i:∀ y∈d.names,y.2=.local->d.names.lookup y.1=some .local) (hs:∀ X x,foldedSetIterable b X x=pure x):Eo Z c (.ListComp t [⟨.Name x px,b,p,0⟩] d z) (Jm M T g):=by
 refine fun A aa L s m ls G P Q E cx F lr R S q=>bc fun o=>?_;obtain⟨n,V,pl,r,ae,lo,e,hp⟩:=S;refine o<|bc fun o=>?_;obtain⟨⟨Y,l⟩,e1,e⟩:=bQ.mp e;obtain⟨⟨ys,ab⟩,e2,e⟩:=bP.mp e;refine o ?_;cases e;exact rE (eval_ListComp ..)<|wpAny_comprehension_free (use:=none) rfl (hs _) (N L) hk i<|h (P:=fun I u=>∃ a f,LN u a l ls/\CG u I f Y/\(f++a.flatten).Nodup/\FmN V G (f::a) u/\G I=none) cx F lr R ⟨n,V,pl,Y,l,lo,e1,fun a u I f q1 q2 q3 q4 q5=>⟨a,f,q1,q2,q3,q4,q5⟩⟩ fun I u s2 hP w F2 R2=>bc fun o=>xE2 hP fun a f=>xA5 fun H J B W hI=>o<|Hl (F0:=V.flatten) (G0:=G) ht hg hx hk k cx lr w F2 R2 H J B W.fm hI e2 fun D C s' G' U O=>xE1 O.at fun m2=>fun hn=>⟨m2,hn,fun h' K=>xE1 (O.fin K) fun v=>xA6 fun k1 k2 k3 k4 k5 k6=>q _ _ v _ (.ref D) (hp U v [D] _ k3 (.lst k4) k5 ⟨k6⟩) (O.sm.trans<|Sm.h _ _) k1 k2⟩
def OI (i:Nat) (M:Nat->PL->Option (AV×PL)):MX:=fun n b=>(M n b).map fun a=>(.next,AY a.2 i a.1)
theorem OJ (i:Nat) (hi:c.vs[i+1]?=some y) (ak:iK c) (hy:iL c y) (h:Ei Z c k M) (ht:Ct Z c d j x p T) (hg:Cg Z c d j x u g) (hx:d.names.lookup x=some .local) (hk:d.kind=.function) (B:∀ y∈d.names,y.2≠.cell)
  (ao:∀ L,closureFor d (c.env L)=pure j) (t:∀ y∈d.names,y.2=.local->d.names.lookup y.1=some .local) (hs:∀ aw x,foldedSetIterable k aw x=pure x)
  (ai:∀ L,swapsWith (.ListComp u [⟨.Name x px,k,p,0⟩] d w) (some<|.Name y J) v.line (c.env L)=pure true):Sx Z c (.Assign [.Name y J] (.ListComp u [⟨.Name x px,k,p,0⟩] d w) v) (OI (i+1)<|Jm M T g):=by
 refine fun A O L s m ls G P Q E cx F lr R aq q=>bc fun z=>?_;obtain⟨n,V,pl,r,ab,lo,e,hp⟩:=aq;refine z<|bc fun z=>?_;obtain⟨_,e0,rfl,rfl⟩:∃ a,Jm M T g n pl=some a/\r=.next/\ab=AY a.2 (i+1) a.1:=by
  refine gG (bP.mp e) fun a h1 h2=>?_;cases h2;exact⟨a,h1,rfl,rfl⟩
 clear e;obtain⟨⟨xs,K⟩,e1,e3⟩:=bQ.mp e0;obtain⟨⟨ys,aa⟩,e2,rfl⟩:=bP.mp e3;refine z<|rE (exec_Assign_Name_used _ _ _ _<|ai L)<|U2<|wpAny_standAt<|U2 ?_;show wpAny _ A (do let _ <- comprehension (.ListComp u [⟨.Name x px,k,p,0⟩] d w) d (c.env L) _ (newList []) false (eval k<|c.env L) (some<|assign (.Name y J)<|c.env L)) _ _ s;refine U2<|cg (wpAny_comprehension_free (use:=some<|assign (.Name y J)<|c.env L) (Q:=fun _ Y=>Q .next Y) rfl (hs _) (ao L) hk t
  (h (P:=fun I S=>∃ l f,LN S l K ls/\CG S I f xs/\(f++l.flatten).Nodup/\FmN V G (f::l) S/\G I=none) cx F lr R ⟨n,V,pl,xs,K,lo,e1,fun l S I f q1 q2 q3 q4 q5=>⟨l,f,q1,q2,q3,q4,q5⟩⟩ fun I S s2 hP X F2 R2=>?_)) (fun _ Y hq=>bZ<|bZ hq) fun _ _ e=>e
 exact bc fun z=>xE2 hP fun l f=>xA5 fun ag ah ae av hI=>z<|Hl (F0:=V.flatten) (G0:=G) ht hg hx hk B cx lr X F2 R2 ag ah ae av.fm hI e2 fun D C Y G' ar o=>(wpAny_assign_Name (CZ (i:=i+1) hi ak hy o.F lr o.R (.ref D) fun m3 s3 W F3 af R3=>have H:QH Z c O L m3 ls s V.flatten G ys aa D C s3 G' ar:=⟨o.sm.trans W,F3,R3,o.ns,o.lo,o.nd,o.hD,o.hC,o.hL,o.fm⟩;xE1 H.at fun m2=>fun hn=>⟨m2,hn,fun h' aj=>bc fun z=>xE1 (H.fin aj) fun U=>xA6 fun k1 k2 k3 k4 k5 k6=>z<|have N:=k3.Qi (i+1) (Own.lst k4) k5;q .next _ _ U _ _ .next (hp _ U _ _ _ N .next N.nd' ⟨⟨k6.keep,fun b hb=>k6.sub b<|have hb:=(c7 ..)▸D4▸hb;(Bs hb).elim (Lf _)<|Bl _,k6.dom⟩⟩ DV) (H.sm.trans<|Sm.h _ _) k1 af k2⟩):wpAny _ A (assign (.Name y J) (c.env L)<|.ref D) _ _ _)
end
def U9 (u:List<|Str×Addr) (y:Str) (i:Nat):MV->MB:=fun a _ d=>match a,AL d i with
 |.int j,some (.cel b<|.v<|.int k)=>bif u.lookup y==some b then some (j != k,d)else none
 |_,_=>none
theorem mv101 {k:Type}{l:Int->Addr->Int->Option k}{r:k}{g:Prop}(e:(match j,i with|MV.int d,some (AV.cel b<|AV.v<|MV.int a)=>l d b a|_,_=>none)=some r) (s:∀ d b a,j=MV.int d->i=some (AV.cel b<|AV.v<|MV.int a)->l d b a=some r->g):g:=by
 generalize n:j=h at e;generalize m:i=f at e;revert e n m;exact MV.casesOn h (fun _ _=>xns) (fun _ _ _=>xns) (fun y=>Option.casesOn f (fun _ _=>xns) fun q=>AV.casesOn q (fun _ _ _=>xns) (fun _ _ _=>xns) (fun _ _ _ _=>xns) (fun _ _ _ _=>xns) (fun _ _ _ _=>xns) (fun _ _ _=>xns) (fun _ _ _=>xns) (fun w p=>AV.casesOn p (fun o=>MV.casesOn o (fun _ _=>xns) (fun _ _ _=>xns) (fun t=>s _ _ _) (fun _ _ _=>xns) (fun _ _ _=>xns) (fun _ _ _=>xns) fun _ _ _=>xns) (fun _ _ _=>xns) (fun _ _ _ _=>xns) (fun _ _ _ _=>xns) (fun _ _ _ _=>xns) (fun _ _ _=>xns) (fun _ _ _=>xns) (fun _ _ _ _=>xns) fun _ _=>xns) fun _ _=>xns) (fun _ _ _=>xns) (fun _ _ _=>xns) (fun _ _ _=>xns) fun _ _ _=>xns
theorem YA (i:Nat) (D:B.kind=.function) (P:B.names.lookup x=some .local) (T:jD x) (o:jD y)
  (O:∀ C L,(compEnvC B u C<|c.env L).kindOf y=some .cell):Ct Z c B u x [.Compare (.Name x J) [.NotEq] [.Name y I] p] (U9 u y i):=by
 intro A w L s m ls G fs pl K C oC r a v n b Q E cx F lr R t V U S l e q;unfold U9 at e;refine mv101 e ?_
 .clear e;refine fun j b' k=>fun z=>?_;revert l;refine rE z fun l=>fun e1=>fun e=>bE (List.lookup y u==some b') (fun g=>?_) fun g=>?_
  .rw [g]at e;exact xns e
  .rw [g]at e;refine xA2 ?_<|so2 e;clear e;intro z;subst z;intro z;subst z;refine bc fun N=>xE2 (t.lo.Uy e1) fun mv f=>xA3 fun h2 X W=>xE1 (R.get X) fun M=>xA3 fun g1 H=>?_;revert H;refine xF1 fun v'=>xA2 fun h d=>fun _=>xP (R.Cv V)<|xA3 fun Y _ _=>N ?_;rw[W.val]at d;cases d with
   |some d=>
    cases d with
    |int _ t2=>
     cases l with
     |int _ t1=>
      exact wpAny_tests_one<|wpAny_isTrue_Compare1 (ldVarK (U.ns Y) S (ldCellK (cD.mp g) ⟨M,g1,h⟩ (ne_int<|wpAny_truthy_bool<|q fs G s t .refl (Sm.refl s) F R) D (O C L) o) D (lookup_relabel_local P) T) rfl
def PU (u:List<|Str×Addr) (y:Str) (i:Nat) (M:Nat->QS->List MV->Option (AV×QS)):MV->MB:=fun a n e=>match callC u y M n i e (some [a])with
 |some (.v<|.bool b,d)=>some (!b,d)
 |_=>none
theorem mv102 {h:Type}{i:Bool->PL->Option h}{r:h}{g:Prop}(e:(match f with|some (AV.v<|MV.bool b,a)=>i b a|_=>none)=some r) (n:∀ b a,f=some (AV.v<|MV.bool b,a)->i b a=some r->g):g:=by
 generalize j:f=d at e;revert e j;exact Option.casesOn d (fun _=>xns) fun m=>Prod.casesOn m fun l p=>AV.casesOn l (fun k=>MV.casesOn k (fun _=>xns) (fun o=>n _ _) (fun _ _=>xns) (fun _ _=>xns) (fun _ _=>xns) (fun _ _=>xns) fun _ _=>xns) (fun _ _=>xns) (fun _ _ _=>xns) (fun _ _ _=>xns) (fun _ _ _=>xns) (fun _ _=>xns) (fun _ _=>xns) (fun _ _ _=>xns) fun _=>xns
theorem VA {px py p:Pos}(i:Nat) (hk:B.kind=.function) (hx:B.names.lookup x=some .local) (hd:jD x) (W:jD y)
  (hy:∀ C L,(compEnvC B u C<|c.env L).kindOf y=some .cell) (Y:Ak Z.K CQ g f=true) (hS:Sp Z k f<|sQ M) (hn:k<=c.n) (hf:Iy g=true) (hp:(ap.endLine==p.line)=true) :
  Ct Z c B u x [.UnaryOp .Not (.Call (.Attribute (.Name y py) g ap) [.Name x px] [] p) p2] (PU u y i M):=by
 intro A ae L s m ls G fs pl ag C oC ab a v n b Q E O F lr R U hC hN hm hv e q;unfold PU at e;refine mv102 e ?_
 .clear e;refine fun b' af e1 e=>xA2 ?_<|so2 e;clear e;intro z;subst z;intro z;subst z;refine bc fun l=>xE4 (GU e1) fun w S as S'=>xA5 fun e2 e3 e4 e5=>fun j=>?_;revert q;refine rE j fun q=>have z:=so e4;?_;clear e4;subst z;refine gH (U.lo.qfC e2) fun D h1 h2 h3=>xE1 (R.get h2) fun ob=>xA3 fun g1 j=>?_;revert j;refine xF1 fun v'=>xA2 fun t H=>fun _=>xP (R.Cv hC)<|xA3 fun g2 _ _=>l ?_;cases H with
  |some H=>
  refine bc fun l=>have z:=VR.irf H;?_;revert t;refine rE z fun t=>xE1 (Cm (o:=.Name y py) (args:=[.Name x px]) (apos:=ap) (pos:=p) rfl (DF DU fun aa=>Ck rfl [] aa) hp g<|compEnvC B u C<|c.env L) fun pf=>fun he=>l<|wpAny_tests_one<|isTrue_not<|isTrue_plain (MethodCall_ (ldCellK e3 ⟨ob,g1,t⟩ (bc fun l=>xE3 (St.B4<|h3.free (k:=True) hf trivial) fun d kk fl=>xA4 fun i1 i2 J _=>xE2 (R.inst i1 i2) fun es nn=>xA3 fun I hz V=>gG (V g) fun ov hg ho=>l ?_) hk (hy C L) W) he)<|Ii rfl _ _;rw[J]at ho;cases ho;unfold Ak at Y;simp only[bV]at Y;refine bc fun l=>xP Y<|xA2 fun j=>?_;revert j;refine xA2 fun z1=>?_;revert z1;refine xA2 fun a1 a2=>fun a3=>fun a4=>l<|method_inst F O.X I a1 (cD.mp a2) a3 hg<|callWith_K O.X a4 (spliced_cons<|ldVarK (hN.ns g2) hm (spliced_nil ⟨O.X.keeps F.keep,hS.call (O.less hn) F R (args:=[.ref D.x,a]) (P:=fun v N=>∃ h,LN N h (AY pl i<|.cel w<|.qf S') ls/\FmN fs G h N/\v=.bool b') (.cons (.ref _)<|.cons hv .nil) ⟨n,D,S,[a],.v<|.bool b',S',h3,(bL.mp<|h1▸Ay U.nd i).2,rfl,e5,fun D' N f mv q1 q2 q3 q4 q5=>xP (U.Hg e2 h1 h2 (q2▸Own.qf q1) q3 q5)<|xA3 fun t1 t2 t3=>⟨_,t1,BE t3,q4.val⟩⟩ fun v' ah N s' r hP T F' R'=>?_⟩) hk (lookup_relabel_local hx) hd) rfl rfl
  .refine xE1 hP fun h=>xA3 fun k1 k2=>fun j=>?_;revert r;exact rE j fun r=>have z:=VR.ibo r;rE z<|wpAny_truthy_bool<|q h N s' k1 k2 T F' R'
theorem YB {K:VT}(Y:Ev Z c l K) (X:Ev Z c r J) (W:Dc r=true) (V:8<=c.n):Ev Z c (.Compare l [.Eq] [r] j) (fun k G P=>K k G fun a M=>J k M fun b C=>ZQ a b C fun b G=>P (.bool<|!b) G):=by
 refine fun A H L s m k G P Q E p F D R t q=>wpAny_Compare1 (Y p F D R t fun v mv M s1 o O i F1 R1=>X p F1 D R1 O fun v2 S C s2 d N h F2 w=>bc fun e=>?_)<|CT W _;obtain⟨x,y,ns,ms,g,f,U,T,I⟩:=N;revert o;refine rE g fun o=>?_;revert d;refine rE f fun d=>have z:=VR.irf o;?_;revert e;refine rE z fun e=>?_;(have z:=VR.irf d;revert e;refine rE z ?_;intro e);refine gG (w.isList U) fun vs g1 g2=>gG (w.isList T) fun ws g3 g4=>e ?_;rw[Bool.not_not]at I;exact ke_eq_ints g1 g3 g2.ints g4.ints (by have:=p.un;exact (la3 0x62046122080430084841010008140212) V this)<|q _ _ C _ (.bool _) I (i.trans h) F2 w
noncomputable def MC (M:Nat->PL->Option (AV×PL)):ME:=fun n b=>match M n b with
 |some (.lst [],a)=>some (.bool true,a)
 |_=>none
theorem mv103 {f:Type}{h:PL->Option f}{r:f}{g:Prop}(e:(match d with|some (AV.lst [],a)=>h a|_=>none)=some r) (m:∀ a,d=some (AV.lst [],a)->h a=some r->g):g:=by
 generalize i:d=b at e;revert e i;exact Option.casesOn b (fun _=>xns) fun l=>Prod.casesOn l fun k n=>AV.casesOn k (fun _ _=>xns) (fun j=>List.casesOn j (m _) fun _ _ _=>xns) (fun _ _ _=>xns) (fun _ _ _=>xns) (fun _ _ _=>xns) (fun _ _=>xns) (fun _ _=>xns) (fun _ _ _=>xns) fun _=>xns
theorem Sf (h:Eo Z c l M) (E:8<=c.n):Ee Z c (.Compare l [.Eq] [.List [] p] b) (MC M):=by
 refine(YB h (Et Aa) rfl E).weaken ?_;rintro L G P ⟨n,I,w,r,v,C,e,i⟩;unfold MC at e;refine mv103 e ?_
 .intro t K e;revert i;refine BH e fun i=>⟨n,I,w,_,_,C,K,fun o O f mv g D z J=>⟨n,o,_,.lst [],_,g,rfl,fun m s N A d j y a=>?_⟩⟩;cases D with
  | @lst l _ q=>
  cases j with
  | @lst l2 _ k=>
  have H:s l=some (.list []):=by
   exact rE (a.fm.keep l (by rw[q];exact L0 _) fun F=>(SF.mp z).2.2 l (.head _) l F rfl)<|rE q rfl
  exact⟨l,l2,[],[],rfl,rfl,H,k,i m s d<|(BE J).trans<|BE a⟩
noncomputable def Z2 (g f:VT) (S:List MV->St->(MV->St->Prop)->Prop):VT:=fun d G P=>g d G fun a i=>f d i fun b e=>∃ x,b=.ref x/\e.CA x CQ fun _ _ _=>S [.ref x,a] e fun r h=>mtr r fun t=>P (.bool t) h
theorem YC (Y:findIn Z.K (.ref CQ) "__contains__" = some (some<|.ref f)) (hf:isFn Z.K (.ref f)=true) (h1:Ev Z c l C) (h2:Ev Z c r y) (hS:Sp Z k f S) (hn:k<=c.n) (hm:Dc r=true) :
  Ev Z c (.Compare l [.In] [r] i) (Z2 C y S):=by
 refine fun A w L s m ls G P Q E b F p R t q=>wpAny_Compare1 (h1 b F p R t fun v mv G1 s1 o N h F1 R1=>h2 b F1 p R1 N fun v2 U G2 s2 a e g H D=>bc fun j=>xE1 e fun x=>xA2 fun J=>?_)<|CT hm _;revert a;refine rE J fun a=>fun e=>have z:=VR.irf a;?_;revert j;exact rE z fun j=>xE3 (St.B4 e) fun d kk fl=>xA3 fun W V M=>xE2 (D.inst W V) fun es nn=>xA2 fun I _=>j<|in_K H b.X I Y hf<|hS.call (b.less hn) H D (.cons (.ref _)<|.cons o .nil) M fun v mv G' T o hp O F' R'=>K5 o hp fun r hk=>q _ _ G' T (.bool _) hk ((h.trans g).trans O) F' R'
def VB (u:List<|Str×Addr) (x:Str) (i:Nat) (M:Nat->QS->List MV->Option (AV×QS)) (f:PE):ME:=fun n e=>match callC u x M n i e ((f e).map fun a=>[a])with
 |some (.v<|.bool b,d)=>some (.bool b,d)
 |_=>none
theorem YD (i:Nat) (U:findIn Z.K (.ref CQ) "__contains__" = some (some<|.ref f)) (X:isFn Z.K (.ref f)=true) (l:Pu Z c e g) (hS:Sp Z k f<|sQ M) (V:k<=c.n)
  (W:iK c) (T:c.scope.names.lookup x=some .cell) (Y:jD x):Ee Z c (.Compare e [.In] [.Name x z] o) (VB c.cl x i M g):=by
 refine(YC U X l (GS W T Y) hS V rfl).weaken ?_;rintro ls G P ⟨n,fs,O,r,N,j,e,h⟩;unfold VB at e;refine mv102 e ?_
 .intro b L e1 e;revert h;refine BH e fun h=>bc fun p=>xE4 (GU e1) fun a S as S'=>xA5 fun w e0 e2 s=>fun m=>?_;revert h;refine rE m fun h=>xE1 (bP.mp e2) fun y=>xA2 fun e5=>fun m=>?_;revert s;exact rS m fun s=>gH (j.lo.qfC w) fun D l v t=>p ⟨fs,O,_,j.lo,e5,a,_,e0,v,D.x,rfl,bc fun p=>xE3 (St.B4<|t.free (name:="check") (k:=True) rfl trivial) fun d kk fl=>xA4 fun R Q q _=>p<|Aq R Q ⟨n,D,S,[y],_,S',t,(bL.mp<|l▸Ay j.nd i).2,rfl,s,fun D' G' f mv J I H F E=>xP (j.Hg w l v (I▸Own.qf J) H E)<|xA3 fun C t2 A=>rE F.val<|h _ _ C<|BE A⟩⟩
noncomputable def Si:List MV->St->(MV->St->Prop)->Prop:=fun b G P=>∃ a:Int,b=[.int a,.int 24,.int 2]/\∀ r t u v,G r=none->P (.ref r) (G.set r<|.obj {cls:=.type "range",data:=.fields #[.int a t,.int 24 u,.int 2 v]})
theorem OK:Bi Z 0 (.type "range") Si:=by
 refine fun A i L p s m G P Q E h j J F R d e q=>bc fun k=>?_;obtain⟨a,b,l⟩:=e;refine k ?_;revert d;refine rE b fun d=>VRs.kco d fun v w z o g=>rE z<|VRs.kco g fun B x z g f=>rE z<|VRs.kco f fun y u z f n=>rE z<|rE (VRs.inl n)<|VR.kin o fun H z=>rE z<|VR.kin g fun D z=>rE z<|VR.kin f fun C z=>rE z<|call_range_3 (by decide) ?_<|.inl<|PyProof.noPylong_small (by decide);obtain⟨t,r⟩:=R.push (ob:={cls:=.type "range",data:=.fields #[.int a _,.int 24 _,.int 2 _]}) (mo:=.obj _) F ⟨rfl,rfl⟩;exact q _ _ _ _ (.ref _) (l _ _ _ _ R.fresh) (Sm.ht _ _ _) t r
def MD (f:PE):MI:=fun _ b=>match mI (f b)with
 |some (.ofNat a)=>bif decide (a<2)then some (Ff 2 (a:Int) 12,b)else none
 |_=>none
theorem Z3 {a:Nat}(h:a<2):Builtin.Range.small (a:Int) 24 2=true/\Builtin.Range.rangeSize (a:Int) 24 2=((12:Nat):Int):=by
 induction a with
 |zero=>decide
 |succ a=>
  induction a with
  |zero=>decide
  |succ a=>exact absurd (Nat.lt_of_succ_lt_succ<|Nat.lt_of_succ_lt_succ h)<|Nat.not_lt_zero _
theorem OL (hx:Ev Z c (.Name "range" J)<|Br<|.ty "range") (h1:Pu Z c g f) (H:notStar g=true):Ei Z c (.Call (.Name "range" J) [g,.Constant (.int 24) Y U,.Constant (.int 2) X T] [] b) (MD f):=by
 refine fun A M L s m ls G P Q E cx F W R D q=>bc fun d=>?_;obtain⟨n,fs,pl,xs,S,K,e,C⟩:=D;refine d ?_;unfold MD at e;refine mv78 e ?_
 .refine fun a g e=>bE (decide<|a<2) (fun j=>?_) fun j=>?_
  .rw [j]at e;exact xns e
  .rw [j]at e;revert C;refine BH e fun C=>(Gh (pos:=b) hx (AS h1 (AS AE<|AS AE Az) H) OK<|cO _) (P:=fun v O=>∃ r t u w,v=.ref r/\G r=none/\O=G.set r (.obj {cls:=.type "range",data:=.fields #[.int (a:Int) t,.int 24 u,.int 2 w]})) cx F W R
    ⟨fs,_,_,K.lo,BA g,_,rfl,fun r t u w B=>⟨r,t,u,w,rfl,B,rfl⟩⟩ fun v mv O s1 y hP x F1 i=>?_
   refine bc fun d=>?_;obtain⟨r,t,u,w,p,B,o⟩:=hP;revert y;refine rE p fun y=>?_;revert i;refine rE o fun i=>have z:=VR.irf y;?_;revert d;refine rE z fun d=>?_;obtain⟨V,I,⟨l,g2⟩,_⟩:=i.get<|St.AH ..;revert I;refine rE l fun I=>d<|have N:=Z3<|bU j;wpAny_pyIter_range I N.1<|rE N.2 ?_;obtain⟨F2,R2⟩:=i.push (ob:=Fj (a:Int) 12 2) (mo:=.obj _) F1 ⟨rfl,rfl⟩;exact q _ _ _ (Li (k:=2) K B i.fresh C) (x.trans<|Sm.h _ _) F2 R2
def fB (s:Stmt):List Stmt:=(sPa s).1
def iB (s:Stmt):List Stmt:=(sPa s).1
def iE (s:Stmt):List Stmt:=(sPa s).2.1
abbrev lS (i:Nat):Stmt:=nth (BO<|top 16) i
abbrev wB (i:Nat):Stmt:=nth (fB<|lS 10) i
noncomputable def iEs:Nat->Stmt->Stmt
 |0,s=>s
 |n+1,s=>iEs n<|nth (iE s) 0
abbrev wI (i:Nat):List Stmt:=iB<|iEs i<|wB 4
noncomputable def clW (d c b a:Addr):List (Str×Addr):=[("small",a),("one",b),("eight",c),("code",d)]
noncomputable abbrev vW2:List Str:=["others","script","n","numbers","letters","grows","second","at","held","room","used","deed","more","other","$code","$eight","$one","$small","$tab"]
noncomputable abbrev vW1:List Str:=["script","others","n","numbers","letters","grows","second","at","held","room","used","deed","more","other","$code","$eight","$one","$small","$tab"]
def cW (a:List Str) (b:List<|Str×Addr) (f:Addr):FC:=⟨"law",Af<|top 16,f,.ref 503,b,a,31⟩
theorem Z4 (k:KF Z):findIn Z.K (.ref CQ) "__contains__" = some (some<|.ref 216):=by
 have h:=k.GI;unfold Ak at h;simp only[bV]at h;exact cD.mp h.1.1.2
theorem Z5 (k:KF Z):isFn Z.K (.ref 216)=true:=by
 have h:=k.GI;unfold Ak at h;simp only[bV]at h;exact h.1.2
structure LI (g:Bool) (S:QS) (held:List Nat) (room used b:Nat):Prop where
 H:CS S held
 hf:S.hf=485
 au:S.auto=g
 cl:held.length<=S.cnt
 ln:held.length+1<=S.n
 rm:room=8\/room=16
 ng:g=false->S.n=room/\S.cnt=used/\used+1<=room
 gr:g=true->S.cnt<S.n/\100*S.cnt<85*S.n+100/\S.cnt<=b/\S.q<=5+room/8
theorem LI.mono {g S held room used b i}(h:LI g S held room used b) (j:b<=i):LI g S held room used i:=
 ⟨h.H,h.hf,h.au,h.cl,h.ln,h.rm,h.ng,fun e=>let⟨a,c,d,f⟩:=h.gr e;⟨a,c,bW d j,f⟩⟩
theorem LI.perm {g S held a room used b}(h:LI g S held room used b) (p:held.Perm a):LI g S a room used b:=
 ⟨h.H.perm p,h.hf,h.au,p.length_eq▸h.cl,p.length_eq▸h.ln,h.rm,h.ng,h.gr⟩
theorem Sj (h:2^q<2^k):q<k:=(Nat.pow_lt_pow_iff_right<|by decide).mp h
theorem LI.QI {g S held room used b}(h:LI g S held room used b):S.n<=128:=by
 refine bT g (fun a=>?_) fun a=>?_
 .have c:=(h.gr a).2.2.2;have d:=h.rm;exact Nat.pow_le_pow_right (n:=2) (j:=7) (by decide)<|(la4 0x4a1800a577d023848008530504c1404182022c4294001c8003) c (dmk (room) 8) d
 .have c:=(h.ng a).1;exact (la2 0x15a845020010a20a088281000802028002) c h.rm
theorem LI.len {g S held room used b}(h:LI g S held room used b) (c:b<=36):held.length<60:=by
 refine bT g (fun a=>?_) fun a=>?_
 .have:=h.cl;exact (la3 0x7824022000041000024a20000f28013) c ((h.gr a).2.2.1) this
 .have:=h.ln;exact (la3 0x5b6846020010a40a0902810240202020800f28013) ((h.ng a).1) this h.rm
theorem Cr (a:List Nat) (h:Nat):(BB a h).length=a.length+if h∈a then 0 else 1:=by
 unfold BB;split
 .rfl
 .refine rE cE ?_;rfl
theorem LI.add {g S held room used b}(h:LI g S held room used b)(A:x<2^32) (B:b<=36) (r:g=false->x∉held->used+1<room) :
  ∃ m,Dd 1000 S [x]=some (.v .none,m)/\LI g m (BB held x) room (used+if x∈held then 0 else 1) (b+1):=by
 have K:8<=S.n:=Nat.pow_le_pow_right (n:=2) (i:=3) (by decide) h.H.q3;have p:=h.cl;obtain⟨m,I,L,G,z,s,F,J,E,y,w,u,t⟩:=h.H.Dd A (n:=1000) ((la1 0x504406010140001f45120009a11) h.QI) h.ln h.cl
  (fun l o=>by have l:=h.au.symm.trans l;refine xP (h.ng l)<|xA3 fun a b c=>?_;have:=r l o;exact (la5 0x1b7604702302502140008c082004004112080400174) p a b this)
  (fun l=>by
   refine xP (h.gr<|h.au.symm.trans l)<|xA4 fun a b c d=>?_;have:=h.rm;exact⟨(la4 0x4a1800a577d023848008530504c1404182022c429400208003) d (dmk (room) 8) this,a,b⟩)
 refine⟨m,I,J,F.trans h.hf,s.trans h.au,w,?_,h.rm,fun f=>?_,fun f=>?_⟩
 .refine rE (Cr ..)<|bE g (fun f=>?_) fun f=>?_
  .refine xP (h.ng f)<|xA3 fun a b c=>?_;have j:m.n=S.n:=by exact(rE (z<|h.au.trans f) rfl:2^m.q=_)
   split
   .exact rE j h.ln
   .rename_i o;have:=r f o;exact (la6 0x39a0a4090095084c082504090182200004091201205) p a b j this
  .refine xP (y<|s.trans<|h.au.trans f)<|xA2 fun a b=>?_;have:=w;rw[Cr]at this;exact (la4 0x3823023020020206048091001202) a this
 .refine xP (h.ng f)<|xA3 fun a b c=>?_;have l:=h.au.trans f;have j:m.n=S.n:=by exact(rE (z l) rfl:2^m.q=_)
  refine⟨j.trans a,rE (E l)<|rE b rfl,?_⟩;split
  .exact c
  .rename_i o;exact r f o
 .refine xP (h.gr f)<|xA4 fun a M c d=>xP (y<|s.trans<|h.au.trans f)<|xA2 fun D C=>⟨D,C,(la3 0xe08c084100124100012210002) u c,T1 t (fun e=>rE e d) fun e=>?_⟩
  .have:S.q<6:=Sj (q:=S.q) (k:=6) (by exact((la3 0xa7137a409194832300aac041000024a20001028013) B c e:S.n<64));exact (la5 0x17bc7fabb9bed82404800854050501404203022d8901124100010a50004) G this (dmk (room) 8) h.rm
theorem LI.adds :∀(l:List Nat){S a d c b},LI g S a d c b->(∀ x∈l,x<2^32)->b+l.length<=37->(g=false->c+l.length<d)->
  ∃ p e,HA 1000 S l=some p/\LI g p (l.foldl BB a) d e (b+l.length)/\e=c+((l.foldl BB a).length-a.length)/\a.length<=(l.foldl BB a).length:=by
 intro l;induction l with
 |nil=>intro S a d c b h _ _ _;exact⟨S,c,rfl,h,by simp,To _⟩
 |cons x r t=>
  intro S a d c b h m k i;rw[cJ]at k i;refine bc fun s=>gG (h.add (m x<|.head _) ((la2 0x1822020025a2442008000928001) k) fun j _=>by have:=i j;exact (la3 0x60880840920802110240211) this) fun o B z=>xE2 (t z (fun y u=>m y<|.tail _ u) ((la2 0x1822020025a244200800096881201201) k) fun j=>o5 i01<|i j) fun C q=>xA4 fun A w v n=>s<|have f:=Cr a x;⟨C,q,?_,rE cJ<|w.mono<|la2 0x208408488401081201200,rE v<|rE List.foldl_cons<|o6 f n,rE List.foldl_cons<|(la4 0x68240230011021040040002) n f⟩
  .show (match Dd 1000 S [x]with|some (_,o)=>HA 1000 o r|none=>none)=_;exact rE B A
theorem LI.rem {g S held room used b}(h:LI g S held room used b){x:Nat}(j:x<2^32):∃ d,Mj 1000 S [x]=some (.v .none,d)/\LI g d (held.filter (·!= x)) room used b:=by
 refine bc fun i=>gH (h.H.rem j (n:=1000)<|(la1 0x608808020280003e8a240211) h.QI) fun d k a l=>i<|have f:=List.length_filter_le (·!= x) held;?_;have c:d.n=S.n:=by exact(rE a.q rfl:2^d.q=2^S.q)
 exact⟨d,k,l,a.hf.trans h.hf,a.auto.trans h.au,rE a.cnt<|dQ f h.cl,rE c<|(la3 0xe08c084092080800010240202) f h.ln,h.rm,fun e=>rE c<|rE a.cnt<|h.ng e,fun e=>rE c<|rE a.cnt<|rE a.q<|h.gr e⟩
theorem LI.Nv {g S held room used b}(h:LI g S held room used b) (t:room<16):∃ l,rsz 1000 S (S.q+1)=some l/\LI g l held (room*2) held.length b:=by
 have r:=h.QI;have e:=h.ln;have m:=h.rm;have f:2^(S.q+1)=2*S.n:=rE (Nat.pow_succ ..)<|rE (Nat.mul_comm ..) rfl;have u:S.q<8:=Sj (k:=8) (by exact((la1 0x1822020080a00004028011) r:S.n<256));have p:S.cnt<2*S.n:=by
  refine bT g (fun j=>?_) fun j=>xP (h.ng j)<|xA3 fun a b c=>(la4 0x1a404c06404984060011010420098013) a b c
  .have:=(h.gr j).1;exact (la2 0xc11010800220098011) this
 obtain⟨l,y,s,x,w,o,z⟩:=h.H.rsz (n:=1000) (q:=S.q+1) ⟨by have:=h.H.q3;exact (la1 0x608808019012011901) this,(la1 0x60880a080192240201) u⟩ ((la3 0x7024022004c009002620840012) f p) ((la3 0xd048044009882202402010240202) e f) ((la2 0x80120188026008020288003e8a240212) r f) fun v=>by
  exact xP (h.gr<|h.au.symm.trans v)<|xA4 fun a b c d=>(la3 0x73d03812329002620880900800192885568032312) e f
 have i:l.n=2*S.n:=by exact(rE s (rE f rfl):2^l.q=_)
 exact⟨l,y,z,w.trans h.hf,x.trans h.au,rE o<|To _,(la3 0xd048044009882202402010240202) e i,(la1 0x37c6947a51baedc905030010a00a080280010a0040042800285040014282) t m,fun j=>xP (h.ng j)<|xA3 fun a b c=>(la5 0x113173c21d48d29b8540188404800980230409009308040141261018204e200a00274) e o i a,fun j=>xP (h.gr j)<|xA4 fun a b c d=>⟨(la4 0x3304c04600988220008c09208040013) e o i,(la4 0x481a998f204cca600988220008c0920800192885568032313) e o i,(la4 0xd825021060080023040040003) h.cl o c,rE s<|(la6 0x2603dfef7af0b27e02504800854050501404205042c2100143022c82940004294240204) d (dmk (room*2) 8) (dmk (room) 8) m⟩⟩
theorem LI.Z6 {S held room used b}(h:LI false S held room used b) (f:held.length<8) (g:used=held.length):∃ d,rsz 1000 S 3=some d/\LI false d held 8 used b:=by
 refine have w:=h.QI;have o:=h.cl;bc fun l=>xP (h.ng rfl)<|xA3 fun a u c=>xE1 (h.H.rsz (n:=1000) (q:=3) ⟨by decide,by decide⟩ ((la3 0x15826022000841028220608013) f g u) ((la1 0x60880a080182240201) f) (by decide) fun i=>by rw[h.au]at i;exact xft i) fun d=>xA6 fun t s r p j v=>l ?_;have e:d.n=8:=by exact(rE s rfl:2^d.q=_)
 exact⟨d,t,v,p.trans h.hf,r.trans h.au,rE j<|To _,(la2 0x6824028220a080110240202) f e,.inl rfl,fun _=>⟨e,(la3 0x5b21140880022020840022) g j,(la2 0x5824021000a088182240202) f g⟩,fun m=>nomatch m⟩
theorem E6 (h:f pl=some a):up f n pl=some (a,pl):=by unfold up;exact rE h rfl
theorem Dg (h:t pl=some p):upB t n pl=some (p,pl):=by unfold upB;exact rE h rfl
theorem Bd (k:f pl=some (.int x)) (e:g pl=some (.int y)) (h:DH j x y=some z):Aj j f g pl=some (.int z):=by
 unfold Aj;refine rE k<|rE e ?_;show(match DH j x y with|some r=>_|none=>_)=_;exact rE h rfl
theorem DA (k:f pl=some a) (e:g pl=some b) (h:D5 d a b=some p):Aw d f g pl=some p:=by unfold Aw;exact rE k<|rE e h
theorem El (h:t pl=some p) (e:u pl=some q):Ec t u pl=some (p&&q):=by unfold Ec;refine rE h<|rE e ?_;induction p<;>rfl
theorem MG (h:t pl=some p) (e:u pl=some q):pOr t u pl=some (p ||q):=by unfold pOr;refine rE h<|rE e ?_;induction p<;>rfl
theorem ZW (e:t pl=some p):IA t pl=some (!p):=by unfold IA;exact rE e rfl
theorem Sk (e:t pl=some p):K9 t pl=some (.bool p):=by unfold K9;exact rE e rfl
theorem ZX (h:f pl=some (.bool p)):pTr f pl=some p:=by unfold pTr;exact rE h rfl
theorem Sl (h:M n pl=some (.bool p,c)):mTr M n pl=some (p,c):=by unfold mTr;exact rE h rfl
theorem MH (h:T n pl=some (p,c)):Ta T n pl=some (!p,c):=by unfold Ta;exact rE h rfl
theorem YE (h:T n pl=some (true,pl1)):Pj T U n pl=U n pl1:=by unfold Pj;exact rE h rfl
theorem Sn (h:T n pl=some (false,pl1)):Pj T U n pl=some (false,pl1):=by unfold Pj;exact rE h rfl
theorem Ky (h:T n pl=some (false,pl1)):mOr T U n pl=U n pl1:=by unfold mOr;exact rE h rfl
theorem Cs (h:T n pl=some (p,pl1)) (k:p=true->X n pl1=r) (e:p=false->Y n pl1=r):mIf T X Y n pl=r:=by
 induction p with
 |true=>exact rE (Df h)<|k rfl
 |false=>exact rE (CE h)<|e rfl
theorem Hm (k:M n pl=some (a,pl1)) (e:N n pl1=some (b,c)) (h:D5 d a b=some p):Gl d M N n pl=some (p,c):=by
 unfold Gl;refine rE k ?_;dsimp only;refine rE e ?_;dsimp only;exact rE h rfl
theorem Ie (m:AL pl i=some (.cel w<|.qf S)) (s:e.lookup x=some w) (k:o=some as) (l:F n S as=some (h,S')) :
  callC e x F n i pl o=some (h,AY pl i<|.cel w<|.qf S'):=by
 refine rE k ?_;unfold callC;refine rE m ?_;dsimp only;exact iP s<|rE l rfl
theorem DB (l:AL pl i=some (.cel w<|.qf S)) (s:e.lookup x=some w) (h:o pl=some as) (k:F n S as=some (.v m,S')) :
  GV e x i F o n pl=some (m,AY pl i<|.cel w<|.qf S'):=by unfold GV;exact rE (Ie l s h k) rfl
theorem NI (s:AL pl i=some (.cel w<|.qf S)) (v:e.lookup x=some w) (k:o pl=some h) (l:F n S h=some (m,S')) :
  PG e x i F o n pl=some (m,AY pl i<|.cel w<|.qf S'):=Ie s v k l
theorem D0 (h:f pl=some a)(e:autoParam (o pl=some l) rf):Ai f o pl=some (a::l):=by unfold Ai;exact rE h<|rE e rfl
theorem Hn {x:Nat}(h:f pl=some (.int (x:Int))):EI f pl=some (.int (A0 x:Nat)):=by unfold EI;exact rE h rfl
theorem So {x:Nat}{l:List Nat}(o:f pl=some (.int (x:Int))) (m:AL pl i=some (.lst<|AX l)):pIn neg f i pl=some (neg != decide (x∈l)):=by
 unfold pIn;refine rE o<|rE m ?_;dsimp only[mI];refine rE (Hh ..)<|rE (GW ..) ?_;have:((l.map fun(x:Nat)=>(x:Int)).any fun y=>y==(x:Int))=decide (x∈l):=by
  refine rE List.any_map ?_;rw[cF,b0,List.any_eq_true];exact⟨fun⟨y,k,e⟩=>(Int.ofNat.inj<|cD.mp e)▸k,fun h=>⟨x,h,cI _⟩⟩
 dsimp only;exact rE this rfl
theorem Sq {x:Nat}(h:f pl=some (.int (x:Int))) (e:AL pl i=some (.lst<|AX l)):P9 neg f i pl=some (.bool<|neg != decide (x∈l)):=by unfold P9;exact rE (So h e) rfl
theorem FH (h:autoParam (AL pl i=some (.cel w<|.v a)) rf)(k:autoParam (e.lookup x=some w) rf):IJ e x i pl=some a:=by unfold IJ;exact rE h<|cA k
theorem Sr {x:Nat}(k:AL pl i=some (.lst<|AX l)) (e:f pl=some (.int (x:Int))) (h:l.length<=900):JC i f n pl=some (.none,AY pl i<|.lst<|AX<|l++[x]):=by
 unfold JC;refine rE k<|rE e ?_;dsimp only;rw[cA<|by unfold AX;rw[b7];exact dK h];unfold AX;exact rE List.map_append rfl
theorem Su (h:M n pl=some (a,c)) (k:cellAt (AL c i)=some w) (l:e.lookup x=some w):Ks e x i M n pl=some (.next,AY c i<|.cel w<|.v a):=by
 unfold Ks;refine rE h ?_;dsimp only;unfold setC;refine rE k ?_;dsimp only;exact iP l rfl
theorem A5 (h:X n pl=some (.next,pl1)) (e:Y n pl1=r):Ag X Y n pl=r:=(AK h).trans e
theorem Hx (x y:Nat):D5 .Lt (.int (x:Int)) (.int (y:Int))=some (decide<|x<y):=rE (Kc ..)<|rE (cF.mpr<|show decide ((x:Int)<y)=true↔decide (x<y)=true by rw[b0,b0];exact Int.ofNat_lt) rfl
theorem Sv (x y:Nat):D5 .GtE (.int (x:Int)) (.int (y:Int))=some (decide<|y<=x):=rE (Kd ..)<|rE (cF.mpr<|show decide ((y:Int)<=x)=true↔decide (y<=x)=true by rw[b0,b0];exact Int.ofNat_le) rfl
theorem Jn (x y:Nat):D5 .Eq (.int (x:Int)) (.int (y:Int))=some (decide<|x=y):=rE (CD ..)<|rE (cF.mpr<|show((x:Int)==y)=true↔decide (x=y)=true by rw[b0,cD];exact Int.ofNat_inj) rfl
theorem ZY (x y:Nat):D5 .NotEq (.int (x:Int)) (.int (y:Int))=some (!decide (x=y)):=by
 refine rE (Kf ..) ?_;show some (!((x:Int)==y))=_;exact rE (cF.mpr<|show((x:Int)==y)=true↔decide (x=y)=true by rw[b0,cD];exact Int.ofNat_inj) rfl
structure Wc where
 sc:MV
 nums:List Nat
 g:Bool
 cc:Addr
 ce:Addr
 co:Addr
 cs:Addr
 f:Addr
abbrev Wc.cl (w:Wc):List (Str×Addr):=clW w.cc w.ce w.co w.cs
noncomputable def OM:Str:="abcdefghijklmnopqrstuvwx"
structure Ws where
 others:List Nat
 second:QS
 one:QS
 held:List Nat
 room:Nat
 used:Nat
structure Wx where
 n:Option AV
 at_:Option AV
 YF:Option AV
 more:Option AV
 other:Option AV
 code:AV
abbrev plW (w:Wc) (s:Ws) (x:Wx):PL:=[some<|.lst<|AX s.others,some<|.v w.sc,x.n,some<|.lst<|AX w.nums,some<|.v<|.str OM,some<|.v<|.bool w.g,some<|.qf s.second,x.at_,some<|.lst<|AX s.held,some<|.v<|.int s.room,some<|.v<|.int s.used,x.YF,x.more,x.other,
 some x.code,some<|.B5 w.ce,some<|.cel w.co<|.qf s.one,some<|.B5 w.cs,some .tab]
noncomputable abbrev nV (x:Nat):Option AV:=some<|.v<|.int (x:Int)
def xW (w:Wc) (y:Nat) (o:Option AV):Wx:=⟨nV y,nV<|y/7%24,nV<|y%7,nV<|y/168,o,.cel w.cc<|.v<|.int (A0 (y/7%24):Nat)⟩
section
variable {Z:PX}(k:KF Z) (g:KI Z) (i:KJ Z) (a:KR Z) (f:KL Z) (b:KU Z) (c:KN Z) (e:KT Z) (h:KX Z) (d:KY Z) (w:Wc)
include k g i a f b c e h d
end
theorem VC:∀ a<24,OM.cps[a]?=some (97+a):=by decide
theorem MJ {a:Nat}(e:f b=some (.str OM)) (d:g b=some (.int (a:Int))) (c:a<24):Kp f g b=some (.str ⟨#[97+a]⟩):=by
 unfold Kp;exact rE e<|rE d (iP (Nat.lt_trans c<|by decide) (rE (VC a c) rfl):(if a<1000 then(match OM.cps[a]? with|some x=>some (MV.str ⟨#[x]⟩)|none=>none)else none)=_)
theorem PV (b:S.hf=485) (c:a<24):byKey F n S [.str ⟨#[97+a]⟩]=F n S [A0 a]:=by
 have:Ug S [.str ⟨#[97+a]⟩]=some (A0 a):=by
  show EK S (97+a)=_;unfold EK;refine iP (Nat.le_add_right _ _)<|iP b ?_;unfold FD;exact rE (Nat.add_sub_cancel_left ..)<|rE (Nat.mod_eq_of_lt c) rfl
 unfold byKey;exact rE this rfl
theorem HF {h:Nat}:cQ F n S [.int (h:Int)]=F n S [h]:=rfl
theorem E7 (e:h∈l):BB l h=l:=cA e
theorem EN (e:h∉l):BB l h=l++[h]:=b5 e
theorem MK (y:Nat):y/7%24<24:=bR _ (by decide)
def Ws.add (s:Ws) (S:QS) (h:Nat):Ws:={s with one:=S,held:=BB s.held h,used:=s.used+if h∈s.held then 0 else 1}
section
variable {Z:PX}(k:KF Z) (b:KI Z) (c:KJ Z) (a:KR Z) (g:KL Z) (d:KU Z) (i:KN Z) (l:KT Z) (m:KX Z) (j:KY Z) (w:Wc)
include k b c a g d i l m j
theorem d1:∃ M,Bx Z (cW vW2 w.cl w.f) (wI 0) M/\∀(s:Ws) (y:Nat) (o:Option AV) (p:QS),s.one.hf=485->s.held.length<=900->Dd 1000 s.one [A0<|y/7%24]=some (.v .none,p)->
  M 1000 (plW w s<|xW w y o)=some (.next,plW w (s.add p<|A0<|y/7%24)<|xW w y o):=by
 refine⟨_,(AA (Ao (Al<|AW (AJ (AB 12)<|AD AE)<|AD AE) (AA (Ax<|CX 16 k.Zm (Xg k b c a g d) (Sa rfl)<|AN (Fy (AB 4)<|AB 7) Aa) AI)<|AA (Ax<|CX 16 k.DX (Dl k b c a) (Sa rfl)<|AN (DL 14) Aa) AI)<|AA (Ao (Al<|PI (neg:=true) 8 rfl rfl rfl rfl<|DL 14) (AA (Ax<|JD 8<|DL 14)<|AA (Ab 9<|Ac<|AJ (AB 10)<|AD AE) AI) AI) AI),fun s y o p t r e=>A5 (pl1:=plW w {s with one:=p}<|xW w y o) (Cs (Dg<|DA (Bd rfl rfl<|BC (y/168) 2) rfl<|Jn (y/168%2) 0) (fun _=>A5 (A6<|DB rfl rfl (D0<|MJ rfl rfl<|MK y)<|(PV t<|MK y).trans e) rfl) fun _=>A5 (A6<|DB rfl rfl (D0<|FH)<|HF.trans e) rfl) ?_⟩
 .refine A5 (Cs (Dg<|So (FH) rfl) (fun h=>?_) fun h=>?_) rfl
  .have n:A0 (y/7%24)∉s.held:=by simpa using h
   refine A5 (A6<|Sr rfl (FH) r)<|A5 (CN<|E6<|Bd rfl rfl rfl) ?_;unfold Ws.add;exact rE (EN n)<|iN n rfl
  .have n:A0 (y/7%24)∈s.held:=by simpa using h
   unfold Ws.add;exact rE (E7 n)<|iP n rfl
end
theorem ON (h:∀ y:Nat,T (.int (y:Int)) n b=some (p y,b)):∀(l a:List Nat),a.length+l.length<=900->cGo T some n (AX l) (AX a) b=some (AX<|a++l.filter p,b):=by
 intro l;induction l with
 |nil=>intro a _;refine rE List.filter_nil<|rE (cb ..) ?_;rfl
 |cons y r f=>
  intro a c;rw[cJ]at c;refine(rE (h y) ?_:(T (.int (y:Int)) n b).bind _=_);refine(bE (p y) (fun d=>?_) fun d=>?_:(bif p y then _ else _)=_)
  .rw [List.filter_cons_of_neg<|by rw[d];exact Bool.false_ne_true];exact f a<|(la2 0x6088080e12891080200384a200201) c
  .refine rE (List.filter_cons_of_pos d) (rE (Ti<|by unfold AX;exact rE (b7 ..)<|eF c) ?_:(bif decide ((AX a).length<=900)then cGo T some n (AX r) (AX a++[.int (y:Int)]) b else none)=_);have e:AX a++[MV.int (y:Int)]=AX (a++[y]):=by unfold AX;refine rE List.map_append ?_;rfl
   refine rE e ?_;have:=f (a++[y])<|rE cE<|rE List.length_singleton<|eP c;rw[c6]at this;exact this
theorem YG (h:M n a=some (AX l,pl1)) (b:∀ y:Nat,T (.int (y:Int)) n pl1=some (p y,pl1)) (c:l.length<=900):Jm M T some n a=some (.lst<|AX<|l.filter p,pl1):=by
 unfold Jm;refine rE h (rE (ON b l []<|by rw[List.length_nil];exact (la1 0x6088080e128000384a000a01) c) ?_:(cGo T some n (AX l) (AX []) pl1).map _=_);rfl
theorem ZZ {h:Nat}(d:AL a i=some (.cel b<|.v<|.int (h:Int))) (e:c.lookup y=some b) (x:Nat):U9 c y i (.int (x:Int)) n a=some (x != h,a):=by
 unfold U9;refine rE d ?_;dsimp only;exact rE e<|rE (show(some b==some b)=true from cI _) (rE (cF.mpr<|show((x:Int) != h)=true↔(x != h)=true by rw[bS,bS];exact not_congr Int.ofNat_inj) rfl:some (((x:Int) != h),a)=_)
theorem Ho (b:l.length<=1000)(h:autoParam (AL a i=some (.lst<|AX l)) rf):Pz i a=some (.int (l.length:Nat)):=by
 unfold Pz;refine rE h ?_;dsimp only;unfold AX;rw[cA<|by rw[b7];exact b,b7]
theorem Jo {a:PL}{l b:List Nat}(h:M n c=some (.lst<|AX l,a)) (e:AL a i=some (.lst<|AX b)) (p:l.Perm b) (d:b.length<64):Ib M i n c=some (false,a):=by
 unfold Ib;refine rE h ?_;dsimp only;refine rE e ?_;dsimp only;refine rE (Hh ..)<|rE (Hh ..)<|rE (GW ..)<|rE (GW ..) ?_;dsimp only;rw[cA ⟨List.isPerm_iff.mpr<|p.map _,by rw[b7];exact d⟩]
theorem Z7 (x:Nat):DH .Mult (x:Int) 2=some ((x*2:Nat):Int):=by
 show(if _ then some ((x:Int)*2)else none)=_;refine iP (.inr<|show(2:Int).natAbs<18446744073709551616 by decide)<|rE (c8 ..) ?_;rfl
theorem OO {S:QS}(h:hsh S=some l):Nu n S []=some (.lst<|AX l,S):=by unfold Nu;dsimp only;exact rE h rfl
section
variable {Z:PX}(k:KF Z) (t:KI Z) (u:KJ Z) (c:KR Z) (r:KL Z) (d:KU Z) (B:KN Z) (j:KT Z) (z:KX Z) (A:KY Z) (w:Wc)
include k t u c r d B j z A
theorem d2:∃ M,Bx Z (cW vW2 w.cl w.f) (wI 1) M/\∀(s:Ws) (y:Nat) (o:Option AV) (a:QS),s.one.hf=485->s.held.length<=900->Mj 1000 s.one [A0<|y/7%24]=some (.v .none,a)->
  M 1000 (plW w s<|xW w y o)=some (.next,plW w {s with one:=a,held:=s.held.filter (·!= A0 (y/7%24))}<|xW w y o):=by
 refine⟨_,(AA (Ao (Al<|AW (AB 11)<|AD AE) (AA (Ax<|CX 16 k.Tf (P4 k t u c r d) (Sa rfl)<|AN (Fy (AB 4)<|AB 7) Aa) AI)<|AA (Ax<|CX 16 k.Hs (G7 k) (Sa rfl)<|AN (DL 14) Aa) AI)<|AA (OJ 7 rfl rfl rfl (R0 8 rfl rfl rfl rfl) (YA 14 rfl rfl rfl rfl<|by intro _ _;rfl) (PT rfl rfl rfl) rfl rfl (by decide) (by intro _;rfl) (by decide) (by intro _ _;rfl)<|by intro _;rfl) AI),fun s y o a i h e=>A5 (pl1:=plW w {s with one:=a}<|xW w y o) (Cs (Dg<|DA rfl rfl<|Jn (y%7) 4) (fun _=>A5 (A6<|DB rfl rfl (D0<|MJ rfl rfl<|MK y)<|(PV i<|MK y).trans e) rfl) fun _=>A5 (A6<|DB rfl rfl (D0<|FH)<|HF.trans e) rfl) ?_⟩
 .refine A5 (X:=OI _ _) (pl1:=plW w {s with one:=a,held:=s.held.filter (·!= A0 (y/7%24))}<|xW w y o) ?_ rfl;unfold OI;exact rE (YG (l:=s.held) (pl1:=E3 (plW w {s with one:=a}<|xW w y o) 8) rfl (ZZ (b:=w.cc) rfl rfl) h) rfl
theorem d3:∃ M,Bx Z (cW vW2 w.cl w.f) (wI 2) M/\∀(s:Ws) (y:Nat) (o:Option AV) (a:QS),s.held.length<=900->rsz 1000 s.one (s.one.q+1)=some a->
  M 1000 (plW w s<|xW w y o)=some (.next,plW w {s with one:=a,room:=s.room*2,used:=s.held.length}<|xW w y o):=by
 refine⟨_,(AA (Ax<|CX 16 c.IW (Ko k t u c) (Sa rfl) Aa)<|AA (Ab 8<|Ac<|AJ (AB 9)<|AD AE)<|AA (Ab 9<|Ac<|GO 8<|GP k) AI),fun s y o a b e=>A5 (A6<|DB (as:=[]) (m:=.none) (S':=a) rfl rfl rfl ?_)<|A5 (CN<|E6<|Bd rfl rfl<|Z7 s.room)<|A5 (CN<|E6<|Ho (l:=s.held)<|dK b) rfl⟩;unfold QF.Nv;dsimp only;exact rE e rfl
theorem d5:∃ M,Bx Z (cW vW2 w.cl w.f) (wI 4) M/\∀(s:Ws) (y:Nat) (o:Option AV) (m:QS),s.held.length<=900->s.one.cnt=s.used->s.held.length<=s.used->(s.held.length<8->s.used=s.held.length/\rsz 1000 s.one 3=some m)->
  M 1000 (plW w s<|xW w y o)=some (.next,plW w (if s.held.length<8 then{s with one:=m,room:=8}else s)<|xW w y o):=by
 refine⟨_,(AA (Ao (FO (QC 18 16<|Dz (n:=28) j z (Be j.NG) (by intro _;rfl) (by intro _;rfl) (by intro _ _ _;rfl) (fun _ _=>X0 k t u c rfl rfl rfl<|by decide) (fun _ _=>X4 k c z A rfl rfl rfl<|by decide)<|Sa rfl)<|Ac<|EP (GO 8<|GP k)<|AD AE) (AA (CC<|Ac<|AD Bf) AI) AI)<|AA (Ao (Al<|AW (GO 8<|GP k)<|AD AE) (AA (Ab 8<|Ac<|AD AE) AI) AI) AI),fun s y o m x q v h=>have g:Pz 8 (plW w s<|xW w y o)=some (.int (s.held.length:Nat)):=Ho<|dK x;?_⟩;by_cases e:s.held.length<8
 .refine xP (h e)<|xA2 fun D C=>iP e<|A5 (pl1:=plW w {s with one:=m}<|xW w y o) (Cs (p:=false) (Hm (a:=.bool false) (b:=.bool false) (pl1:=plW w {s with one:=m}<|xW w y o) ?_ (E6<|Sk<|DA (Ho (l:=s.held)<|(la1 0x182202820040fa28001) e) rfl<|(Sv _ 8).trans<|cT some<|bK<|(la1 0x18220282004041061) e) rfl) (fun h=>nomatch h) fun _=>rfl)<|A5 (Cs (Dg<|DA (Ho (l:=s.held)<|(la1 0x182202820040fa28001) e) rfl<|Hx _ 8) (fun _=>A5 rfl rfl) fun h=>absurd e<|of_decide_eq_false h) rfl
  .show (if _ then _ else _)=_;refine iP (show List.lookup (Str.ofString "one") [(Str.ofString "one",w.co)]=some w.co from rfl)<|rE (show decide (8<=s.one.cnt)=false from bK ((la3 0x16826022020a090110008041063) q e D)) ?_;dsimp only;exact rE C rfl
 .refine iN e<|A5 (pl1:=plW w s<|xW w y o) (Cs (p:=false) (Hm (a:=.bool true) (b:=.bool true) (pl1:=plW w s<|xW w y o) ?_ (E6<|Sk<|DA g rfl<|(Sv _ 8).trans<|cT some<|Ti<|(la1 0x18220282005804101) e) rfl) (fun h=>nomatch h) fun _=>rfl)<|A5 (Cs (Dg<|DA g rfl<|Hx _ 8) (fun h=>absurd (bU h) e) fun _=>rfl) rfl
  .show (if _ then _ else _)=_;exact iP (show List.lookup (Str.ofString "one") [(Str.ofString "one",w.co)]=some w.co from rfl)<|rE (show decide (8<=s.one.cnt)=true from Ti ((la3 0xf0250282405841001000804103) q v e)) rfl
theorem d6:∃ M,Bx Z (cW vW2 w.cl w.f) (wI 5) M/\∀(s:Ws) (y:Nat) (o:Option AV),s.one.hf=485->EV 1000 s.one [A0<|y/7%24]=some (.v<|.bool<|decide<|A0 (y/7%24)∈s.held,s.one)->
  M 1000 (plW w s<|xW w y o)=some (.next,plW w s<|xW w y o):=by
 refine⟨_,(AA (Ao (FO (YD 16 (Z4 k) (Z5 k) (Fy (AB 4)<|AB 7) (Nx k r d) (Sa rfl) rfl rfl rfl)<|Ac<|PJ (neg:=false) 8 rfl rfl rfl rfl<|DL 14) (AA (CC<|Ac<|AD Bf) AI) AI) AI),fun s y o b e=>A5 (Cs (p:=false) (Hm (M:=VB _ _ _ _ _) (a:=.bool<|decide<|A0 (y/7%24)∈s.held) ?_ (E6<|Sq (neg:=false) (l:=s.held) (FH) rfl) ?_) (fun h=>nomatch h) fun _=>rfl) rfl⟩
 .unfold VB;rw[Ie (as:=[.str ⟨#[97+y/7%24]⟩]) (S':=s.one) rfl rfl (by rw[MJ rfl rfl<|MK y];rfl)<|(PV b<|MK y).trans e];rfl
 .refine rE (Bool.false_bne ..) ?_;show some (_ != _)=_;exact rE (bne_self_eq_false ..) rfl
theorem d7:∃ M,Sx Z (cW vW2 w.cl w.f) (iEs 6<|wB 4) M/\∀(s:Ws) (y:Nat) (o:Option AV),s.one.hf=485->EV 1000 s.one [A0<|y/7%24]=some (.v<|.bool<|decide<|A0 (y/7%24)∈s.held,s.one)->
  M 1000 (plW w s<|xW w y o)=some (.next,plW w s<|xW w y o):=by
 refine⟨_,(Ao (Al<|AW (AJ (AB 12)<|AD AE)<|AD AE) (AA (Ao (FO (CX 16 k.Qs (Mt k r d) (Sa rfl)<|AN (Fy (AB 4)<|AB 7) Aa)<|Ac<|PJ (neg:=false) 8 rfl rfl rfl rfl<|DL 14) (AA (CC<|Ac<|AD Bf) AI) AI) AI)<|AA (Ao (FO (CX 16 k.Ds (DY k) (Sa rfl)<|AN (DL 14) Aa)<|Ac<|PJ (neg:=false) 8 rfl rfl rfl rfl<|DL 14) (AA (CC<|Ac<|AD Bf) AI) AI) AI),fun s y o g e=>have a:=Sq (f:=IJ w.cl "code" 14) (pl:=plW w s<|xW w y o) (neg:=false) (i:=8) (x:=A0<|y/7%24) (l:=s.held) (FH) rfl;?_⟩;rw[Bool.false_bne]at a;have b:D5 .NotEq (.bool<|decide<|A0 (y/7%24)∈s.held) (.bool<|decide<|A0 (y/7%24)∈s.held)=some false:=by show some (_ != _)=_;exact rE (bne_self_eq_false ..) rfl
 exact Cs (Dg<|DA (Bd rfl rfl<|BC (y/168) 2) rfl<|Jn (y/168%2) 0) (fun _=>A5 (Cs (Hm (DB (S':=s.one) rfl rfl (D0<|MJ rfl rfl<|MK y)<|(PV g<|MK y).trans e) (E6 a) b) (fun h=>nomatch h) fun _=>rfl) rfl) fun _=>A5 (Cs (Hm (DB (S':=s.one) rfl rfl (D0<|FH)<|HF.trans e) (E6 a) b) (fun h=>nomatch h) fun _=>rfl) rfl
theorem d9:∃ M,Sx Z (cW vW2 w.cl w.f) (wB 5) M/\∀(s:Ws) (y:Nat) (o:Option AV) (l:List Nat),hsh s.one=some l->l.Perm s.held->s.held.length<64->M 1000 (plW w s<|xW w y o)=some (.next,plW w s<|xW w y o):=by
 refine⟨_,(Ao (Qg (Al<|AW (AB 11)<|AD AE)<|Qg (Hi 8 (fun _=>DN j.Jl rfl (.bi _) rfl rfl rfl) (Jj 16 k.EA (Dk k) (Sa rfl) rfl rfl rfl rfl Aa rfl rfl) rfl rfl rfl rfl rfl<|Sa rfl)<|Al Bt) (AA (CC<|Ac<|AD Bf) AI) AI),fun s y o l h p e=>Cs (p:=false) (have a:=Dg (n:=1000)<|DA (f:=AM 11) (g:=AP<|.int 3) (pl:=plW w s<|xW w y o) rfl rfl<|ZY (y%7) 3;bT (decide<|y%7=3) (fun b=>?_) fun b=>?_) (fun h=>nomatch h) fun _=>rfl⟩
 .rw [b]at a;exact Sn a
 .rw [b]at a;exact(YE a).trans<|Sn<|Jo (NI (S':=s.one) rfl rfl rfl<|OO h) rfl p e
end
def Ws.put (s:Ws) (h:Nat):Ws:={s with held:=BB s.held h,used:=s.used+if h∈s.held then 0 else 1}
theorem Kz:∀(l:List Nat) (s:Ws),(l.foldl Ws.put s).held=l.foldl BB s.held/\(l.foldl Ws.put s).used=s.used+((l.foldl BB s.held).length-s.held.length)/\s.held.length<=(l.foldl BB s.held).length/\(l.foldl BB s.held).length<=s.held.length+l.length/\
  (l.foldl Ws.put s) = {s with held:=(l.foldl Ws.put s).held,used:=(l.foldl Ws.put s).used}:=by
 intro l;induction l with
 |nil=>intro s;exact⟨rfl,by simp,To _,To _,rfl⟩
 |cons x r d=>
  refine fun s=>xP (d<|s.put x) (xA5 fun j i b h g=>have a:(s.put x).held.length=s.held.length+if x∈s.held then 0 else 1:=Cr s.held x;have f:(s.put x).used=s.used+if x∈s.held then 0 else 1:=rfl;have e:(s.put x).held=BB s.held x:=rfl;?_);simp only[List.foldl_cons,cJ];refine rS e ⟨j,?_,(la4 0x68240230011021040040002) b a,o7 h a i01,rE g rfl⟩
  .refine rE i<|rE f ?_;generalize (if x∈s.held then 0 else 1)=c at a ⊢;exact (la7 0x5498934aa92988819a4810a0240a0853050628430480942003001101001224) b a rfl rfl
theorem NJ:∀(l a:List Nat),l.Nodup->l.foldl BB a=a++l.filter (fun x=>!decide (x∈a)):=by
 intro l;induction l with
 |nil=>intro a _;simp
 |cons x r c=>
  refine fun a e=>xP (bL.mp e)<|xA2 fun g f=>rE List.foldl_cons<|rE (c _ f) ?_;by_cases b:x∈a
  .exact rE (E7 b)<|rE (List.filter_cons_of_neg<|by simp[b]) rfl
  .refine rE (EN b)<|rE (List.filter_cons_of_pos<|by simp[b])<|rE (c6 ..)<|rE List.singleton_append ?_;congr 2;refine List.filter_congr fun y d=>?_;have:y≠x:=fun z=>g<|z▸d;simp[this]
theorem QJ {l a held:List Nat}(p:l.Perm a) (b:l.Nodup):(l.foldl BB held).Perm (a.foldl BB held):=rE (NJ l held b)<|rE (NJ a held<|p.nodup_iff.mp b)<|List.Perm.append_left _<|p.filter _
abbrev plT (w:Wc) (s:Ws) (x:Wx):PL:=none::(plW w s x).tail
theorem VD {X:MX}(f:∀(s:Ws) (x:Wx) (h:Nat),s.held.length<=900->x.other=nV h->X 1000 (plT w s x)=some (.next,plT w (s.put h) x)):∀(l:List Nat) (s:Ws) (x:Wx),s.held.length+l.length<=900->
  ∃ o,IH (stLoc 13) fin X 1000 (AX l) (plT w s x)=some (.next,fin<|plT w (l.foldl Ws.put s) {x with other:=o}):=by
 intro l;induction l with
 |nil=>intro s x _;exact⟨x.other,rfl⟩
 |cons h r d=>
  refine fun s x c=>have c:=cJ▸c;xE1 (d (s.put h) {x with other:=nV h}<|o8 (Cr s.held h) i01 c) fun o=>fun e=>⟨o,?_⟩;show(match X 1000 (plT w s {x with other:=nV h})with|some (.next,b)=>IH (stLoc 13) fin X 1000 (AX r) b|some (.cont,b)=>IH (stLoc 13) fin X 1000 (AX r) b|some (.brk,b)=>some (.next,b)|some (.ret a,b)=>some (.ret a,b)|none=>none)=_;exact rE (f s {x with other:=nV h} h (eF c) rfl) e
theorem Sw (h:M n c=some (xs,pl1)):Mp b M a X n c=IH b (a xs) X n xs pl1:=by unfold Mp;exact rE h rfl
section
variable {Z:PX}(k:KF Z) (g:KI Z) (i:KJ Z) (a:KR Z) (d:KL Z) (b:KU Z) (j:KN Z) (c:KT Z) (n:KX Z) (m:KY Z) (w:Wc)
include k g i a d b j c n m
theorem d4:∃ M,Bx Z (cW vW2 w.cl w.f) (wI 3) M/\∀(s:Ws) (y:Nat) (o:Option AV) (r:QS) (l:List Nat),s.one.hf=485->s.second.hf=485->s.held.length+s.others.length<=900->s.others.length<64->hsh s.second=some l->l.Perm s.others->HA 1000 s.one l=some r->
  ∃ t,M 1000 (plW w s<|xW w y o)=some (.next,plW w (s.others.foldl Ws.put {s with one:=r})<|xW w y t):=by
 refine⟨_,(AA (Ax<|X7 k g i a d b 16 6 rfl rfl rfl rfl rfl rfl rfl<|Sa rfl)<|AA (Lh (Ra 12 rfl rfl rfl) (U0 rfl rfl rfl rfl) (AA (Ao (Al<|PI (neg:=true) 8 rfl rfl rfl rfl<|AB 13) (AA (Ax<|JD 8<|AB 13)<|AA (Ab 9<|Ac<|AJ (AB 10)<|AD AE) AI) AI) AI)<|by intro _ _;rfl)<|AA (Ao (Hi 0 (fun _=>DN c.Jl rfl (.bi _) rfl rfl rfl) (Gp 6 k.EA (Dk k) rfl rfl rfl rfl rfl Aa rfl rfl<|Sa rfl) rfl rfl rfl rfl rfl<|Sa rfl) (AA (CC<|Ac<|AD Bf) AI) AI) AI),fun s y o r l C z v u h p e=>?_⟩;have G:X6 w.cl (Str.ofString "one") 16 6 1000 (plW w s<|xW w y o)=some (.none,plW w {s with one:=r}<|xW w y o):=by
  show(if _ then _ else _)=_;refine iP ⟨(show List.lookup (Str.ofString "one") [(Str.ofString "one",w.co)]=some w.co from rfl),C,z,by decide⟩<|rE h ?_;dsimp only;exact rE e rfl
 have D:∀(s:Ws) (x:Wx) (h:Nat),s.held.length<=900->x.other=nV h->(Ag (mIf (upB<|pIn true (AM 13) 8) (Ag (C4<|JC 8<|AM 13)<|Ag (BX 10<|up<|Aj .Add (AM 10)<|AP<|.int 1) Ar) Ar) Ar) 1000 (plT w s x)=some (.next,plT w (s.put h) x):=by
  rintro s ⟨L,K,J,I,_,H⟩ h v rfl;refine A5 (Cs (Dg<|So rfl rfl) (fun q=>?_) fun q=>?_) rfl
  .have q:h∉s.held:=by simpa using q
   refine A5 (A6<|Sr rfl rfl v)<|A5 (CN<|E6<|Bd rfl rfl rfl) ?_;unfold Ws.put;exact rE (EN q)<|iN q rfl
  .have q:h∈s.held:=by simpa using q
   unfold Ws.put;exact rE (E7 q)<|iP q rfl
 exact xE1 (VD (fin:=fun B=>AY B 0<|.lst<|AX s.others) D s.others {s with one:=r} (xW w y o) v) fun t=>fun F=>⟨t,A5 (A6 G)<|A5 ((Sw (xs:=AX s.others) (pl1:=plT w {s with one:=r}<|xW w y o) rfl).trans F)<|xP (Kz s.others {s with one:=r})<|xA5 fun _ _ _ _ E=>rE E<|A5 (Cs (Jo (Gz (S':=s.second) rfl rfl<|OO h) rfl p u) (fun h=>nomatch h) fun _=>rfl) rfl⟩
end
structure HG (w:Wc) (s:Ws) (b:Nat):Prop where
 li:LI w.g s.one s.held s.room s.used b
 ho:CS s.second s.others
 hs:s.second.hf=485
 h4:s.others.length<=4
theorem ML:∀ a<24,A0 a<2^32:=by decide
theorem HG.Z8 (h:HG w s b) (r:b<=32) (o:w.g=false->s.used+s.others.length<s.room)(p:l.Perm s.others) :
  ∃ a,HA 1000 s.one l=some a/\HG w (s.others.foldl Ws.put {s with one:=a}) (b+4):=by
 refine have f:=h.h4;have c:=p.length_eq;bc fun m=>xE2 (h.li.adds l (fun x n=>h.ho.lt x<|p.mem_iff.mp n) ((la3 0x2e0940880824240000828000025a200203) r f c) fun q=>by have:=o q;exact (la4 0x1a090088180084c08220200212) c this) fun a y=>xA4 fun v u t B=>xP (Kz s.others {s with one:=a})<|xA5 fun k j A z i=>m<|have d:=QJ (held:=s.held) p<|p.nodup_iff.mpr h.ho.nd;have e:=(u.perm d).mono (show b+l.length<=b+4 by exact (la3 0x16090088082424010804200202) f c);⟨a,v,rE i ⟨(rE k (rE j ?_):LI w.g a (s.others.foldl Ws.put {s with one:=a}).held s.room (s.others.foldl Ws.put {s with one:=a}).used<|b+4),h.ho,h.hs,h.h4⟩⟩;rw[t,d.length_eq]at e;exact e
inductive Good (w:Wc) (b:Nat) (o:Option<|AF×PL):Prop
 |mk (s':Ws) (x':Wx) (h1:o=some (.next,plW w s' x')) (h2:HG w s' b) (h3:cellAt (some x'.code)=some w.cc)
inductive Mid (w:Wc) (y b:Nat) (r:Option<|AF×PL):Prop
 |mk (s':Ws) (o':Option AV) (h1:r=some (.next,plW w s'<|xW w y o')) (h2:HG w s' b)
theorem HH (d:X n a=some (.next,pl1)) (c:Good w b<|Y n pl1):Good w b (Ag X Y n a):=rE (AK d) c
theorem Hp {p:Bool}(h:T n a=some (p,a)) (d:p=true->Mid w y b (M n a)) (c:p=false->Mid w y b (N n a)):Mid w y b (mIf T M N n a):=by
 induction p with
 |true=>exact rE (Df h)<|d rfl
 |false=>exact rE (CE h)<|c rfl
theorem F9 (h:Mid w y b<|M n a):Mid w y b (Ag M Ar n a):=by
 obtain⟨c,d,e,h⟩:=h;exact⟨c,d,A5 e rfl,h⟩
section
variable {Z:PX}(k:KF Z) (A:KI Z) (C:KJ Z) (q:KR Z) (i:KL Z) (r:KU Z) (t:KN Z) (v:KT Z) (B:KX Z) (u:KY Z) (w:Wc)
include k A C q i r t v B u
theorem VE:∃ X,Bx Z (cW vW2 w.cl w.f) (fB<|lS 10) X/\∀(s:Ws) (x:Wx) (y b:Nat),HG w s b->b<=32->x.n=nV y->cellAt (some x.code)=some w.cc->
  Good w (b+4) (X 1000<|plW w s x):=by
 refine bc fun J=>gG (d1 k A C q i r t v B u w) fun M1 h1 s1=>gG (d2 k A C q i r t v B u w) fun M2 h2 s2=>gG (d3 k A C q i r t v B u w) fun M3 h3 s3=>gG (d4 k A C q i r t v B u w) fun M4 h4 s4=>gG (d5 k A C q i r t v B u w) fun M5 h5 s5=>gG (d6 k A C q i r t v B u w) fun M6 h6 s6=>gG (d7 k A C q i r t v B u w) fun M7 h7 s7=>gG (d9 k A C q i r t v B u w) fun M9 h9 s9=>J ⟨_,(AA (Ab 10<|Ac<|AJ (AB 2)<|AD AE)<|AA (Ab 6<|Ac<|AJ (AJ (AB 2)<|AD AE)<|AD AE)<|AA (Ab 11<|Ac<|AJ (AB 2)<|AD AE)<|AA (PF 14 rfl rfl (Ac<|EJ i (Be i.GR) (AB 7)<|Sa rfl) rfl)<|AA (Ao (Al<|BW (AW (AB 11)<|AD AE)<|BW (CL (A3<|AB 5)<|CL (AW (AJ (AB 10)<|AD AE)<|AB 9)<|CL (PI (neg:=false) 8 rfl rfl rfl rfl<|DL 14) BU) Bt) h1<|AA (Ao (Al<|CL (AW (AB 11)<|AD AE)<|CL (AW (AB 11)<|AD AE) BU) h2<|AA (Ao (Al<|BW (AW (AB 11)<|AD AE)<|BW (AW (AJ (AB 12)<|AD AE)<|AD AE)<|BW (AW (AB 9)<|AD AE) Bt) h3<|AA (Ao (Al<|BW (AW (AB 11)<|AD AE)<|BW (AW (AJ (AB 12)<|AD AE)<|AD AE)<|BW (CL (A3<|AB 5)<|CL (AW (AJ (AB 10)<|GO 0<|GP k)<|AB 9) BU) Bt) h4<|AA (Ao (Al<|BW (AW (AB 11)<|AD AE)<|BW (AW (AJ (AB 12)<|AD AE)<|AD AE)<|BW (Iq<|A3<|AB 5)<|BW (AW (AB 9)<|AD AE)<|BW (CL (AW (GO 8<|GP k)<|AD AE)<|CL (AW (AB 10)<|GO 8<|GP k) BU) Bt) h5<|AA (Ao (Al<|AW (AB 11)<|AD AE) h6<|AA h7 AI) AI) AI) AI) AI) AI)<|AA h9 AI),?_⟩;rintro s ⟨_,a,d,m,o,c⟩ y b I R rfl hc;have aa:∀{M:MX},Mid w y (b+4) (M 1000<|plW w s<|xW w y o)->Good w (b+4) (Ag M (Ag M9 Ar) 1000<|plW w s<|xW w y o):=by
  intro M hh;refine bc fun J=>?_;obtain⟨s',U,e,I'⟩:=hh;exact J<|bc fun J=>gG I'.li.H.hsh fun l E e2=>J ⟨s',xW w y U,A5 e<|A5 (s9 s' y U l E e2<|Nat.lt_trans (I'.li.len<|(la1 0x60880800828000024a840201) R)<|by decide) rfl,I',rfl⟩
 have W:=ML _<|MK y;have D:s.held.length<=900:=by have:=I.li.len<|(la1 0x1822020020a00000928001) R;exact (la1 0x182202003ca0040e128001) this
 refine have I4:HG w s (b+4):=⟨I.li.mono<|la1 0x8210242010000,I.ho,I.hs,I.h4⟩;have T:=I.li.H.chk W (n:=1000) (by have:=I.li.QI;exact (la1 0x608808020280003e8a240211) this);have Q:∀ j:Nat,Aw .Eq (AM 11) (AP<|.int (j:Int)) (plW w s<|xW w y o)=some (decide<|y%7=j):=fun j=>DA rfl rfl<|Jn (y%7) j;have O:∀ j:Nat,Aw .Eq (Aj .Mod (AM 12)<|AP<|.int 3) (AP<|.int (j:Int)) (plW w s<|xW w y o)=some (decide<|y/168%3=j):=fun j=>DA (Bd rfl rfl<|BC (y/168) 3) rfl<|Jn _ j;have G:pTr (AM 5) (plW w s<|xW w y o)=some w.g:=ZX rfl;have N:Pz 8 (plW w s<|xW w y o)=some (.int (s.held.length:Nat)):=Ho<|dK D;HH (CN<|E6<|Bd rfl rfl<|BC y 7)<|HH (CN<|E6<|Bd (Bd rfl rfl<|Dm y 7) rfl<|BC _ 24)<|HH (CN<|E6<|Bd rfl rfl<|Dm y 168)<|HH (pl1:=plW w s<|xW w y o) (Su (E6<|Hn rfl) hc rfl)<|aa<|Hp (Dg<|El (DA rfl rfl<|Hx (y%7) 3)<|El (MG G<|MG (DA (Bd (z:=((s.used+1:Nat):Int)) rfl rfl rfl) rfl<|Hx _ s.room)<|MG (So (neg:=false) (x:=A0<|y/7%24) (l:=s.held) (FH) rfl) rfl) rfl) (fun F=>?_) fun _=>F9 ?_
 .obtain ⟨K,E,L⟩:=I.li.add W ((la1 0x1822020020a00000928001) R) fun G hm=>by
   simp only[G,hm,bV,Bool.or_eq_true,Bool.false_or,decide_eq_true_eq,decide_false,Bool.bne_false,Bool.or_false,Bool.and_true,Bool.false_bne]at F;simpa using F.2
  exact⟨_,o,s1 s y o K I.li.hf D E,L.mono<|la1 0x2084090804240200,I.ho,I.hs,I.h4⟩
 refine Hp (Dg<|MG (Q 4)<|MG (Q 5) rfl) (fun _=>?_) fun _=>F9 ?_
 .exact gG (I.li.rem W) fun K E L=>⟨_,o,s2 s y o K I.li.hf D E,L.mono<|la1 0x8210242010000,I.ho,I.hs,I.h4⟩
 refine Hp (Dg<|El (Q 6)<|El (O 0)<|El (DA rfl rfl<|Hx s.room 16) rfl) (fun F=>?_) fun _=>F9 ?_
 .have hr:s.room<16:=by simp only[bV,decide_eq_true_eq]at F;exact F.2.2.1
  exact bc fun J=>gG (I.li.Nv hr) fun K E L=>J ⟨_,o,s3 s y o K D E,L.mono<|la1 0x8210242010000,I.ho,I.hs,I.h4⟩
 refine Hp (Dg<|El (Q 6)<|El (O 1)<|El (MG G<|MG (DA (Bd (z:=((s.used+s.others.length:Nat):Int)) rfl (Ho<|by have:=I.h4;exact((la1 0x182202420000fa28001) this:s.others.length<=_)) rfl) rfl<|Hx _ s.room) rfl) rfl) (fun F=>?_) fun _=>F9 ?_
 .exact bc fun J=>gG I.ho.hsh fun l E p=>gG (I.Z8 R (fun G=>by simp[G]at F;exact F.2.2) p) fun K e2 L=>xE1 (s4 s y o K l I.li.hf I.hs (by have:=I.h4;have:=I.li.len<|(la1 0x1822020020a00000928001) R;exact (la2 0x382302003ca00508800384a200202) (by assumption) this) (by have:=I.h4;exact (la1 0x1822024200001028011) this) E p e2) fun U=>fun e3=>J ⟨_,U,e3,L⟩
 refine Hp (Dg<|El (Q 6)<|El (O 2)<|El (ZW G)<|El (DA rfl rfl<|Hx s.room 32)<|El (MG (DA N rfl<|Sv _ 8)<|MG (DA rfl N<|Jn s.used _) rfl) rfl) (fun F=>?_) fun _=>F9 ?_
 .simp only[bV,Bool.or_eq_true,Bool.not_eq_true',decide_eq_true_eq,Bool.or_false]at F;refine xP F (xA6 fun _ _ G _ hc _=>have P:LI false s.one s.held s.room s.used b:=G▸I.li;xP (P.ng rfl)<|xA3 fun n1 V n3=>?_);by_cases S:s.held.length<8
  .have Y:s.used=s.held.length:=by refine T1 hc (fun h=>?_) fun h=>?_;exact (la2 0x3610c0844108220440022) S h;exact h
   exact gG (P.Z6 S Y) fun K E L=>⟨_,o,s5 s y o K D V ((la2 0x3023020020840001) Y) fun _=>⟨Y,E⟩,iP S ⟨G▸L.mono (la1 0x8210242010000),I.ho,I.hs,I.h4⟩⟩
  .exact⟨_,o,s5 s y o s.one D V ((la3 0x1a0900880001040840002) V P.cl) fun h=>absurd h S,iN S I4⟩
 refine Hp (Dg<|Q 6) (fun _=>⟨s,o,s6 s y o I.li.hf T,I4⟩) fun _=>F9 ⟨s,o,s7 s y o I.li.hf T,I4⟩
end
theorem PW {P:Option (AF×PL)->Prop}(h:X n (AY pl i<|.v x)=some (.next,a)) (c:P<|fGo i X n b a):P (fGo i X n (x::b) pl):=rE (R9 h) c
theorem QK (j:∀(s:Ws) (x:Wx) (y b:Nat),HG w s b->b<=32->x.n=nV y->cellAt (some x.code)=some w.cc->Good w (b+4) (X 1000<|plW w s x)) :
  ∀(l:List Nat) (s:Ws) (x:Wx) (b:Nat),HG w s b->b+4*l.length<=36->cellAt (some x.code)=some w.cc->Good w 36 (fGo 2 X 1000 (AX l)<|plW w s x):=by
 intro l;induction l with
 |nil=>intro s x b h a d;exact⟨s,x,rfl,⟨h.li.mono<|(la2 0x304404004944023008000928001) a,h.ho,h.hs,h.h4⟩,d⟩
 |cons y r i=>
  intro s x b h a d;replace a:=cJ▸a;obtain⟨g,f,e,k,c⟩:=j s {x with n:=nV y} y b h ((la2 0xc1101001251221023008000828001) a) rfl d;exact PW (pl:=plW w s x) e<|i g f (b+4) k ((la2 0x6088080092891081180400049440234201201) a) c
theorem GY {k v:Nat}{a:PL}(h:AL a i=some (.lst<|AX l)) (c:k<900) (b:l[k]?=some v):Ek i (AP<|.int (k:Int)) a=some (.int (v:Int)):=by
 unfold Ek;refine rE h (iP c ?_:(if k<900 then(AX l)[k]? else none)=_);unfold AX;refine rE List.getElem?_map<|rE b ?_;rfl
theorem PY (h:AL a j=some .tab) (c:b n a=true):SY j b n a=some (.bool true,a):=by unfold SY;refine rE h ?_;dsimp only;exact iP c rfl
section
variable {Z:PX}(k:KF Z) (m:KI Z) (q:KJ Z) (t:KR Z) (d:KL Z) (j:KU Z) (g:KN Z) (b:KT Z) (c:KX Z) (i:KY Z) (w:Wc)
include k m q t d j g b c i
theorem s10:∃ M,Sx Z (cW vW2 w.cl w.f) (lS 10) M/\∀(s:Ws) (x:Wx),HG w s 0->w.nums.length<=11->cellAt (some x.code)=some w.cc->Good w 36 (M 1000<|plW w s x):=by
 refine bc fun l=>gG (VE k m q t d j g b c i w) fun X h o=>l ⟨_,(Ha 1 (SX true 3 rfl rfl rfl rfl) h<|by intro _ _;rfl),fun s x I a n=>?_⟩;have e:OE true 2 3 1000 (plW w s x)=some (AX<|w.nums.drop 2,plW w s x):=by
  show(if(AX w.nums).length<=1000 then some ((AX w.nums).drop 2,plW w s x)else none)=_;unfold AX;rw[cA<|by rw[b7];exact (la1 0x182202b20000fa28001) a,List.map_drop]
 exact rE (Hd e)<|QK o _ s x 0 I (rE List.length_drop<|(la2 0x45879c114148880156440001250008c0a02) a rfl) n
theorem s11:∃ M,Sx Z (cW vW2 w.cl w.f) (lS 11) M/\∀(s:Ws) (x:Wx) (v:Nat),HG w s 36->w.nums[1]?=some v->∃ a,M 1000 (plW w s x)=some (.next,plW w s {x with at_:=a}):=by
 refine⟨_,(Ha 6 (OL (Fl k) (AJ (EM 3<|AD AE)<|AD AE) rfl) (AA (Ao (FO (CX 16 k.Ds (DY k) (Sa rfl)<|AN (EJ d (Be d.GR) (AB 7)<|Sa rfl) Aa)<|Ac<|PJ (neg:=false) 8 rfl rfl rfl rfl<|EJ d (Be d.GR) (AB 7)<|Sa rfl) (AA (CC<|Ac<|AD Bf) AI) AI) AI)<|by intro _ _;rfl),fun s x v I B=>?_⟩;have C:∀(x:Wx) (y:Nat),y<24->x.at_=nV y->Ag (mIf (Gl .NotEq (GV w.cl (Str.ofString "one") 16 (cQ EV)<|Ai (EI<|AM 7) BY)<|up<|P9 false (EI<|AM 7) 8) (Ag (It<|up<|AP<|.bool false) Ar) Ar) Ar 1000 (plW w s x)=some (.next,plW w s x):=by
  rintro⟨L,_,K,J,G,F⟩ y A rfl;refine A5 (Cs (p:=false) (Hm (DB (S':=s.one) rfl rfl (D0<|Hn rfl)<|HF.trans<|I.li.H.chk (ML y A) (n:=1000)<|by have:=I.li.QI;exact (la1 0x608808020280003e8a240211) this) (E6<|Sq (neg:=false) (l:=s.held) (Hn rfl) rfl)<|rE (Bool.false_bne ..) ?_) (fun h=>nomatch h) fun _=>rfl) rfl;show some (_ != _)=_;exact rE (bne_self_eq_false ..) rfl
 have u:∀(n a:Nat) (x:Wx),a+2*n<=25->∃ o,fGo 7 (Ag (mIf (Gl .NotEq (GV w.cl (Str.ofString "one") 16 (cQ EV)<|Ai (EI<|AM 7) BY)<|up<|P9 false (EI<|AM 7) 8) (Ag (It<|up<|AP<|.bool false) Ar) Ar) Ar) 1000 (Ff 2 (a:Int) n) (plW w s x)=some (.next,plW w s {x with at_:=o}):=by
  intro n;induction n with
  |zero=>intro a x _;exact⟨x.at_,rfl⟩
  |succ n z=>
   exact fun a x h=>xE1 (z (a+2) {x with at_:=nV a}<|(la2 0x6088080066891080980400033440132201201) h) fun o=>fun e=>⟨o,PW (pl:=plW w s x) (P:=fun r=>r=_) (C {x with at_:=nV a} a ((la2 0xc1101000cd1221013008000628011) h) rfl) e⟩
 have e:MD (Aj .Mod (Ek 3<|AP<|.int 1)<|AP<|.int 2) 1000 (plW w s x)=some (Ff 2 ((v%2:Nat):Int) 12,plW w s x):=by
  unfold MD;refine rE (Bd (GY (k:=1) (l:=w.nums) rfl (by decide) B) rfl<|BC v 2) (rE (Ti<|bR _<|by decide) ?_:(bif decide (v%2<2)then _ else _)=_);rfl
 exact xE1 (u 12 (v%2) x<|by have:=bR v (y:=2) (by decide);exact (la3 0x60240202200045800cdc204c0201)<|dmk (v) 2) fun o=>fun D=>⟨o,(Hd e).trans D⟩
theorem s12:∃ M,Sx Z (cW vW2 w.cl w.f) (lS 12) M/\∀(s:Ws) (x:Wx),HG w s 36->M 1000 (plW w s x)=some (.next,plW w s x):=by
 refine⟨_,(Ao (KV (LD<|FQ<|MA 18 (PR _ 16) (Dz (n:=28) b c (Be b.NG) (by intro _;rfl) (by intro _;rfl) (by intro _ _ _;rfl) (fun _ _=>HE) (fun _ _=>Xw k m q d j g b c i rfl rfl rfl rfl rfl<|by decide)<|Sa rfl) Xx)<|KV (Hi 8 (fun _=>DN b.Jl rfl (.bi _) rfl rfl rfl) (Jj 16 k.EA (Dk k) (Sa rfl) rfl rfl rfl rfl Aa rfl rfl) rfl rfl rfl rfl rfl<|Sa rfl)<|Al BU) (AA (CC<|Ac<|AD Bf) AI) AI),fun s x I=>bc fun a=>gG I.li.H.hsh fun l e p=>a<|Cs (p:=false) ((Ky<|MH (p:=true)<|Sl<|PY rfl ?_).trans<|(Ky<|Jo (NI (S':=s.one) rfl rfl rfl<|OO e) rfl p<|Nat.lt_trans (I.li.len<|by decide)<|by decide).trans rfl) (fun h=>nomatch h) fun _=>rfl⟩;unfold PR;show(List.lookup _ _==some w.co&&s.one.hf==485)=true;exact rE I.li.hf<|rE (show List.lookup _ _=some w.co from rfl)<|rE (cI ..)<|rE (cI ..) rfl
theorem s13:∃ M,Sx Z (cW vW2 w.cl w.f) (lS 13) M/\∀(s:Ws) (x:Wx),M 1000 (plW w s x)=some (.next,plW w s x):=⟨_,(Ao (KV (LD<|FQ<|MA 18 (fun _ _=>true) (Dz (n:=28) b c (Be b.NG) (by intro _;rfl) (by intro _;rfl) (by intro _ _ _;rfl) (fun _ _=>HE) (fun _ _=>PO g c i rfl rfl<|by decide)<|Sa rfl) fun a _ e=>PQ (.inl rfl) a e)<|KV (LD<|FQ<|MA 18 (fun _ _=>true) (Dz (n:=28) b c (Be b.NG) (by intro _;rfl) (by intro _;rfl) (by intro _ _ _;rfl) (fun _ _=>HE) (fun _ _=>PO g c i rfl rfl<|by decide)<|Sa rfl) fun a _ e=>PQ (.inr rfl) a e)<|Al BU) (AA (CC<|Ac<|AD Bf) AI) AI),fun s x=>Cs (p:=false) ((Ky<|MH (p:=true)<|Sl<|PY rfl rfl).trans<|(Ky<|MH (p:=true)<|Sl<|PY rfl rfl).trans rfl) (fun h=>nomatch h) fun _=>rfl⟩
end
def Bp (b:Bool) (m a:Nat):Nat:=A0<|(bif b then m+a/3*5+a%3*8 else m+a*5)%24
theorem K0 (b:Bool) (m a:Nat):Bp b (m%24) a=Bp b m a:=by
 unfold Bp;induction b with
 |false=>exact cT A0<|Nat.mod_add_mod m 24<|a*5
 |true=>
  refine cT A0 ?_;show(m%24+a/3*5+a%3*8)%24=(m+a/3*5+a%3*8)%24;rewrite [Nat.add_assoc,Nat.mod_add_mod,Nat.add_assoc];rfl
noncomputable def Jp:List Nat->QS->Option QS
 | [],S=>some S
 |h::r,S=>match Dd 1000 S [h]with
  |some (.v _,a)=>Jp r a
  |_=>none
noncomputable def isB (o:Option<|AV×QS) (b:Bool):Bool:=match o with
 |some (.v<|.bool c,_)=>c==b
 |_=>false
def CY (b:Bool) (m:Nat):List Nat:=[Bp b m 0,Bp b m 1,Bp b m 2,Bp b m 3,Bp b m 4,Bp b m 5,Bp b m 6,Bp b m 7]
def Sy (S:QS) (h:Nat):Bool:=!S.due&&decide (S.hq h<S.n/\S.n<=1000)&&(cal S 1000 (S.hq h) (S.hr h)==some (-1))&&S.n==S.cnt
noncomputable def smG (A:Option QS) (F:QS->Option QS) (G:QS->Bool):Bool:=match A with
 |some S=>(match F S with|some S=>G S|none=>false)
 |none=>false
def YH (b:Bool) (m:Nat):Bool:=smG (Jp (CY b m)<|QS.new 3 false 485) (fun S=>Jp [Bp b m 3] S) fun S=>Sy S (Bp b m 8)&&isB (EV 1000 S [Bp b m 8]) false&&(CY b m).all fun h=>isB (EV 1000 S [h]) true
theorem QL:∀ b:Bool,∀ m<24,YH b m=true:=by decide +kernel
theorem Sz {S:QS}(e:EV n S [h]=some (a,b)):b=S:=by
 unfold EV at e;dsimp only at e;split at e
 .split at e
  .refine BH e ?_;rfl
  .exact xns e
 .exact xns e
theorem mv1029 {f:Bool->QS->Bool}{g:Prop}(e:(match d with|some (AV.v<|MV.bool b,a)=>f b a|_=>false)=true) (l:∀ b a,d=some (AV.v<|MV.bool b,a)->f b a=true->g):g:=by
 generalize h:d=c at e;revert e h;exact Option.casesOn c (fun _=>xft) fun k=>Prod.casesOn k fun j n=>AV.casesOn j (fun i=>MV.casesOn i (fun _=>xft) (fun m=>l _ _) (fun _ _=>xft) (fun _ _=>xft) (fun _ _=>xft) (fun _ _=>xft) fun _ _=>xft) (fun _ _=>xft) (fun _ _ _=>xft) (fun _ _ _=>xft) (fun _ _ _=>xft) (fun _ _=>xft) (fun _ _=>xft) (fun _ _ _=>xft) fun _=>xft
theorem V3 (e:isB (EV n S [h]) b=true):EV n S [h]=some (.v<|.bool b,S):=by
 unfold isB at e;refine mv1029 e ?_
 .intro c d a e;rw[cD.mp e,Sz a]at a;exact a
theorem YI (h:smG A F G=true):∃ b a,A=some b/\F b=some a/\G a=true:=by
 induction A with
 |none=>exact xft h
 |some S=>
  have h:(match F S with|some S=>G S|none=>false)=true:=h;refine oE (F S) (fun e=>?_) fun a e=>?_
  .rw [e]at h;exact xft h
  .rw [e]at h;exact⟨S,a,rfl,e,h⟩
theorem S0 (b:Bool) (m:Nat) (f:m<24):∃ c a,Jp (CY b m) (QS.new 3 false 485)=some c/\Jp [Bp b m 3] c=some a/\Sy a (Bp b m 8)=true/\EV 1000 a [Bp b m 8]=some (.v<|.bool false,a)/\∀ h∈CY b m,EV 1000 a [h]=some (.v<|.bool true,a):=xE2 (YI<|QL b m f) fun c a=>xA3 fun n l k=>xP (bN.mp k)<|xA2 fun d g=>xP (bN.mp d)<|xA2 fun j i=>⟨c,a,n,l,j,V3 i,fun x e=>V3<|List.all_eq_true.mp g x e⟩
abbrev plE (w:Wc) (s:Ws) (x:Wx) (e m:AV):PL:=[some<|.lst<|AX s.others,some<|.v w.sc,x.n,some<|.lst<|AX w.nums,some<|.v<|.str OM,some<|.v<|.bool w.g,some<|.qf s.second,x.at_,some<|.lst<|AX s.held,some<|.v<|.int s.room,some<|.v<|.int s.used,x.YF,x.more,x.other,
 some x.code,some e,some<|.cel w.co<|.qf s.one,some m,some .tab]
abbrev eL (w:Wc) (l:List Nat):AV:=.cel w.ce<|.lst<|AX l
noncomputable abbrev mQ (w:Wc) (S:QS):AV:=.cel w.cs<|.qf S
theorem S4 {i h:Nat}(g:AL b i=some (.cel a<|.lst<|AX l)) (j:c.lookup y=some a) (e:f b=some (.int (h:Int))) (d:l.length<=900):Kt c y i f n b=some (.none,AY b i<|.cel a<|.lst<|AX<|l++[h]):=by
 unfold Kt;refine rE g<|rE e ?_;dsimp only;rw[cA ⟨j,by unfold AX;rw[b7];exact d⟩];unfold AX;exact rE List.map_append rfl
theorem S6 {k v:Nat}(h:AL c i=some (.cel a<|.lst<|AX l)) (f:b.lookup y=some a) (e:k<900) (d:l[k]?=some v):PK b y i (AP<|.int (k:Int)) c=some (.int (v:Int)):=by
 unfold PK;refine rE h (iP ⟨f,e⟩ ?_:(if b.lookup y=some a/\k<900 then(AX l)[k]? else none)=_);unfold AX;refine rE List.getElem?_map<|rE d ?_;rfl
theorem MM (h:M n c=some (a,pl')) (e:cellAt (AL pl' i)=some b) (f:d.lookup y=some b):Lw d y i M n c=some (.next,AY pl' i<|.cel b a):=by
 unfold Lw;refine rE h ?_;dsimp only;unfold setC;refine rE e ?_;dsimp only;exact iP f rfl
theorem PZ (x y:Nat)(h:autoParam (y<2^64) dc):DH .Mult (x:Int) (y:Int)=some ((x*y:Nat):Int):=by
 show(if _ then some ((x:Int)*y)else none)=_;rw[cA<|.inr<|by rw[Int.natAbs_natCast];exact h,c8]
theorem mv1030 {f:Type}{h:MV->QS->Option f}{r:f}{g:Prop}(e:(match d with|some (AV.v b,a)=>h b a|_=>none)=some r) (l:∀ b a,d=some (AV.v b,a)->h b a=some r->g):g:=by
 generalize i:d=c at e;revert e i;exact Option.casesOn c (fun _=>xns) fun k=>Prod.casesOn k fun j n=>AV.casesOn j (fun m=>l _ _) (fun _ _=>xns) (fun _ _ _=>xns) (fun _ _ _=>xns) (fun _ _ _=>xns) (fun _ _=>xns) (fun _ _=>xns) (fun _ _ _=>xns) fun _=>xns
theorem S7 (n:∀(x:Wx) (S c:QS) (h:Nat) (m:MV),x.code=.cel w.cc (.v<|.int (h:Int))->Dd 1000 S [h]=some (.v m,c)->X 1000 (plE w s x e<|mQ w S)=some (.next,plE w s x e<|mQ w c)) :
  ∀(l:List Nat) (x:Wx) (S c:QS),cellAt (some x.code)=some w.cc->Jp l S=some c->∃ d,IH (fun y g=>setC w.cl (Str.ofString "code") 14 (.v y) g) (fun g=>g) X 1000 (AX l) (plE w s x e<|mQ w S)=some (.next,plE w s d e<|mQ w c)/\cellAt (some d.code)=some w.cc:=by
 intro l;induction l with
 |nil=>intro x S c i h;(have z:=so h;clear h;subst z);exact⟨x,rfl,i⟩
 |cons y r k=>
  intro x S c i h;conv at h=>lhs;whnf
  refine mv1030 h ?_
  .refine fun m j t h=>gG (k {x with code:=.cel w.cc (.v<|.int (y:Int))} j c rfl h) fun d q o=>⟨d,?_,o⟩;have p:setC w.cl (Str.ofString "code") 14 (.v<|.int (y:Int)) (plE w s x e<|mQ w S)=some (plE w s {x with code:=.cel w.cc (.v<|.int (y:Int))} e<|mQ w S):=by
    unfold setC;refine rE (show cellAt (AL (plE w s x e<|mQ w S) 14)=some w.cc from i) ?_;dsimp only;exact iP (show List.lookup _ _=some w.cc from rfl) rfl
   show(match setC w.cl (Str.ofString "code") 14 (.v<|.int (y:Int)) (plE w s x e<|mQ w S)with|some f=>(match X 1000 f with|some (.next,b)=>IH _ _ X 1000 (AX r) b|some (.cont,b)=>IH _ _ X 1000 (AX r) b|some (.brk,b)=>some (.next,b)|some (.ret a,b)=>some (.ret a,b)|none=>none)|none=>none)=_;refine rE p ?_;dsimp only;exact rE (n {x with code:=.cel w.cc (.v<|.int (y:Int))} S j y m rfl t) q
theorem S8 :∀(l:List Nat),(∀ y∈l,T (.int (y:Int)) n a=some (false,a))->cGo T some n (AX l) [] a=some ([],a):=by
 intro l;induction l with
 |nil=>intro _;rfl
 |cons y r b=>
  intro h;show(T (.int (y:Int)) n a).bind _=_;exact rE (h y<|.head _)<|b fun z c=>h z<|.tail _ c
theorem OP (b:Bool) (m:Nat):CY b (m%24)=CY b m:=by unfold CY;simp only[K0]
noncomputable def VF (o:Option<|AF×PL):Prop:=∃ a,o=some (.ret<|.v<|.bool true,a)/\AL a 18=some .tab
theorem DT (d:X n b=some (.next,a)) (c:VF<|Y n a):VF (Ag X Y n b):=rE (AK d) c
theorem VG (h:M n b=some (.lst [],a)):It (MC M) n b=some (.ret<|.v<|.bool true,a):=by
 unfold It MC;exact rE h rfl
theorem QM {h:Nat}(e:Jp [h] S=some a):∃ m,Dd 1000 S [h]=some (.v m,a):=by
 conv at e=>lhs;whnf
 exact mv1030 e fun m c b e=>soE e ⟨m,b⟩
theorem S9 (c:∀(x:Wx) (a:Nat) (l:List Nat),x.at_=nV a->l.length<=900->X 1000 (plE w s x (eL w l) m)=some (.next,plE w s x (eL w<|l++[f a]) m)) :
  ∀(n a:Nat) (l:List Nat) (x:Wx),l.length+n<=900->∃ o,fGo 7 X 1000 (Ff 1 (a:Int) n) (plE w s x (eL w l) m)=some (.next,plE w s {x with at_:=o} (eL w<|l++(List.range' a n).map f) m):=by
 intro n;induction n with
 |zero=>intro a l x _;exact⟨x.at_,by refine rE List.range'_zero<|rE List.map_nil<|rE (cb ..) ?_;rfl⟩
 |succ n b=>
  refine fun a l x h=>xE1 (b (a+1) (l++[f a]) {x with at_:=nV a}<|rE cE<|rE List.length_singleton<|eP h) fun o=>fun e=>⟨o,PW (pl:=plE w s x (eL w l) m) (P:=fun r=>r=_) (c {x with at_:=nV a} a l rfl<|eF h)<|e.trans<|rE List.range'_succ<|rE List.map_cons<|rE (c6 ..) ?_⟩;rfl
section
variable {Z:PX}(k:KF Z) (g:KI Z) (i:KJ Z) (j:KR Z) (c:KL Z) (u:KU Z) (q:KN Z) (d:KT Z) (r:KX Z) (t:KY Z) (w:Wc)
include k g i j c u q d r t
theorem s14:∃ M,Bx Z (cW vW2 w.cl w.f) ((BO<|top 16).drop 14) M/\∀(s:Ws) (x:Wx) (A z:Nat),w.nums[0]?=some A->w.nums[1]?=some z->cellAt (some x.code)=some w.cc->VF (M 1000<|plW w s x):=by
 refine⟨_,(AA (Ji 17 rfl rfl (Lr k g i q (Mw q rfl rfl) (AD AE) (AD Bf) (AD<|Be d.OG) rfl rfl rfl<|Sa rfl) rfl)<|AA (Ji 15 rfl rfl (Et Aa) rfl)<|AA (Ha 6 (Hb (Fl k) (AD AE) rfl) (AA (Ao (Al<|AW (AJ (EM 3<|AD AE)<|AD AE)<|AD AE) (AA (Ax<|PH 15 rfl rfl rfl (EJ c (Be c.GR) (AJ (AJ (AJ (EM 3<|AD AE)<|AJ (AJ (AB 7)<|AD AE)<|AD AE)<|AJ (AJ (AB 7)<|AD AE)<|AD AE)<|AD AE)<|Sa rfl) rfl rfl) AI)<|AA (Ax<|PH 15 rfl rfl rfl (EJ c (Be c.GR) (AJ (AJ (EM 3<|AD AE)<|AJ (AB 7)<|AD AE)<|AD AE)<|Sa rfl) rfl rfl) AI) AI)<|by intro _ _;rfl)<|AA (Lh (Xr 14 rfl rfl) ((Ku false 15 rfl rfl rfl)).two (AA (Ax<|CX 17 k.DX (Dl k g i j) (Sa rfl)<|AN (DL 14) Aa) AI)<|by intro _ _;rfl)<|AA (Ax<|CX 17 k.DX (Dl k g i j) (Sa rfl)<|AN (PM 15 rfl rfl rfl (AD AE) rfl) Aa)<|AA (Ao (KV (LD<|FQ<|MA 18 (Se _ 17 15) (Dz (n:=28) d r (Be d.NG) (by intro _;rfl) (by intro _;rfl) (by intro _ _ _;rfl) (fun _ _=>HE) (fun _ _=>Xy k r t rfl rfl rfl rfl<|by decide)<|Sa rfl) Xz)<|KV (FQ<|CX 17 k.Ds (DY k) (Sa rfl)<|AN (PM 15 rfl rfl rfl (AD AE) rfl) Aa)<|Al BU) (AA (CC<|Ac<|AD Bf) AI) AI)<|AA (CC<|Sf (U8 (Ku false 15 rfl rfl rfl) (VA 17 rfl rfl rfl rfl (by intro _ _;rfl) k.Ds (DY k) (Sa rfl) rfl rfl) (PT rfl rfl rfl) rfl rfl (by decide) (by intro _;rfl) (by decide)<|by intro _ _;rfl)<|Sa rfl) AI),fun s x A z h0 h1 hc=>bc fun J=>xE2 (S0 (decide<|A%4<2) (z%24)<|bR _<|by decide) fun S1 B=>xA5 fun X E W V U=>J ?_⟩;simp only[K0,OP]at X E W V U;refine xE1 (QM E) fun m2=>fun E=>DT (MM (M:=Kr _ _ _) (pl':=plW w s x) (a:=.qf<|QS.new 3 false 485) (b:=w.cs) ?_ rfl rfl) ?_
 .exact (cA (by decide):(if 3<=3/\3<=9 then some (AV.qf<|QS.new 3 false 485,plW w s x)else none)=_)
 refine DT (MM (M:=Td _) (pl':=plE w s x (.B5 w.ce)<|mQ w<|QS.new 3 false 485) (a:=.lst<|AX []) (b:=w.ce) rfl rfl rfl) ?_;have hX:∀(x:Wx) (a:Nat) (l:List Nat),x.at_=nV a->l.length<=900->(Ag (mIf (upB<|Aw .Lt (Aj .Mod (Ek 3<|AP<|.int 0)<|AP<|.int 4)<|AP<|.int 2)
   (Ag (C4<|Kt w.cl (Str.ofString "eight") 15<|EI<|Aj .Mod (Aj .Add (Aj .Add (Ek 3<|AP<|.int 1)<|Aj .Mult (Aj .FloorDiv (AM 7)<|AP<|.int 3)<|AP<|.int 5)<|Aj .Mult (Aj .Mod (AM 7)<|AP<|.int 3)<|AP<|.int 8)<|AP<|.int 24) Ar)
   (Ag (C4<|Kt w.cl (Str.ofString "eight") 15<|EI<|Aj .Mod (Aj .Add (Ek 3<|AP<|.int 1)<|Aj .Mult (AM 7)<|AP<|.int 5)<|AP<|.int 24) Ar)) Ar) 1000 (plE w s x (eL w l)<|mQ w<|QS.new 3 false 485)=some (.next,plE w s x (eL w<|l++[Bp (decide<|A%4<2) z a])<|mQ w<|QS.new 3 false 485):=by
  rintro⟨T,_,R,Q,P,b6⟩ a l G O;subst G;have N:Ek 3 (AP<|.int 1) (plE w s ⟨T,nV a,R,Q,P,b6⟩ (eL w l)<|mQ w<|QS.new 3 false 485)=some (.int (z:Int)):=GY (k:=1) (l:=w.nums) rfl (by decide) h1;refine A5 (Cs (Dg<|DA (Bd (GY (k:=0) (l:=w.nums) rfl (by decide) h0) rfl<|BC A 4) rfl<|Hx (A%4) 2) (fun K=>?_) fun K=>?_) rfl
  .exact rE K<|A5 (A6<|S4 (h:=Bp true z a) rfl rfl (Hn<|Bd (Bd (Bd N (Bd (Bd rfl rfl<|Dm a 3) rfl<|PZ _ 5) rfl) (Bd (Bd rfl rfl<|BC a 3) rfl<|PZ _ 8) rfl) rfl<|BC _ 24) O) rfl
  .exact rE K<|A5 (A6<|S4 (h:=Bp false z a) rfl rfl (Hn<|Bd (Bd N (Bd rfl rfl<|PZ a 5) rfl) rfl<|BC _ 24) O) rfl
 refine xE1 (S9 hX 9 0 [] x<|by decide) fun o=>fun e1=>DT ((Hd (xs:=Ff 1 ((0:Nat):Int) 9) ?_).trans e1) ?_
 .exact (cA (by decide):(if Jw 0 9 then _ else none)=_)
 have L:∀(x:Wx) (S D:QS) (h:Nat) (m:MV),x.code=.cel w.cc (.v<|.int (h:Int))->Dd 1000 S [h]=some (.v m,D)->
   (Ag (C4<|GV w.cl (Str.ofString "small") 17 (cQ Dd)<|Ai (IJ w.cl (Str.ofString "code") 14) BY) Ar) 1000 (plE w s x (eL w<|CY (decide<|A%4<2) z++[Bp (decide<|A%4<2) z 8])<|mQ w S)=some (.next,plE w s x (eL w<|CY (decide<|A%4<2) z++[Bp (decide<|A%4<2) z 8])<|mQ w D):=by
  rintro⟨T,b2,R,Q,P,_⟩ S D h m F e;subst F;exact A5 (A6<|DB rfl rfl (D0<|FH)<|HF.trans e) rfl
 refine bc fun J=>gG (S7 L (CY (decide<|A%4<2) z) {x with at_:=o} (QS.new 3 false 485) S1 hc X) fun H e2 aa=>J ?_;have C:∀(x:Wx) (m:AV),Ia w.cl (Str.ofString "eight") false 8 15 1000 (plE w s x (eL w<|CY (decide<|A%4<2) z++[Bp (decide<|A%4<2) z 8]) m)=some (AX<|CY (decide<|A%4<2) z,plE w s x (eL w<|CY (decide<|A%4<2) z++[Bp (decide<|A%4<2) z 8]) m):=fun x m=>by
  show(if _ then _ else none)=_;exact cA ⟨rfl,Sa rfl⟩
 refine DT ((Sw<|C _ _).trans e2)<|DT (A6<|DB rfl rfl (D0<|S6 (k:=3) (v:=Bp (decide<|A%4<2) z 3) rfl rfl (by decide) rfl)<|HF.trans E)<|DT (Cs (p:=false) ((Ky<|MH (p:=true)<|Sl<|PY rfl ?_).trans<|(Ky<|Sl<|DB (S':=B) rfl rfl (D0<|S6 (k:=8) (v:=Bp (decide<|A%4<2) z 8) rfl rfl (by decide) rfl)<|HF.trans V).trans rfl) (fun h=>nomatch h) fun _=>rfl) ?_
 .show (List.lookup _ _==some w.cs&&List.lookup _ _==some w.ce&&!B.due&&decide (B.hq (Bp (decide<|A%4<2) z 8)<B.n/\B.n<=1000)&&(cal B 1000 (B.hq<|Bp (decide<|A%4<2) z 8) (B.hr<|Bp (decide<|A%4<2) z 8)==some (-1))&&B.n==B.cnt)=true;refine rE (show List.lookup _ _=some w.cs from rfl)<|rE (show List.lookup _ _=some w.ce from rfl)<|rE (cI ..)<|rE (cI ..) ?_;rw[Bool.true_and,Bool.true_and];exact W
 refine⟨plE w s H (eL w<|CY (decide<|A%4<2) z++[Bp (decide<|A%4<2) z 8])<|mQ w B,Ci<|VG ?_,rfl⟩;have e3:Jm (Ia w.cl (Str.ofString "eight") false 8 15) (PU [(Str.ofString "small",w.cs)] (Str.ofString "small") 17<|cQ EV) some 1000 (plE w s H (eL w<|CY (decide<|A%4<2) z++[Bp (decide<|A%4<2) z 8])<|mQ w B)=some (.lst [],plE w s H (eL w<|CY (decide<|A%4<2) z++[Bp (decide<|A%4<2) z 8])<|mQ w B):=by
  unfold Jm;refine rE (C ..) ?_;show(cGo _ some 1000 (AX<|CY (decide<|A%4<2) z) [] _).map _=_;rw[S8 _ fun y Y=>?_]
  .rfl
  .unfold PU;exact rE (Ie (as:=[.int (y:Int)]) (S':=B) rfl rfl rfl<|HF.trans<|U y Y) rfl
 exact e3
end
abbrev plI (w:Wc):PL:=[some<|.v w.sc,none,none,some<|.lst<|AX w.nums,none,none,none,none,none,none,none,none,none,none,some<|.B5 w.cc,some<|.B5 w.ce,some<|.B5 w.co,some<|.B5 w.cs,some .tab]
abbrev plO (w:Wc) (T:QS) (o:List Nat) (a:Option AV) (c:AV):PL:=[some<|.v w.sc,some<|.lst<|AX o,none,some<|.lst<|AX w.nums,some<|.v<|.str OM,some<|.v<|.bool w.g,some<|.qf T,a,none,none,none,none,none,none,some c,some<|.B5 w.ce,some<|.cel w.co<|.qf<|QS.new 3 w.g 485,some<|.B5 w.cs,some .tab]
abbrev plP (w:Wc) (s:Ws) (x:Wx):PL:=[some<|.v w.sc,some<|.lst<|AX s.others,x.n,some<|.lst<|AX w.nums,some<|.v<|.str OM,some<|.v<|.bool w.g,some<|.qf s.second,x.at_,some<|.lst<|AX s.held,some<|.v<|.int s.room,some<|.v<|.int s.used,x.YF,x.more,x.other,
 some x.code,some<|.B5 w.ce,some<|.cel w.co<|.qf s.one,some<|.B5 w.cs,some .tab]
theorem LI.start (g:Bool):LI g (QS.new 3 g 485) [] 8 0 0:=
 ⟨CS.new ⟨by decide,by decide⟩,rfl,rfl,To _,by show 1<=2^3;decide,.inl rfl,fun _=>⟨rfl,rfl,by decide⟩,fun _=>⟨by show 0<2^3;decide,by show 100*0<85*2^3+100;decide,To _,by show 3<=5+8/8;decide⟩⟩
theorem VH (h:f a=some (.int (v:Int))) (b:v<1000):JX f n a=some (Ff 1 ((0:Nat):Int) v,a):=by
 unfold JX;refine rE h (iP ⟨by decide,k62 _,j62<|bW (cK b)<|by decide⟩ (rE (cL ..) ?_):(if Jw 0 (v:Int)then some (Fi 0 (v:Int).toNat,a)else none)=_);rfl
def KC (c b a:Nat):Nat:=A0<|(b+a*(c/10%23+1))%24
section
variable {Z:PX}(k:KF Z) (i:KI Z) (j:KJ Z) (t:KR Z) (q:KL Z) (u:KU Z) (d:KN Z) (p:KT Z) (B:KX Z) (A:KY Z) (w:Wc)
include k i j t q u d p B A
theorem s1:∃ M,Bx Z (cW vW1 w.cl w.f) (((BO<|top 16).take 10).drop 1) M/\∀ v0 v1,w.nums[0]?=some v0->w.nums[1]?=some v1->w.g=decide (v0%2=1)->∃ s x,M 1000 (plI w)=some (.next,plP w s x)/\HG w s 0/\cellAt (some x.code)=some w.cc:=by
 refine⟨_,(AA (Ab 3<|Ac<|AD E2)<|AA (Ab 4<|Ac<|EP (AJ (EM 3<|AD AE)<|AD AE)<|AD AE)<|AA (Ji 16 rfl rfl (Lr k i j d (Mw d rfl rfl) (AD AE) (AB 5) (AD<|Be p.OG) rfl rfl rfl<|Sa rfl) rfl)<|AA (Fs 5<|Lr k i j d (Mw d rfl rfl) (AD AE) (AD Bf) (AD<|Be p.OG) rfl rfl rfl<|Sa rfl)<|AA (Fs 0<|Et Aa)<|AA (Ha 6 (Hb (Fl k) (AJ (AJ (EM 3<|AD AE)<|AD AE)<|AD AE) rfl) (AA (PF 14 rfl rfl (Ac<|EJ q (Be q.GR) (AJ (AJ (EM 3<|AD AE)<|AJ (AB 7)<|AJ (AJ (AJ (EM 3<|AD AE)<|AD AE)<|AD AE)<|AD AE)<|AD AE)<|Sa rfl) rfl)<|AA (Ax<|BF 6 k.DX (Dl k i j t) (AN (DL 14) Aa)<|Sa rfl)<|AA (Ao (Al<|PI (neg:=true) 1 rfl rfl rfl rfl<|DL 14) (AA (Ax<|JD 1<|DL 14) AI) AI) AI)<|by intro _ _;rfl)<|AA (Fs 7<|Et Aa)<|AA (Ab 8<|Ac<|AD AE)<|AA (Ab 9<|Ac<|AD AE) AI),fun v0 v1 h0 h1 hg=>?_⟩;have hX:∀(T T':QS) (o:List Nat) (a:Nat) (c:AV),cellAt (some c)=some w.cc->o.length<=900->Dd 1000 T [KC v0 v1 a]=some (.v .none,T')->
   (Ag (Ks w.cl (Str.ofString "code") 14<|up<|EI<|Aj .Mod (Aj .Add (Ek 3<|AP<|.int 1)<|Aj .Mult (AM 7)<|Aj .Add (Aj .Mod (Aj .FloorDiv (Ek 3<|AP<|.int 0)<|AP<|.int 10)<|AP<|.int 23)<|AP<|.int 1)<|AP<|.int 24)
    (Ag (C4<|C6 6 (cQ Dd)<|Ai (IJ w.cl (Str.ofString "code") 14) BY)<|Ag (mIf (upB<|pIn true (IJ w.cl (Str.ofString "code") 14) 1) (Ag (C4<|JC 1<|IJ w.cl (Str.ofString "code") 14) Ar) Ar) Ar)) 1000 (plO w T o (nV a) c)=some (.next,plO w T' (BB o<|KC v0 v1 a) (nV a)<|.cel w.cc<|.v<|.int (KC v0 v1 a:Nat)):=by
  refine fun T T' o a c hc hl e=>A5 (Su (a:=.int (KC v0 v1 a:Nat)) (E6<|Hn<|Bd (Bd (GY (k:=1) (l:=w.nums) rfl (by decide) h1) (Bd rfl (Bd (z:=((v0/10%23+1:Nat):Int)) (Bd (Bd (GY (k:=0) (l:=w.nums) rfl (by decide) h0) rfl<|Dm v0 10) rfl<|BC _ 23) rfl rfl)<|PZ a (v0/10%23+1)<|o30 v0) rfl) rfl<|BC (v1+a*(v0/10%23+1)) 24) hc rfl)<|A5 (A6<|BI rfl (D0<|FH)<|HF.trans e)<|A5 (Cs (Dg<|So (FH) rfl) (fun hm=>?_) fun hm=>?_) rfl
  .have hm:KC v0 v1 a∉o:=by simpa using hm
   exact rE (EN hm)<|A5 (A6<|Sr rfl (FH) hl) rfl
  .have hm:KC v0 v1 a∈o:=by simpa using hm
   exact rE (E7 hm) rfl
 generalize hY:(Ag (Ks w.cl (Str.ofString "code") 14<|up<|EI<|Aj .Mod (Aj .Add (Ek 3<|AP<|.int 1)<|Aj .Mult (AM 7)<|Aj .Add (Aj .Mod (Aj .FloorDiv (Ek 3<|AP<|.int 0)<|AP<|.int 10)<|AP<|.int 23)<|AP<|.int 1)<|AP<|.int 24)
    (Ag (C4<|C6 6 (cQ Dd)<|Ai (IJ w.cl (Str.ofString "code") 14) BY)<|Ag (mIf (upB<|pIn true (IJ w.cl (Str.ofString "code") 14) 1) (Ag (C4<|JC 1<|IJ w.cl (Str.ofString "code") 14) Ar) Ar) Ar))=Y at hX
 have lp:∀(n a:Nat) (T:QS) (o:List Nat) (x:Option AV) (c:AV) (b:Nat),LI true T o 8 0 b->b+n<=4->o.length<=b->cellAt (some c)=some w.cc->
   ∃ T' o' x' c',fGo 7 Y 1000 (Ff 1 (a:Int) n) (plO w T o x c)=some (.next,plO w T' o' x' c')/\LI true T' o' 8 0 4/\o'.length<=4/\cellAt (some c')=some w.cc:=by
  intro n;induction n with
  |zero=>intro a T o x c b h hb hl hc;exact⟨T,o,x,c,rfl,h.mono<|(la1 0x608809081008108001) hb,(la2 0x38230210001081108108002) hb hl,hc⟩
  |succ n ih=>
   exact fun a T o x c b h hb hl hc=>bc fun ng=>gG (h.add (x:=KC v0 v1 a) (ML _<|bR _<|by decide) ((la2 0x182202422442008000928001) hb) fun h=>nomatch h) fun T' e h'=>xE4 (ih (a+1) T' (BB o<|KC v0 v1 a) (nV a) (.cel w.cc<|.v<|.int (KC v0 v1 a:Nat)) (b+1) ⟨h'.H,h'.hf,h'.au,h'.cl,h'.ln,h'.rm,(fun h=>nomatch h),h'.gr⟩ ((la2 0x18220242244200810881201201) hb) (o9 (Cr o<|KC v0 v1 a) i01 hl) rfl) fun T2 o2 x2 c2=>xA2 fun e2 h2=>ng ⟨T2,o2,x2,c2,PW (pl:=plO w T o x c) (P:=fun r=>r=_) (hX T T' o a c hc ((la3 0xe08c08400042248210800e128002) hb hl) e) e2,h2⟩
 refine bc fun ng=>xE4 (lp (v0/2%5) 0 (QS.new 3 true 485) [] none (.B5 w.cc) 0 (LI.start true) (by have:=bR (v0/2) (y:=5) (by decide);exact (la3 0xc048040a40008b42000a01)<|dmk (v0/2) 5) (To _) rfl) fun T' o' x' c'=>xA4 fun e6 h6 l6 hc=>ng ⟨⟨o',T',QS.new 3 w.g 485,[],8,0⟩,⟨none,x',none,none,none,c'⟩,A5 (CN<|E6 rfl)<|A5 (CN (m:=.bool w.g)<|E6 ?_) ?_,⟨LI.start w.g,h6.H,h6.hf,l6⟩,hc⟩
 .exact rE hg<|Sk<|DA (Bd (GY (k:=0) (l:=w.nums) rfl (by decide) h0) rfl<|BC v0 2) rfl<|Jn (v0%2) 1
 have eN:∀(f:PE) (g:Bool) (pl:PL),f pl=some (.bool g)->Kr (AP<|.int 3) f (AP<|.ref 485) 1000 pl=some (.qf<|QS.new 3 g 485,pl):=fun f g pl h=>by
  unfold Kr;exact rE h (cA (by decide):(if 3<=3/\3<=9 then some (AV.qf<|QS.new 3 g 485,pl)else none)=_)
 refine A5 (MM (M:=Kr _ _ _) (b:=w.co) (eN (AM 5) w.g _ rfl) rfl rfl)<|A5 (X:=Hr _ _) (by unfold Hr;exact rE (eN (AP<|.bool true) true _ rfl) rfl)<|A5 (X:=Hr _ _) (pl1:=plO w (QS.new 3 true 485) [] none<|.B5 w.cc) rfl ?_;revert e6;exact rS hY fun e6=>A5 ((Hd<|VH (v:=v0/2%5) (Bd (Bd (GY (k:=0) (l:=w.nums) rfl (by decide) h0) rfl<|Dm v0 2) rfl<|BC _ 5)<|by have:=bR (v0/2) (y:=5) (by decide);exact (la3 0x30120102900022c0fa28011)<|dmk (v0/2) 5).trans e6)<|A5 (X:=Hr _ _) rfl<|A5 (CN<|E6 rfl)<|A5 (CN<|E6 rfl) rfl
end
theorem QN (h:wpAny M A (execs l a) (fun f e=>match f with|.next=>wpAny M A (execs r a) Q E e|f=>Q f e) E s):wpAny M A (execs (l++r) a) Q E s:=by
 intro d p b;replace h:=h d p b;induction l generalizing p s with
 |nil=>exact(show wpAny M A (execs r a) Q E s from h) d p b
 |cons st l g=>
  rw[execs_cons,Sem.wp_bind']at h;refine rE List.cons_append<|rE (execs_cons ..)<|rE (Sem.wp_bind' ..)<|Sem.wp_mono M d _ (fun f i e c=>?_) (fun _ _ _ c=>c) _ _ h;induction f<;>first|exact g _ c|exact c
noncomputable def VI (i:Int):Nat:=(i.fmod 1000003).toNat
def numsOf (a:List Int):List Nat:=(a.take 8).map VI++[1,29,56]
theorem VJ (d:∀ i:Int,g (.int i)=some (.int (f i:Nat))):∀(l:List Int) (a:List MV),a.length+l.length<=900->cGo (fun _ _ b=>some (true,b)) g n (l.map .int) a b=some (a++AX (l.map f),b):=by
 intro l;induction l with
 |nil=>intro a _;exact(rE (cb ..) rfl:some (a,b)=some (a++[],b))
 |cons i r c=>
  intro a h;rw[cJ]at h;refine(rE (d i) ?_:(g<|.int i).bind _=_);refine(rE (show decide (a.length<=900)=true from Ti (eF h)) ?_:(bif decide (a.length<=900)then cGo (fun _ _ b=>some (true,b)) g n (r.map .int) (a++[.int (f i:Nat)]) b else none)=_);exact(c _<|rE cE<|rE List.length_singleton<|eP h).trans<|rE (c6 ..) rfl
theorem OQ {J:LS}{fs:FS}{W:PL}{P:Addr->St->Prop}(i:Nat) (hi:c.vs[i]?=some x) (hk:iK c) (hx:iL c x) (hd:jD x)
  (cx:Cx Z c.n A b L<|c.env L) (F:Fr b L s.heap m) (lr:LR c.vs J m) (R:SR b L s.heap G) (K:LN G fs W J) (B:(J[i]?).join=some (.ref a)) (hl:b.IsList a D.toArray) (Y:IntsAre D H) (hz:H.length<=1000)
  (T:∀ h d I f,LN d h W J->CG d I f (cut false k<|H.map .int)->(f++h.flatten).Nodup->FmN fs G (f::h) d->G I=none->P I d) (q:∀ I d j,P I d->Sm s j->Fr b L j.heap m->SR b L j.heap d->Q (.ref I) j) :
  wpAny Z.md A (eval (.Subscript (.Name x xp) (.Slice none (some<|.Constant (.int k) X cp) none p) N)<|c.env L) (fun y l=>wpAny Z.md A (pyIter y) Q E l) E s:=by
 refine wpAny_Subscript_list_slice<|(AQ i hi hk hx hd) (P:=fun v G1=>v=.ref a/\G1=G) cx F lr R (by unfold B3;exact rE B ⟨rfl,rfl⟩) fun v mv G1 t B t1 M F1 R1=>bc fun u=>xP t1<|xA2 fun z0=>?_;revert B;refine rE z0 fun B=>fun z1=>?_;revert K T;refine rS z1 fun K T=>have z:=VR.irf B;?_;revert u;refine rE z fun u=>u ?_;show wpAny _ A (evalPart none<|c.env L) _ _ _;refine rE (evalPart_none ..)<|bZ (wpAny_Constant_int ?_:wpAny _ _ (eval (.Constant (.int k) X cp)<|c.env L) _ _ _);have U:t.heap.IsList a D.toArray:=by
  exact gG hl fun o e r=>⟨o,F1.keep _ _ e,r⟩
 have g:=VRs.length<|VRs.Lx Y;rw[b7]at g;refine⟨a,D.toArray,none,some (k:Int),rfl,U,rE b8<|rE g<|rE cN<|dk hz,.none,.int _ _,gG (ND (lo:=false) (k:=k)<|VRs.Lx Y) fun V hw O=>rE hw<|bc fun u=>xP (SR.pushNone F1 R1 {cls:=.type "slice",data:=.fields #[.none,.int (k:Int) t.toks,.none]}) (xA2 fun F2 R2=>have S:(t.heap.push {cls:=.type "slice",data:=.fields #[.none,.int (k:Int) t.toks,.none]}).objs.size=t.heap.objs.size+1:=Heap.size_push ..;have C:=R2.fresh;xP (SR.push (ob:={cls:=.type "list",data:=.seq (List.toArray V)}) (mo:=.list<|cut false k<|H.map .int) F2 R2 ⟨V,0,rfl,O⟩)<|xA2 fun F3 R3=>u ?_)⟩;rw[S]at C R3;exact GX (Z:=Z) F3 R3 K C rfl T fun I d j hP sm F' R'=>q I d j hP ((M.trans<|Sm.ht _ _ _).trans sm) F' R'
theorem VK (i:Int):ZU 1000003 (.int i)=some (.int (VI i:Nat)):=by
 show some (MV.int<|i.fmod 1000003)=_;unfold VI;exact rE (Int.toNat_of_nonneg<|Int.fmod_nonneg_of_pos i<|by decide) rfl
theorem TA {ls:LS}{K:Scope}(i j:Nat)
  (hi:c.vs[i]?=some z) (hk:iK c) (hz:iL c z) (hd:jD z) (hj:c.vs[j]?=some y) (hy:iL c y) (T:K.kind=.function) (hx:K.names.lookup x=some .local) (az:jD x)
  (U:∀ y∈K.names,y.2≠.cell) (aD:closureFor K (c.env L)=pure []) (B:∀ y∈K.names,y.2=.local->K.names.lookup y.1=some .local) (he:Pa Z c es g) (hg:∀ J,g J=some (AX [1,29,56]))
  (cx:Cx Z c.n A d L<|c.env L) (F:Fr d L s.heap m) (lr:LR c.vs ls m) (R:SR d L s.heap G) (lo:LN G fs J ls) (hv:(ls[i]?).join=some (.ref a)) (hl:d.IsList a vs.toArray) (hn:IntsAre vs u) (av:u.length<=63)
  (q:∀ V G' aa m' M,LN G' V (AY J j<|.lst<|AX<|numsOf u) aa->Sm s M->Fr d L M.heap m'->LR c.vs aa m'->SR d L M.heap G'->Q .next M) :
  wpAny Z.md A (exec (.Assign [.Name y py] (.BinOp (.ListComp (.BinOp (.Name x px) .Mod (.Constant (.int 1000003) k1 p1) p2) [⟨.Name x aj,.Subscript (.Name z pz) (.Slice none (some<|.Constant (.int 8) k2 p3) none p4) p5,[],0⟩] K p6) .Add (.List es p7) p8) p9)<|c.env L) Q E s:=by
 refine wpAny_Assign_Name (wpAny_BinOp<|rE (eval_ListComp ..)<|wpAny_comprehension_free (use:=none) rfl (fun _=>rfl) aD T B (OQ (k:=8) (P:=fun I G2=>∃ p f,LN G2 p J ls/\CG G2 I f (cut false 8<|u.map .int)/\(f++p.flatten).Nodup/\FmN fs G (f::p) G2/\G I=none) i hi hk hz hd cx F lr R lo hv hl hn ((la1 0x182202003fa0000fa28001) av) (fun p G2 I f q1 q2 q3 q4 q5=>⟨p,f,q1,q2,q3,q4,q5⟩) fun I G2 s2 hP ah F2 R2=>bc fun ng=>xE2 hP fun p f=>xA5 fun aq ar ak aF hI=>ng<|have af:cut false 8 (u.map .int)=(u.take 8).map .int:=List.map_take.symm;have ab:(u.take 8).length<=8:=List.length_take_le ..;Hl (F0:=fs.flatten) (G0:=G) X8 (X9 T hx az<|by decide) hx T U cx lr ah F2 R2 aq ar ak aF.fm hI (rE af<|VJ (n:=0) VK (u.take 8) []<|rE List.length_nil<|(la1 0x60880a08000384a000a01) ab) fun D C M G' V hE=>xE1 hE.at fun m2=>fun ay=>⟨m2,ay,fun h' ax=>xE1 (hE.fin ax) fun aH=>xA6 fun w1 w2 w3 w4 w5 _=>(Et he) (P:=fun v W=>∃ l H,v=.ref l/\W l=some (.list<|AX [1,29,56])/\W D=some (.list<|AX<|(u.take 8).map VI)/\LN W H J ls) cx (s:={M with heap:=h'}) w1 lr w2 ⟨0,V,J,.lst<|AX [1,29,56],J,w3,by unfold Td;refine rE (hg ..) ?_;rfl,fun H W f mv t ho nd fm=>?_⟩ fun v mv W s1 O hP ai F1 R1=>?_⟩))<|Bn rfl _ _ _
 .cases ho with
  | @lst l _ S=>
  exact⟨l,H,rfl,S,by rw[fm.fm.keep D (by rw[w4];exact L0 _) fun hm=>(SF.mp w5).2.2 D (.head _) D hm rfl,w4];rfl,t⟩
 .refine bc fun ng=>xE2 hP fun l H=>xA2 fun z0=>?_;revert O;refine rE z0 fun O=>xA3 fun S aE t=>have z:=VR.irf O;?_;revert ng;refine rE z fun ng=>gG (R1.isList aE) fun Y g1 g2=>gG (R1.isList S) fun X g3 g4=>gG (id R1) fun aG N r=>ng ?_;have aw:Y.length+X.length<=sizeLine:=by
   refine rE g2.length<|rE g4.length<|rE cN ?_;unfold AX;exact rE (b7 ..)<|rE (b7 ..)<|rE (b7 ..) ((la1 0x60880a08000001000000c640201) ab:_+3<=_)
  have ae:=R1.fresh;refine add_lists F1 N g1 g3 (fun h2 F4 N4=>?_) aw;have R4:SR d L h2 (W.set s1.heap.objs.size<|.list<|AX<|numsOf u):=by
   refine⟨_,N4,fun b o e=>?_⟩;by_cases hb:b=s1.heap.objs.size
   .rw [hb,St.AH]at e;exact soE e<|rE hb<|⟨_,.head _,Y++X,0,rfl,by
     have:=g2.append g4;unfold numsOf AX at *;refine rE List.map_append ?_;exact this⟩
   .rw [St.AG _ _ hb]at e;exact gG (r b o e) fun ob h1 h3=>⟨ob,.tail _ h1,h3⟩
  exact CZ (i:=j) hj hk hy F4 lr R4 (.ref _) fun m5 s5 ag F5 ao R5=>q _ _ _ m5 s5 ((t.Rd _ ae).Qi j (Own.lst<|St.AH ..)<|bL.mpr ⟨fun hm=>t.lo.dom _ hm ae,t.nd⟩) ((((hE.sm.trans<|Sm.h M h').trans ai).trans<|Sm.h _ _).trans ag) F5 ao R5
theorem LN.swap {e:PL}(h:LN G k (some (.v m)::some (.lst d)::e) i):∃ c g f r,i=g::f::r/\LN G c (some (.lst d)::some (.v m)::e) (f::g::r):=by
 obtain⟨b,j⟩:=h;cases b with
 |own b a=>
 cases a with
 |own a h4=>
  refine⟨_,_,_,_,rfl,.own a<|.own b h4,?_⟩;rw[D4,D4]at j ⊢;exact(List.perm_append_comm_assoc _ _ _).nodup_iff.mp j
theorem LR.swap {r:LS}{m:Str->Option Value}(h:LR (x::y::a) (e::d::r) m):LR (y::x::a) (d::e::r) m:=by
 refine xP h<|xA3 fun g f c=>⟨(List.Perm.swap y x a).nodup_iff.mp g,f,fun i z b=>?_⟩;match i with
 |0=>exact c 1 z b
 |1=>exact c 0 z b
 |i+2=>exact c (i+2) z b
section
variable {Z:PX}(k:KF Z) (n:KI Z) (t:KJ Z) (d:KR Z) (l:KL Z) (e:KU Z) (h:KN Z) (j:KT Z) (p:KX Z) (i:KY Z)
include k n t d l e h j p i
theorem VL (w:Wc):∃ M,Bx Z (cW vW2 w.cl w.f) ((BO<|top 16).drop 10) M/\∀(s:Ws) (x:Wx) (g b:Nat),HG w s 0->w.nums.length<=11->w.nums[0]?=some g->w.nums[1]?=some b->cellAt (some x.code)=some w.cc->VF (M 1000<|plW w s x):=by
 refine bc fun m=>gG (s10 k n t d l e h j p i w) fun S y D=>xE1 (s11 k n t d l e h j p i w) fun R=>xA2 fun v C=>xE1 (s12 k n t d l e h j p i w) fun Q=>xA2 fun u B=>xE1 (s13 k n t d l e h j p i w) fun P=>xA2 fun r A=>xE1 (s14 k n t d l e h j p i w) fun O=>xA2 fun q z=>m ⟨_,AA y<|AA v<|AA u<|AA r q,fun s x g b I K N E L=>bc fun m=>?_⟩;obtain⟨c,G,J,F,o⟩:=D s x I K L;exact xE1 (C c G b F E) fun a=>fun H=>m<|DT J<|DT H<|DT (B c _ F)<|DT (A c _)<|z c _ g b N E o
theorem YJ 
  (cx:Cx Z 31 A u L<|(cW vW1 (clW cc ce co cs) f).env L) (F:Fr u L s.heap m) (lr:LR vW1 (some (.ref a)::List.replicate 18 none) m) (R:SR u L s.heap G)
  (g1:G cc=some (.cell none)) (g2:G ce=some (.cell none)) (g3:G co=some (.cell none)) (g4:G cs=some (.cell none)) (g5:G 501=some (.obj<|tabObj #[])) (nd:[cc,ce,co,cs,501].Nodup)
  (hl:u.IsList a vs.toArray) (hi:IntsAre vs B) (hn:B.length<=63)
  (q:∀ V,Sm s V->(∀ b o,u.get? b=some o->V.heap.get? b=some o)->GrownAt 501 V.heap->Q (.ret<|.bool true) V):wpAny Z.md A (execs (BO<|top 16)<|(cW vW1 (clW cc ce co cs) f).env L) Q E s:=by
 obtain⟨J,U,h0,h1⟩:∃ J U,(numsOf B)[0]?=some J/\(numsOf B)[1]?=some U:=by
  have:3<=(numsOf B).length:=by unfold numsOf;exact rE cE<|Nat.le_add_left ..
  exact⟨_,_,cB<|by exact (la1 0x1822020064000111) this,cB<|by exact (la1 0x1822020064000911) this⟩
 have ag:(numsOf B).length<=11:=by
  unfold numsOf;exact rE cE<|rE (b7 ..)<|have:=List.length_take_le 8 B;((la1 0x60880a0800b2640201) this:_+3<=_)
 let w:Wc:=⟨.ref a,numsOf B,decide<|J%2=1,cc,ce,co,cs,f⟩;refine bc fun N=>gG (s1 k n t d l e h j p i w) fun M1 b1 e1=>gG (VL k n t d l e h j p i w) fun M2 b2 e2=>xE2 (e1 J U h0 h1 rfl) fun sw xw=>xA3 fun e1 I hc=>gG (e2 sw xw J U I ag h0 h1 hc) fun ak e2 ht=>N ?_;have lo:LN G [[],[],[],[],[],[],[],[],[],[],[],[],[],[],[cc],[ce],[co],[cs],[501]] [some<|.v<|.ref a,none,none,none,none,none,none,none,none,none,none,none,none,none,some<|.B5 cc,some<|.B5 ce,some<|.B5 co,some<|.B5 cs,some .tab] (some (.ref a)::List.replicate 18 none):=
  ⟨.own (.v _)<|.free _<|.free _<|.free _<|.free _<|.free _<|.free _<|.free _<|.free _<|.free _<|.free _<|.free _<|.free _<|.free _<|.B5 g1<|.B5 g2<|.B5 g3<|.B5 g4<|.tab ⟨fun b hb=>rE (bO.mp hb)<|rE g5<|L0 _,#[],.head _,g5,trivial,fun aj v hv=>by cases hv⟩ .nil,nd⟩
 refine cy<|TA (c:=cW vW1 (clW cc ce co cs) f) (x:="n") 0 3 rfl rfl rfl rfl rfl rfl rfl rfl rfl (by decide) rfl (by decide) (AN (AD AE)<|AN (AD AE)<|AN (AD AE) Aa) (fun _=>rfl) cx F lr R lo rfl hl hi hn fun ai G1 ar m1 t1 af Y F1 aa R1=>(QN (b1 (P:=fun C y T=>C=.next/\∃ z,LN T z (plP w sw xw) y) cx F1 aa R1 ⟨1000,ai,plI w,.next,_,af,e1,fun z T y f C q1 K q3 q4 q5=>?_⟩ fun fl C aq G2 m2 t2 O S X F2 D R2=>?_):wpAny _ _ (execs (((BO<|top 16).take 10).drop 1++(BO<|top 16).drop 10) _) _ _ _)
 .cases K;exact⟨rfl,z,q1⟩
 refine xP S<|xA2 fun H=>?_;subst H;refine xF1 fun aw=>fun ae=>?_;cases O;refine bc fun N=>xE4 ae.swap fun ah o1 o2 r=>xA2 fun H=>?_;revert D;refine rE H fun D=>fun ab=>N<|(b2:Ex Z (cW vW2 (clW cc ce co cs) f) _ _) (P:=fun C y T=>C=.ret (.bool true)/\∃ M,T 501=some (.obj<|tabObj M)) cx F2 D.swap R2 ⟨1000,ah,_,_,_,ab,e2,fun z T y f C q1 K q3 q4 q5=>?_⟩ fun fl C ao G4 m4 t4 O S W F4 av R4=>?_
 .cases K with
  |ret K=>
   refine bc fun N=>?_;obtain⟨_,M,_,h5,_⟩:=q1.lo.Xv ht;exact N ⟨rE K.val rfl,M,h5⟩
 .refine xP S<|xA2 fun H=>?_;revert O S;refine rE H fun O S=>xF1 fun M=>fun h5=>?_;cases O with
  |ret hv=>
  cases hv;exact xP (R4.Cv h5)<|xA3 fun g _ _=>q _ ((Y.trans X).trans W) F4.keep ⟨M,g⟩
end
noncomputable def Z9 (c:Shared) (a:List<|Addr×Addr) (r:Result) (d:Shared):Prop:=
 r=.ok (.ret<|.bool true)/\(∀ b o,(ghostOf c.heap a).get? b=some o->d.heap.get? b=some o)/\d.os=c.os/\AllBare d.gens/\GrownAll a d.heap
theorem Za (u:TabsAt a c.heap) (B:∀ x,q.raises d x=false) (j:q.post d (.bool true) d=true)
  (h:codeAny M A w (Z9 c a) s):codeAny M A w (GoodWG q F G d c) s:=codeAny_mono h fun r y C=>by
 refine xP C<|xA2 fun g=>rE g<|xA4 fun t l E m=>?_;have i:∀ b o,b∈a.map (·.2)->c.heap.get? b=some o->isCodeTable c.heap b/\o=tabObj #[]/\∃ k,y.heap.get? b=some (tabObj k):=fun b o f e=>by
  refine xE1 (List.mem_map.mp f) fun p=>xA2 fun j=>fun g=>?_;revert e;exact rS g fun e=>have v:=(u p j).2;⟨((u p j).1.tab v).isCodeTable,cw<|e.symm.trans v,m.get p j⟩
 refine⟨.inl ⟨_,_,[],rfl,B,ReadsW.bool true,j,fun _=>⟨dC,fun _ D=>(nomatch D)⟩⟩,⟨fun b o e=>?_,fun b o e=>?_⟩,l,E⟩
 .by_cases f:b∈a.map (·.2)
  .exact xP (i b o f e)<|xA3 fun z g=>rE g<|xF1 fun k=>fun n=>.inr<|.inl ⟨z,rfl,#[],k,rfl,rE Array.empty_append n⟩
  .exact .inl<|t b o<|ghost_ne e f
 .by_cases f:b∈a.map (·.2)
  .exact xP (i b o f e)<|xA3 fun _ _=>xF1 fun k=>fun n=>⟨_,n⟩
  .exact ⟨o,t b o<|ghost_ne e f⟩
def KK (Z:PX):Prop:=KF Z/\KI Z/\KJ Z/\KR Z/\KL Z/\KU Z/\KN Z/\KT Z/\KX Z/\KY Z
theorem aA (w:KK Z){L:Nat}
  (X':Z.K.In g) (T':Top Z.p Z.loose Z.K3 Z.mg Z.mb g) (M:Below callerA g [] g) (F':Fr g L s.heap m) (hm:∀ y,m y=if y = "script" then some (.ref a)else none) (N':News g L s.heap [(L+1+1+1+1,u),(L+1+1+1,v),(L+1+1,A),(L+1,B),(501,tabObj #[])])
  (c1:B.data=.cell none) (c2:A.data=.cell none) (c3:v.data=.cell none) (c4:u.data=.cell none) (n:501<L) (hl:g.IsList a t.toArray) (hi:IntsAre t C) (hn:C.length<=63)
  (q:∀ r,Sm s r->(∀ b o,g.get? b=some o->r.heap.get? b=some o)->GrownAt 501 r.heap->Q (.ret<|.bool true) r) :
  wpAny Z.md (callerA.deeper<|(cW vW1 (clW (L+1) (L+1+1) (L+1+1+1)<|L+1+1+1+1) f).env L) (execs (BO<|top 16)<|(cW vW1 (clW (L+1) (L+1+1) (L+1+1+1)<|L+1+1+1+1) f).env L) Q E s:=by
 obtain⟨k,Y,X,U,W,S,V,T,P,O⟩:=w
 refine bc fun N=>?_;obtain⟨G,l⟩:∃ G:St,G=((((St.set (fun _=>none) 501<|.obj<|tabObj #[]).set (L+1)<|.cell none).set (L+1+1)<|.cell none).set (L+1+1+1)<|.cell none).set (L+1+1+1+1) (.cell none):=⟨_,rfl⟩;refine N ?_;have R:SR g L s.heap G:=by
  refine⟨_,N',fun b o e=>?_⟩;rw[l]at e;by_cases D:b=L+1+1+1+1
  .rw [D]at e ⊢;rw[St.AH]at e;(refine soE e ?_;clear e);exact⟨_,.head _,none,c4,.none⟩
  rw[St.AG _ _ D]at e;by_cases F:b=L+1+1+1
  .rw [F]at e ⊢;rw[St.AH]at e;(refine soE e ?_;clear e);exact⟨_,.tail _<|.head _,none,c3,.none⟩
  rw[St.AG _ _ F]at e;by_cases H:b=L+1+1
  .rw [H]at e ⊢;rw[St.AH]at e;(refine soE e ?_;clear e);exact⟨_,.tail _<|.tail _<|.head _,none,c2,.none⟩
  rw[St.AG _ _ H]at e;by_cases I:b=L+1
  .rw [I]at e ⊢;rw[St.AH]at e;(refine soE e ?_;clear e);exact⟨_,.tail _<|.tail _<|.tail _<|.head _,none,c1,.none⟩
  rw[St.AG _ _ I]at e;by_cases J:b=501
  .rw [J]at e ⊢;rw[St.AH]at e;(refine soE e ?_;clear e);exact⟨_,.tail _<|.tail _<|.tail _<|.tail _<|.head _,rfl,rfl⟩
  rw[St.AG _ _ J]at e;exact xns e
 have c:∀{x y:Nat},x<y->@Ne Addr x y:=fun h=>Nat.ne_of_lt h;refine YJ k Y X U W S V T P O (a:=a) (cc:=L+1) (ce:=L+1+1) (co:=L+1+1+1) (cs:=L+1+1+1+1) (f:=f) (G:=G) ⟨rfl,Sa rfl,Sa rfl,X',T',⟨callerA,g,[],M,rfl⟩,rfl,rfl,fun _=>⟨callerA,M,rfl⟩⟩ F' ⟨by decide,rfl,fun i y d=>?_⟩ R (rE l<|rE (St.AG _ _<|c<|by exact la1 0x82102122448900924240210)<|rE (St.AG _ _<|c<|by exact la1 0x208408489120124240210)<|rE (St.AG _ _<|c<|by exact la1 0x821021224024240210)<|rE (St.AH ..) rfl) (rE l<|rE (St.AG _ _<|c<|by exact la1 0x20840848912240249091201210)<|rE (St.AG _ _<|c<|by exact la1 0x82102122448049091201210)<|rE (St.AH ..) rfl) (rE l<|rE (St.AG _ _<|c<|by exact la1 0x8210212244890092424489009210)<|rE (St.AH ..) rfl) (rE l<|rE (St.AH ..) rfl) (rE l<|rE (St.AG _ _<|c<|by exact (la1 0x1822020003eb444891224024900fad11) n)<|rE (St.AG _ _<|c<|by exact (la1 0x608808000fad112244804900fad11) n)<|rE (St.AG _ _<|c<|by exact (la1 0x1822020003eb4448900900fad11) n)<|rE (St.AG _ _<|c<|by exact (la1 0x608808000fad1120100fad11) n)<|rE (St.AH ..) rfl) ?_ hl hi hn q
 .refine rE (hm y) ?_;match i,d with
  |0,d=>(refine soE d ?_;clear d);exact .some<|.ref a
  |i+1,d=>
   have:y ≠ "script":=fun z=>by
    revert d;refine rE z fun d=>?_;have:=(List.getElem?_inj (i:=0) (j:=i+1) (by decide)<|by decide).mp<|show vW1[0]?=vW1[i+1]? from d.symm;cases this
   refine iN this ?_;have:((some (MV.ref a)::List.replicate 18 none:LS)[i+1]?).join=none:=by
    refine rE List.getElem?_cons_succ ?_;refine oE ((List.replicate 18 (none:Option MV))[i]?) (fun e=>?_) fun z e=>?_
    .rfl
    .refine rE ((List.mem_replicate.mp<|ck e).2) ?_;rfl
   exact rE this .none
 .have:([L+1,L+1+1,L+1+1+1,L+1+1+1+1,501]:List Nat).Nodup:=by
   simp only[bL,bM,List.not_mem_nil,or_false,dC,and_true,not_or,not_false_eq_true];exact (la1 0x371c8e4850c08000fad101f5a2448912012489807d689122402489848912240249091224024899dc07d6891201226122448900924244804899c489120124244804899dc07d68900898489122402490900899c48912012424022671224024240226771) n
  exact this
end QF
end
set_option Elab.async true
namespace QF.holds
theorem tw12967134470284634200:0=0:=rfl
theorem tw2667407099867622395:0=0:=rfl
theorem tw2953721325152949470:0=0:=rfl
theorem tw7935113753199566760:0=0:=rfl
theorem tw2972013925135316750:0=0:=rfl
theorem tw14046076248913678994:0=0:=rfl
theorem tw12738209347202588677:0=0:=rfl
theorem tw16756423308285828742:0=0:=rfl
theorem tw11353978961483738556:0=0:=rfl
theorem tw12627945957593404868:0=0:=rfl
theorem tw16231923633194385687:0=0:=rfl
theorem tw16263944757246527798:0=0:=rfl
theorem tw9429801489274555262:0=0:=rfl
theorem tw5230579081692987031:0=0:=rfl
theorem tw8786788256165722382:0=0:=rfl
theorem tw663551481774254680:0=0:=rfl
theorem tw3905765547613038491:0=0:=rfl
theorem tw13622092491065441169:0=0:=rfl
theorem tw2790080982858788712:0=0:=rfl
theorem tw9430444795552673544:0=0:=rfl
theorem tw10269956752455434579:0=0:=rfl
theorem tw9673047570819747422:0=0:=rfl
theorem tw2149130495945385981:0=0:=rfl
theorem tw2316996683265758067:0=0:=rfl
theorem tw8314954453912216718:0=0:=rfl
theorem tw10079706388660259584:0=0:=rfl
theorem tw16214284390408401959:0=0:=rfl
theorem tw6011209391252363575:0=0:=rfl
theorem tw2902912229544147685:0=0:=rfl
theorem tw5258397663050549679:0=0:=rfl
theorem tw8876470298656724636:0=0:=rfl
theorem tw9993841811564032421:0=0:=rfl
theorem tw44090832117249944:0=0:=rfl
theorem tw15379417623439437826:0=0:=rfl
theorem tw14712073755748892366:0=0:=rfl
theorem tw17015878670823144662:0=0:=rfl
theorem tw5428010265323925887:0=0:=rfl
theorem tw7911266496077199417:0=0:=rfl
theorem tw5426033233852174644:0=0:=rfl
theorem tw14172962641397958505:0=0:=rfl
theorem tw6022523093722239758:0=0:=rfl
theorem tw9833026128525530851:0=0:=rfl
theorem tw11829177629740977617:0=0:=rfl
theorem tw6349586904214522529:0=0:=rfl
theorem tw12286197478312889833:0=0:=rfl
theorem tw4754167526283121288:0=0:=rfl
theorem tw10219198241862896506:0=0:=rfl
theorem tw10856156450713619067:0=0:=rfl
theorem tw5536572140916586606:0=0:=rfl
theorem tw4631923998939630762:0=0:=rfl
theorem tw9039036618114436854:0=0:=rfl
theorem tw9214841775046715394:0=0:=rfl
theorem tw3234786685800944839:0=0:=rfl
theorem tw11968107902280447896:0=0:=rfl
theorem tw2454009713063434559:0=0:=rfl
theorem tw13352632097066447809:0=0:=rfl
theorem tw3055632141293044195:0=0:=rfl
theorem tw14417225034645320296:0=0:=rfl
theorem tw2398229154876749940:0=0:=rfl
theorem tw6854038987849277:0=0:=rfl
theorem tw14695893738691537029:0=0:=rfl
theorem tw4049379903114979453:0=0:=rfl
theorem tw9578325977947785488:0=0:=rfl
theorem tw8712665137947877147:0=0:=rfl
theorem tw9391688882314212897:0=0:=rfl
theorem tw16781546990824644189:0=0:=rfl
theorem tw8747863541228408735:0=0:=rfl
theorem tw8577103217529239785:0=0:=rfl
theorem tw15530515772061877606:0=0:=rfl
theorem tw2504639433419379565:0=0:=rfl
theorem tw8964719154322862378:0=0:=rfl
theorem tw8816037736535676367:0=0:=rfl
theorem tw7508469833710702819:0=0:=rfl
theorem tw10782605264305751974:0=0:=rfl
theorem tw14570424486661209513:0=0:=rfl
theorem tw8951242613752001056:0=0:=rfl
theorem tw4939688166886625:0=0:=rfl
theorem tw12265433847356429751:0=0:=rfl
theorem tw3556906472531480620:0=0:=rfl
theorem tw16169792800323906727:0=0:=rfl
theorem tw4000908723042623841:0=0:=rfl
theorem tw4229024551326412099:0=0:=rfl
theorem tw2197662723374789245:0=0:=rfl
theorem tw294276234960911813:0=0:=rfl
theorem tw13797797620898841518:0=0:=rfl
theorem tw4800759696906239908:0=0:=rfl
theorem tw13913455109366645865:0=0:=rfl
theorem tw14326275418549727454:0=0:=rfl
theorem tw2269473474487072056:0=0:=rfl
theorem tw888425414581831998:0=0:=rfl
theorem tw6908058983103830280:0=0:=rfl
theorem tw3275660876294957590:0=0:=rfl
theorem tw2153112410314351024:0=0:=rfl
theorem tw7078558947154929527:0=0:=rfl
theorem tw6057092513392413012:0=0:=rfl
theorem tw10718111068665186203:0=0:=rfl
theorem tw763459063833425325:0=0:=rfl
theorem tw16504634944021975759:0=0:=rfl
theorem tw15981683520819940367:0=0:=rfl
theorem tw646128335386737589:0=0:=rfl
theorem tw17174587751175366528:0=0:=rfl
theorem tw1916118457964205053:0=0:=rfl
theorem tw13801340139099311692:0=0:=rfl
theorem tw2423268146969195713:0=0:=rfl
theorem tw1431982147556856498:0=0:=rfl
theorem tw332231056222553546:0=0:=rfl
theorem tw5439223727007961728:0=0:=rfl
theorem tw8989385241698844033:0=0:=rfl
theorem tw14747097698264074203:0=0:=rfl
theorem tw12069859455914225017:0=0:=rfl
theorem tw17591562635203718545:0=0:=rfl
theorem tw3933114781852706782:0=0:=rfl
theorem tw12807520521716767795:0=0:=rfl
theorem tw5917058605035938489:0=0:=rfl
theorem tw15425056893379847892:0=0:=rfl
theorem tw4482440805023742399:0=0:=rfl
theorem tw5268739265118521314:0=0:=rfl
theorem tw11497201934564196529:0=0:=rfl
theorem tw13067159016620187805:0=0:=rfl
theorem tw8914032835549742323:0=0:=rfl
theorem tw7041279377596645094:0=0:=rfl
theorem tw4765615397473647493:0=0:=rfl
theorem tw12509996486291327840:0=0:=rfl
theorem tw8286978603080262759:0=0:=rfl
theorem tw18018025253364481446:0=0:=rfl
theorem tw7128151979718328573:0=0:=rfl
theorem tw7932933734700256951:0=0:=rfl
theorem tw567056451179541685:0=0:=rfl
theorem tw7499920923300118301:0=0:=rfl
theorem tw10200144507970366047:0=0:=rfl
theorem tw4264740136857601885:0=0:=rfl
theorem tw18006440829591229367:0=0:=rfl
theorem tw328429309707457342:0=0:=rfl
theorem tw16155473844642620362:0=0:=rfl
theorem tw12532414569835496681:0=0:=rfl
theorem tw2446159711725070419:0=0:=rfl
theorem tw8616375637747133382:0=0:=rfl
theorem tw17315904407559867588:0=0:=rfl
theorem tw1982780123137115788:0=0:=rfl
theorem tw15178476137993462227:0=0:=rfl
theorem tw12672974984339001767:0=0:=rfl
theorem tw74897379760658881:0=0:=rfl
theorem tw3773699022135884202:0=0:=rfl
theorem tw8791885310577823446:0=0:=rfl
theorem tw14831146011719534052:0=0:=rfl
theorem tw4375707510663610114:0=0:=rfl
theorem tw7309587060234102010:0=0:=rfl
theorem tw2976539953087829834:0=0:=rfl
theorem tw1305527972516201264:0=0:=rfl
theorem tw15976853115276720743:0=0:=rfl
theorem tw12200159247278158038:0=0:=rfl
theorem tw7230230268957509670:0=0:=rfl
theorem tw4450542608103174568:0=0:=rfl
theorem tw6923288554825129612:0=0:=rfl
theorem tw17791498638456984187:0=0:=rfl
theorem tw17110603053330058447:0=0:=rfl
theorem tw14145455362212169393:0=0:=rfl
theorem tw3787342340999724465:0=0:=rfl
theorem tw6779188019884556211:0=0:=rfl
theorem tw644085049230621236:0=0:=rfl
theorem tw15383082893918176544:0=0:=rfl
theorem tw17640415973814410600:0=0:=rfl
theorem tw8639440851319245553:0=0:=rfl
theorem tw11805344124685640239:0=0:=rfl
theorem tw17684821420059685456:0=0:=rfl
theorem tw9346519832891246673:0=0:=rfl
theorem tw15743251802990929338:0=0:=rfl
theorem tw960489586849338593:0=0:=rfl
theorem tw2194180113560758271:0=0:=rfl
theorem tw14040645031564508342:0=0:=rfl
theorem tw1151024067745222940:0=0:=rfl
theorem tw7220426274799745369:0=0:=rfl
theorem tw5985505812075536633:0=0:=rfl
theorem tw540813052334036940:0=0:=rfl
theorem tw7156385762983137780:0=0:=rfl
theorem tw16982655328846150324:0=0:=rfl
theorem tw7313170257242611473:0=0:=rfl
theorem tw858469617952611938:0=0:=rfl
theorem tw9888686061827055839:0=0:=rfl
theorem tw1036030877683270709:0=0:=rfl
theorem tw5601934242679967431:0=0:=rfl
theorem tw13460666482596796389:0=0:=rfl
theorem tw16439851791082738046:0=0:=rfl
theorem tw737687070714322254:0=0:=rfl
theorem tw3748355020405770845:0=0:=rfl
theorem tw11690701663114710658:0=0:=rfl
theorem tw17514615035110222443:0=0:=rfl
theorem tw16494052774498853694:0=0:=rfl
theorem tw6273845851237257069:0=0:=rfl
theorem tw14961519962856212164:0=0:=rfl
theorem tw11024972444979672945:0=0:=rfl
theorem tw13174014401693248278:0=0:=rfl
theorem tw9097953481679810766:0=0:=rfl
theorem tw11203037308996401938:0=0:=rfl
theorem tw14381362353927291523:0=0:=rfl
theorem tw10874385672966201139:0=0:=rfl
theorem tw3649123373255904487:0=0:=rfl
theorem tw2482012126661478626:0=0:=rfl
theorem tw18318840594945772543:0=0:=rfl
theorem tw10477194520248278582:0=0:=rfl
theorem tw6328405436182661140:0=0:=rfl
theorem tw752793103028599979:0=0:=rfl
theorem tw16348658617149732677:0=0:=rfl
theorem tw4952736590837886133:0=0:=rfl
theorem tw1052116520213436623:0=0:=rfl
theorem tw13650952470363020110:0=0:=rfl
theorem tw8220969619733600944:0=0:=rfl
theorem tw10509305004873378791:0=0:=rfl
theorem tw3901020679348953145:0=0:=rfl
theorem tw4464407604761715610:0=0:=rfl
theorem tw14314312449688559229:0=0:=rfl
theorem tw10821224254582554818:0=0:=rfl
theorem tw12938602918587331673:0=0:=rfl
theorem tw12661390790168186320:0=0:=rfl
theorem tw5812343920907917409:0=0:=rfl
theorem tw5158016311718843131:0=0:=rfl
theorem tw3421159823140619290:0=0:=rfl
theorem tw11103067082448183530:0=0:=rfl
theorem tw4274203164795472118:0=0:=rfl
theorem tw12497630434048514358:0=0:=rfl
theorem tw9573486418628548199:0=0:=rfl
theorem tw1040443070851122229:0=0:=rfl
theorem tw13535820105334458732:0=0:=rfl
theorem tw3142668391346507795:0=0:=rfl
theorem tw11006071536316807974:0=0:=rfl
theorem tw6816017603234541961:0=0:=rfl
theorem tw7556709038397295509:0=0:=rfl
theorem tw2071279623668659904:0=0:=rfl
theorem tw943610110190417960:0=0:=rfl
theorem tw4152007633789753736:0=0:=rfl
theorem tw16994865176712400344:0=0:=rfl
theorem tw4557851353178227231:0=0:=rfl
theorem tw12458383943771787669:0=0:=rfl
theorem tw13798801529692406105:0=0:=rfl
theorem tw15885882929721925531:0=0:=rfl
theorem tw4264655928382333221:0=0:=rfl
theorem tw6479395422209410707:0=0:=rfl
theorem tw476012053609124704:0=0:=rfl
theorem tw10808943187711269542:0=0:=rfl
theorem tw6896454126049026142:0=0:=rfl
theorem tw2931084207304296702:0=0:=rfl
theorem tw11740351608189460042:0=0:=rfl
theorem tw15396755405978140462:0=0:=rfl
theorem tw5072424537551266269:0=0:=rfl
theorem tw8085775566272940915:0=0:=rfl
theorem tw13087695573661947653:0=0:=rfl
theorem tw2336177635756026714:0=0:=rfl
theorem tw3879114518905459356:0=0:=rfl
theorem tw10899678128999489979:0=0:=rfl
theorem tw14297212872236016729:0=0:=rfl
theorem tw14566665732222333654:0=0:=rfl
theorem tw9962807465460769213:0=0:=rfl
theorem tw12185292722225193919:0=0:=rfl
theorem tw4158659088417049779:0=0:=rfl
theorem tw11808884890572875466:0=0:=rfl
theorem tw11835391929607355887:0=0:=rfl
theorem tw10821126934092287002:0=0:=rfl
theorem tw14693943837592698547:0=0:=rfl
theorem tw5257585414442697025:0=0:=rfl
theorem tw801890905843231041:0=0:=rfl
theorem tw1629788150148819657:0=0:=rfl
theorem tw4556607458007069658:0=0:=rfl
theorem tw14425704071342395436:0=0:=rfl
theorem tw16859801642381363413:0=0:=rfl
theorem tw14401488066689401512:0=0:=rfl
theorem tw12351499611788543764:0=0:=rfl
theorem tw194314404810559166:0=0:=rfl
theorem tw2590956546367517066:0=0:=rfl
theorem tw12675826040943845006:0=0:=rfl
theorem tw2684105261911373970:0=0:=rfl
theorem tw8027809534872831187:0=0:=rfl
theorem tw1311414814311530201:0=0:=rfl
theorem tw797370282587418674:0=0:=rfl
theorem tw14366694945393411831:0=0:=rfl
theorem tw12272499467437287529:0=0:=rfl
theorem tw7611291390025635274:0=0:=rfl
theorem tw5401367932394050321:0=0:=rfl
theorem tw8508997109920350548:0=0:=rfl
theorem tw4348761255997252304:0=0:=rfl
theorem tw397881944308462916:0=0:=rfl
theorem tw10528952858367406074:0=0:=rfl
theorem tw12924548387884447060:0=0:=rfl
theorem tw1661979637679485697:0=0:=rfl
theorem tw18051908172855807255:0=0:=rfl
theorem tw5758428021608144940:0=0:=rfl
theorem tw8325243774806004500:0=0:=rfl
theorem tw438632018226258712:0=0:=rfl
theorem tw14020677021257739043:0=0:=rfl
theorem tw363139240582181183:0=0:=rfl
theorem tw11698067341464901357:0=0:=rfl
theorem tw6718631780889821821:0=0:=rfl
theorem tw2991914968850835272:0=0:=rfl
theorem tw3425300559691765075:0=0:=rfl
theorem tw14375934302806069979:0=0:=rfl
theorem tw3982709570440252435:0=0:=rfl
theorem tw10197376705543316883:0=0:=rfl
theorem tw10134232006385801272:0=0:=rfl
theorem tw8069229079051925405:0=0:=rfl
theorem tw5691688630987556307:0=0:=rfl
theorem tw7748327949637170150:0=0:=rfl
theorem tw11205257696530577122:0=0:=rfl
theorem tw9610419530727947423:0=0:=rfl
theorem tw4159239137868557691:0=0:=rfl
theorem tw4615648255165485228:0=0:=rfl
theorem tw4555303196107045964:0=0:=rfl
theorem tw12570011752487263346:0=0:=rfl
theorem tw6186507101333663191:0=0:=rfl
theorem tw9673135160300816391:0=0:=rfl
theorem tw18099666147722406408:0=0:=rfl
theorem tw17115477756322554370:0=0:=rfl
theorem tw10916416834773215235:0=0:=rfl
theorem tw17356763873974163040:0=0:=rfl
theorem tw10610536236927545626:0=0:=rfl
theorem tw15793865067144158030:0=0:=rfl
theorem tw5372615083213403609:0=0:=rfl
theorem tw11084181847539221481:0=0:=rfl
theorem tw12688727252734165427:0=0:=rfl
theorem tw3372703357596018357:0=0:=rfl
theorem tw13801198758622466864:0=0:=rfl
theorem tw2678994932952795067:0=0:=rfl
theorem tw6407755595718529027:0=0:=rfl
theorem tw11695520740875627355:0=0:=rfl
theorem tw15952625102146607975:0=0:=rfl
theorem tw8220087821526620513:0=0:=rfl
theorem tw15493829606992422602:0=0:=rfl
theorem tw5163854407499794998:0=0:=rfl
theorem tw6140123906464598954:0=0:=rfl
theorem tw8244752199206289307:0=0:=rfl
theorem tw10414395050454413092:0=0:=rfl
theorem tw14449374632307346334:0=0:=rfl
theorem tw15200564314472868686:0=0:=rfl
theorem tw3976111826660185717:0=0:=rfl
theorem tw17916426436458800393:0=0:=rfl
theorem tw13954011502980607073:0=0:=rfl
theorem tw10270866127213943325:0=0:=rfl
theorem tw4594781221480067078:0=0:=rfl
theorem tw14838100162574341402:0=0:=rfl
theorem tw1303603359549776601:0=0:=rfl
theorem tw4674960434432790701:0=0:=rfl
theorem tw4535442534960861806:0=0:=rfl
theorem tw14384066827173069972:0=0:=rfl
theorem tw15663199963208094246:0=0:=rfl
theorem tw9565046335254293047:0=0:=rfl
theorem tw15446476682762464489:0=0:=rfl
theorem tw6513415177598631627:0=0:=rfl
theorem tw14575807028695714594:0=0:=rfl
theorem tw4717966209759634284:0=0:=rfl
theorem tw3900077553863358370:0=0:=rfl
theorem tw7062250684204001341:0=0:=rfl
theorem tw7328393134329338341:0=0:=rfl
theorem tw11706015823663919931:0=0:=rfl
theorem tw12360168683036927847:0=0:=rfl
theorem tw1516561351700699915:0=0:=rfl
theorem tw7804810861392933999:0=0:=rfl
theorem tw6856919229177664902:0=0:=rfl
theorem tw14596478285818208682:0=0:=rfl
theorem tw18009441466217052937:0=0:=rfl
theorem tw8318642861122526146:0=0:=rfl
theorem tw6141869059423095250:0=0:=rfl
theorem tw6919918058330980731:0=0:=rfl
theorem tw13492248909196395472:0=0:=rfl
theorem tw12292041616036869212:0=0:=rfl
theorem tw13038988568265921944:0=0:=rfl
theorem tw341985506825484479:0=0:=rfl
theorem tw17619413405754104669:0=0:=rfl
theorem tw5611836693932322605:0=0:=rfl
theorem tw3608424300625386360:0=0:=rfl
theorem tw13286045789778170673:0=0:=rfl
theorem tw1189010158709394147:0=0:=rfl
theorem tw14338515004829069388:0=0:=rfl
theorem tw1208920645241983673:0=0:=rfl
theorem tw16959950291869396360:0=0:=rfl
theorem tw12731430463036651428:0=0:=rfl
theorem tw15445556127824917881:0=0:=rfl
theorem tw17362261159607623540:0=0:=rfl
theorem tw15019205111923668533:0=0:=rfl
theorem tw8971872102100073666:0=0:=rfl
theorem tw14977084453634768811:0=0:=rfl
theorem tw16614409186440307170:0=0:=rfl
theorem tw8442924268317545208:0=0:=rfl
theorem tw10505725908358741489:0=0:=rfl
theorem tw2041067794607270852:0=0:=rfl
theorem tw7103570482604550011:0=0:=rfl
theorem tw3113722416020071759:0=0:=rfl
theorem tw5682685551437254947:0=0:=rfl
theorem tw17437552062503973910:0=0:=rfl
theorem tw13901635453118544507:0=0:=rfl
theorem tw8123031344125855197:0=0:=rfl
theorem tw506931968103619329:0=0:=rfl
theorem tw11723495851964723346:0=0:=rfl
theorem tw16834384822148390082:0=0:=rfl
theorem tw7123314993452566325:0=0:=rfl
theorem tw725592733176387043:0=0:=rfl
theorem tw17385411319912399416:0=0:=rfl
theorem tw9413935186158681427:0=0:=rfl
theorem tw6304198649353835105:0=0:=rfl
theorem tw16975241521364623876:0=0:=rfl
theorem tw9508858911605818899:0=0:=rfl
theorem tw11359637087127570624:0=0:=rfl
theorem tw14318152944248422733:0=0:=rfl
theorem tw3732540803829034767:0=0:=rfl
theorem tw12565644228018397588:0=0:=rfl
theorem tw17105401021769673172:0=0:=rfl
theorem tw71832716426466821:0=0:=rfl
theorem tw15922437577212890212:0=0:=rfl
theorem tw1472679856939408550:0=0:=rfl
theorem tw884237664716216870:0=0:=rfl
theorem tw18288152000129836056:0=0:=rfl
theorem tw6795620273809737160:0=0:=rfl
theorem tw11053240803180112157:0=0:=rfl
theorem tw16199571645566181257:0=0:=rfl
theorem tw8874899224337066909:0=0:=rfl
theorem tw2194852654865919796:0=0:=rfl
theorem tw16098429587123025854:0=0:=rfl
theorem tw14246232397549776775:0=0:=rfl
theorem tw13387135740403874663:0=0:=rfl
theorem tw1275661083528864634:0=0:=rfl
theorem tw16840145592986498043:0=0:=rfl
theorem tw1013976460195546396:0=0:=rfl
theorem tw8812791690877800677:0=0:=rfl
theorem tw15409489755056436409:0=0:=rfl
theorem tw14827876724615717043:0=0:=rfl
theorem tw16057325167244555719:0=0:=rfl
theorem tw13463424290626175232:0=0:=rfl
theorem tw1824285728204173765:0=0:=rfl
theorem tw4603867584500830453:0=0:=rfl
theorem tw14932830959941113993:0=0:=rfl
theorem tw4499576913240899402:0=0:=rfl
theorem tw17655741891869147815:0=0:=rfl
theorem tw12658228579018014523:0=0:=rfl
theorem tw9931837045638403662:0=0:=rfl
theorem tw17333963723888557233:0=0:=rfl
theorem tw16485952403627914019:0=0:=rfl
theorem tw4125978234559569327:0=0:=rfl
theorem tw6447082233003840878:0=0:=rfl
theorem tw17341950411863101425:0=0:=rfl
theorem tw9552434157488608793:0=0:=rfl
theorem tw11083394298958845985:0=0:=rfl
theorem tw6899308649881527828:0=0:=rfl
theorem tw197739572390061526:0=0:=rfl
theorem tw6121421146592297296:0=0:=rfl
theorem tw14965648744129327075:0=0:=rfl
theorem tw15063520611417800307:0=0:=rfl
theorem tw14128628295634430566:0=0:=rfl
theorem tw12179655484084801451:0=0:=rfl
theorem tw7845942399912715679:0=0:=rfl
theorem tw9486251631910903061:0=0:=rfl
theorem tw4499123027427834012:0=0:=rfl
theorem tw8643625791315383295:0=0:=rfl
theorem tw16759034442131022957:0=0:=rfl
theorem tw4559594540609121350:0=0:=rfl
theorem tw13304314440408619275:0=0:=rfl
theorem tw13505589575597654164:0=0:=rfl
theorem tw519403240843728320:0=0:=rfl
theorem tw9226242043239740998:0=0:=rfl
theorem tw8919276593915044132:0=0:=rfl
theorem tw15489098022663212627:0=0:=rfl
theorem tw15307343327227210315:0=0:=rfl
theorem tw3723489976660928670:0=0:=rfl
theorem tw13019142588235170744:0=0:=rfl
theorem tw10261896771847877847:0=0:=rfl
theorem tw13963028817365125266:0=0:=rfl
theorem tw4172757083230353313:0=0:=rfl
theorem tw15038484216939833393:0=0:=rfl
theorem tw742050737501823486:0=0:=rfl
theorem tw11922014499213238945:0=0:=rfl
theorem tw4994010703523684162:0=0:=rfl
theorem tw8890776895908263466:0=0:=rfl
theorem tw8169913021641570123:0=0:=rfl
theorem tw1074373296169076851:0=0:=rfl
theorem tw13435829736987325046:0=0:=rfl
theorem tw909881467306083435:0=0:=rfl
theorem tw16449598873864776709:0=0:=rfl
theorem tw17317649658416376373:0=0:=rfl
theorem tw5061902883150443321:0=0:=rfl
theorem tw3514036617560205196:0=0:=rfl
theorem tw2264245214728475575:0=0:=rfl
theorem tw6054204726076452819:0=0:=rfl
theorem tw15512471178099782320:0=0:=rfl
theorem tw12455384526492729885:0=0:=rfl
theorem tw10452751465036659113:0=0:=rfl
theorem tw9066542779442060750:0=0:=rfl
theorem tw17152014758549939116:0=0:=rfl
theorem tw16641963262625338572:0=0:=rfl
theorem tw13183390531005215220:0=0:=rfl
theorem tw11039592674546772484:0=0:=rfl
theorem tw14332347721735824794:0=0:=rfl
theorem tw15011723821346349839:0=0:=rfl
theorem tw2756773436727297317:0=0:=rfl
theorem tw2268992915382360194:0=0:=rfl
theorem tw9310604174419242189:0=0:=rfl
theorem tw4084734121927910611:0=0:=rfl
theorem tw950173357317407670:0=0:=rfl
theorem tw516896983611310116:0=0:=rfl
theorem tw5747339135009942832:0=0:=rfl
theorem tw12077192323954062699:0=0:=rfl
theorem tw6014171218867688699:0=0:=rfl
theorem tw10984516272482098637:0=0:=rfl
theorem tw11603614833741352694:0=0:=rfl
theorem tw2727327248227563413:0=0:=rfl
theorem tw4104102060910126894:0=0:=rfl
theorem tw11581442067597086111:0=0:=rfl
theorem tw1407881050354571223:0=0:=rfl
theorem tw2705290547246433481:0=0:=rfl
theorem tw16799854517142951572:0=0:=rfl
theorem tw13874687437304226231:0=0:=rfl
theorem tw17503041002267824876:0=0:=rfl
theorem tw18382634271390782942:0=0:=rfl
theorem tw11023794311594241679:0=0:=rfl
theorem tw11092241491051519105:0=0:=rfl
theorem tw2106284415455597615:0=0:=rfl
theorem tw4322901479996555944:0=0:=rfl
theorem tw146317958153733151:0=0:=rfl
theorem tw17317366585477389898:0=0:=rfl
theorem tw1610014406752291180:0=0:=rfl
theorem tw3354726667654005618:0=0:=rfl
theorem tw652128516901737980:0=0:=rfl
theorem tw13852995900777012522:0=0:=rfl
theorem tw1949711422243010947:0=0:=rfl
theorem tw16813673271891589844:0=0:=rfl
theorem tw11789216083870875494:0=0:=rfl
theorem tw5649424356312425701:0=0:=rfl
theorem tw12642595737115781143:0=0:=rfl
theorem tw14677061930142123636:0=0:=rfl
theorem tw12302023306699241765:0=0:=rfl
theorem tw325370391194807847:0=0:=rfl
theorem tw10517630516090487567:0=0:=rfl
theorem tw1534875052178363659:0=0:=rfl
theorem tw5920415179439937686:0=0:=rfl
theorem tw18165714881634950768:0=0:=rfl
theorem tw17961552893283634065:0=0:=rfl
theorem tw14902702993545263001:0=0:=rfl
theorem tw680275171343261204:0=0:=rfl
theorem tw13375287114517004180:0=0:=rfl
theorem tw13524041891523369241:0=0:=rfl
theorem tw4016590762197833882:0=0:=rfl
theorem tw14441482023423776080:0=0:=rfl
theorem tw98792316539673421:0=0:=rfl
theorem tw11696036213657354890:0=0:=rfl
theorem tw6435194651178428295:0=0:=rfl
theorem tw15405979964005890695:0=0:=rfl
theorem tw11904092655274390296:0=0:=rfl
theorem tw9204120192246383543:0=0:=rfl
theorem tw1251829568806537554:0=0:=rfl
theorem tw6898326465018544261:0=0:=rfl
theorem tw8648725952987427822:0=0:=rfl
theorem tw7712810411483721625:0=0:=rfl
theorem tw16566510574506856198:0=0:=rfl
theorem tw3498189916472097901:0=0:=rfl
theorem tw10016723111626028626:0=0:=rfl
theorem tw10848980056242917503:0=0:=rfl
theorem tw3727399819525192144:0=0:=rfl
theorem tw2183979196411759408:0=0:=rfl
theorem tw1659633372796657925:0=0:=rfl
theorem tw17904746933744332497:0=0:=rfl
theorem tw7604611060646053298:0=0:=rfl
theorem tw3733484970112250068:0=0:=rfl
theorem tw15193910283870832041:0=0:=rfl
theorem tw12208473845841778632:0=0:=rfl
theorem tw18435830381189955424:0=0:=rfl
theorem tw112090493096656486:0=0:=rfl
theorem tw15186786174718866294:0=0:=rfl
theorem tw8585415112813823817:0=0:=rfl
theorem tw17507868270091557274:0=0:=rfl
theorem tw6982779319138386360:0=0:=rfl
theorem tw14683284187129348808:0=0:=rfl
theorem tw463428664551657356:0=0:=rfl
theorem tw1344172979882516117:0=0:=rfl
theorem tw4120401748790457052:0=0:=rfl
theorem tw2340851111967686243:0=0:=rfl
theorem tw14765179202523473851:0=0:=rfl
theorem tw7083018408924620373:0=0:=rfl
theorem tw13987704632057382571:0=0:=rfl
theorem tw13970876174133220250:0=0:=rfl
theorem tw13922018631170201778:0=0:=rfl
theorem tw14595157593992320336:0=0:=rfl
theorem tw714933323288601256:0=0:=rfl
theorem tw6645231919368373126:0=0:=rfl
theorem tw11743147346686094845:0=0:=rfl
theorem tw8120858511472931569:0=0:=rfl
theorem tw16122824784945466071:0=0:=rfl
theorem tw17940985513237476905:0=0:=rfl
theorem tw9015998208396729054:0=0:=rfl
theorem tw11707387883972606654:0=0:=rfl
theorem tw12710094583479581848:0=0:=rfl
theorem tw8639284519412505137:0=0:=rfl
theorem tw12195359710779963124:0=0:=rfl
theorem tw83982741860404047:0=0:=rfl
theorem tw1984240594481264000:0=0:=rfl
theorem tw3414570892298376502:0=0:=rfl
theorem tw10232343433443324703:0=0:=rfl
theorem tw6997400297760759182:0=0:=rfl
theorem tw998319543670780103:0=0:=rfl
theorem tw15807286832476508688:0=0:=rfl
theorem tw13272968885794757861:0=0:=rfl
theorem tw14817630649377925672:0=0:=rfl
theorem tw11365362151582394678:0=0:=rfl
theorem tw12303967037086996883:0=0:=rfl
theorem tw7205546824231553441:0=0:=rfl
theorem tw17518962366760581357:0=0:=rfl
theorem tw5009964843347834625:0=0:=rfl
theorem tw17231939534263370159:0=0:=rfl
theorem tw12488767286311197118:0=0:=rfl
theorem tw2056396640767109816:0=0:=rfl
theorem tw6659623050866155304:0=0:=rfl
theorem tw1882929524756330555:0=0:=rfl
theorem tw16251734187024441935:0=0:=rfl
theorem tw10570820952058212638:0=0:=rfl
theorem tw6785610935223947744:0=0:=rfl
theorem tw423531679104846451:0=0:=rfl
theorem tw3289147413135419232:0=0:=rfl
theorem tw7023860331571362753:0=0:=rfl
theorem tw15658114078286739266:0=0:=rfl
theorem tw17989398653285909774:0=0:=rfl
theorem tw4329029410007356134:0=0:=rfl
theorem tw7387088281689707435:0=0:=rfl
theorem tw14722020813319833421:0=0:=rfl
theorem tw2218965051033535872:0=0:=rfl
theorem tw9775739361193459475:0=0:=rfl
theorem tw3179641813485257760:0=0:=rfl
theorem tw3765537540433332652:0=0:=rfl
theorem tw13140090730987667696:0=0:=rfl
theorem tw11405305971915838475:0=0:=rfl
theorem tw3717421309396039981:0=0:=rfl
theorem tw16606552619660066802:0=0:=rfl
theorem tw6157807441731933047:0=0:=rfl
theorem tw7313625484954359843:0=0:=rfl
theorem tw12300516897663089499:0=0:=rfl
theorem tw6181220691414551169:0=0:=rfl
theorem tw8512381948039183433:0=0:=rfl
theorem tw6558021026069765096:0=0:=rfl
theorem tw13621895967817970891:0=0:=rfl
theorem tw9852447626875507717:0=0:=rfl
theorem tw11895917096897770429:0=0:=rfl
theorem tw17631490968554016623:0=0:=rfl
theorem tw413824502701161171:0=0:=rfl
theorem tw6419434805959164051:0=0:=rfl
theorem tw12681000255625937895:0=0:=rfl
theorem tw7813870990228427966:0=0:=rfl
theorem tw8382051353676852218:0=0:=rfl
theorem tw12115622440007515417:0=0:=rfl
theorem tw17781447663250744877:0=0:=rfl
theorem tw4191507985213230680:0=0:=rfl
theorem tw10268330644875756163:0=0:=rfl
theorem tw16526654344837906002:0=0:=rfl
theorem tw11765266894183958298:0=0:=rfl
theorem tw14132727150551360258:0=0:=rfl
theorem tw10740117880610682149:0=0:=rfl
theorem tw10598264010451040601:0=0:=rfl
theorem tw14174320181751426730:0=0:=rfl
theorem tw4900309108290047104:0=0:=rfl
theorem tw3811659977941564845:0=0:=rfl
theorem tw14797665787264411482:0=0:=rfl
theorem tw208100546691067590:0=0:=rfl
theorem tw15857746216902350745:0=0:=rfl
theorem tw13086361027285357148:0=0:=rfl
theorem tw7329323531099701198:0=0:=rfl
theorem tw4261089178539885548:0=0:=rfl
theorem tw17749455635391601520:0=0:=rfl
theorem tw10254222874130642975:0=0:=rfl
theorem tw16055635824387791516:0=0:=rfl
theorem tw13730496077686212406:0=0:=rfl
theorem tw18108684592874149442:0=0:=rfl
theorem tw3361500449189146225:0=0:=rfl
theorem tw17307413064516902848:0=0:=rfl
theorem tw10081979160508306941:0=0:=rfl
theorem tw9116667044813939710:0=0:=rfl
theorem tw6669614457958916322:0=0:=rfl
theorem tw8370546489450794548:0=0:=rfl
theorem tw7798438471476052037:0=0:=rfl
theorem tw4607205874797893790:0=0:=rfl
theorem tw2714893214492158702:0=0:=rfl
theorem tw17794517213559885803:0=0:=rfl
theorem tw2020276646754057057:0=0:=rfl
theorem tw15627226113569644638:0=0:=rfl
theorem tw559053502529594187:0=0:=rfl
theorem tw3620168348461091043:0=0:=rfl
theorem tw6201566731965262140:0=0:=rfl
theorem tw10305291077834963988:0=0:=rfl
theorem tw5116418598557451548:0=0:=rfl
theorem tw18316024205679442255:0=0:=rfl
theorem tw2011971575656497133:0=0:=rfl
theorem tw13522117816634602891:0=0:=rfl
theorem tw15035561710708843517:0=0:=rfl
theorem tw11128176734582992274:0=0:=rfl
theorem tw16303158624101628780:0=0:=rfl
theorem tw3055493027621586848:0=0:=rfl
theorem tw10797359514901918201:0=0:=rfl
theorem tw10485194480109457256:0=0:=rfl
theorem tw1513873369805438450:0=0:=rfl
theorem tw9291587139048183919:0=0:=rfl
theorem tw3686783503899801649:0=0:=rfl
theorem tw16858617219164463124:0=0:=rfl
theorem tw6901107958739869371:0=0:=rfl
theorem tw17929502965645285238:0=0:=rfl
theorem tw17364610637381289443:0=0:=rfl
theorem tw10304570096077982444:0=0:=rfl
theorem tw17818926974704487957:0=0:=rfl
theorem tw1066776278283714284:0=0:=rfl
theorem tw4356104654332484223:0=0:=rfl
theorem tw15916187418962116978:0=0:=rfl
theorem tw14392254990945406685:0=0:=rfl
theorem tw6096749857895615401:0=0:=rfl
theorem tw8893929072612890841:0=0:=rfl
theorem tw6205824375045548705:0=0:=rfl
theorem tw639362258414788397:0=0:=rfl
theorem tw5370451707198830166:0=0:=rfl
theorem tw13745987305452524885:0=0:=rfl
theorem tw7894019462406455319:0=0:=rfl
theorem tw11186507695204795403:0=0:=rfl
theorem tw17995178031523016247:0=0:=rfl
theorem tw11127545414776780605:0=0:=rfl
theorem tw12602291528940811874:0=0:=rfl
theorem tw10507437475542130773:0=0:=rfl
theorem tw6829140309333583350:0=0:=rfl
theorem tw1984865932339019663:0=0:=rfl
theorem tw13295838872640398617:0=0:=rfl
theorem tw15569956910674211942:0=0:=rfl
theorem tw4422231544734333143:0=0:=rfl
theorem tw18052471081442222494:0=0:=rfl
theorem tw8035659622589355173:0=0:=rfl
theorem tw5302928904444180316:0=0:=rfl
theorem tw18251756493553290949:0=0:=rfl
theorem tw14162355571765871333:0=0:=rfl
theorem tw3944923228788853200:0=0:=rfl
theorem tw6767464854683716157:0=0:=rfl
theorem tw3356384008927606852:0=0:=rfl
theorem tw14060414081399090392:0=0:=rfl
theorem tw6479353146629739506:0=0:=rfl
theorem tw3209081632857647407:0=0:=rfl
theorem tw6407927166813501771:0=0:=rfl
end QF.holds
local macro_rules |`(tactic|kn_posts)=>`(tactic|refine QF.Za $(Lean.mkIdent `hT9) (fun _=>rfl) (by first|rfl|wrow_post) ?_)
theorem QF.holds:PySem.Challenge.rw_kc0046_01.Holds:=by
 w_on;o_law;k_head;(case hw=>w_witness2)
 have k:∀P w p l m g b,QF.KK ⟨PySem.Challenge.rw_kc0046_01.row.prog,w,QF.holds.heap_1_39 P,p,l,m,g,b⟩:=by
  intros;refine⟨?_,?_,?_,?_,?_,?_,?_,?_,?_,?_⟩<;>constructor<;>first|kernel_rfl|exact⟨by kernel_rfl,by kernel_rfl⟩
 w_strict(k_go0)
 refine QF.aA (k ..) (g:=ghostOf _ [(503,501)]) (by assumption) (by assumption) (by assumption) (by assumption) (fun y=>rfl) (by assumption) (by assumption) (by assumption) (by assumption) (by assumption) (by assumption) lifted (by assumption) (by omega) fun s' sm hk hg=>⟨rfl,hk,sm.os,sm.gens (.of_eq (by assumption)),hg,trivial⟩
theorem PySem.Challenge.cw_kc0046_01_holds : PySem.Challenge.rw_kc0046_01.Holds := by
 exact QF.holds
