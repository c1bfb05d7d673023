import PyProof.Rows.All
import Wide.All
import OpenK.AllK
import KE.KUnpack
import Wide.FinOn
import Lean
import PySem.Challenge.RW_kq0033_06
set_option Elab.async false
set_option linter.all false
set_option genSizeOf false
set_option bootstrap.genMatcherCode false
set_option hygiene false in
local macro_rules
  |`(tactic|left) => `(tactic|refine let G : Prop := _;(?_ : G))
local macro_rules
  |`(tactic|right) => `(tactic|decide +kernel)
open PySem.Str (ofString)
section
open PySem PySem.W PySem.Calls PyProof.Rows
set_option tactic.hygienic false
set_option genInjectivity false
set_option genSizeOfSpec false
set_option maxRecDepth 100000
namespace Mine.Internal
def ya:=@congrArg
def yb:=@Nat.zero_le
def yc:=@Nat.le_of_lt
def yd:=@Nat.succ_pos
def ye:=@Nat.add_le_add
def yf:=@Nat.lt_add_of_pos_right
def yg:=@Nat.not_lt
def yh:=@Nat.le_succ
def yi:=@Option.some.inj
def yj:=@Nat.le_trans
def yk:=@wpAny_bind
def yl:=@And.intro
def ym:=@List.mem_cons_of_mem
def yn:=@wpAny_pure
def yo:=@List.getElem?_eq_some_iff
def yp:=@List.mem_cons_self
def yq:=@Nat.le_refl
def yr:=@wpAny_mono
def ys:=@List.getElem?_eq_getElem
def yt:=@decide_eq_true
def yu:=@Bool.and_eq_true_iff
def yv:=@decide_eq_false
def yw:=@List.mem_of_getElem?
def yx:=@List.mem_cons
def yy:=@Nat.lt_of_lt_of_le
def yz:=@Int.natCast_nonneg
def yA:=@Bool.false_ne_true
def yB:=@Heap.get?_push_of_some
def yC:=@of_decide_eq_true
def yD:=@Nat.succ_le_succ
def yE:=@wpAny_holding
def yF:=@Heap.get?_push_size
def yG:=@Nat.le_of_eq
def yH:=@Nat.le_of_ble_eq_true
def yI:=@Option.isSome_iff_exists
def yJ:=@List.eq_nil_of_length_eq_zero
def yK:=@List.all_eq_true
def yL:=@List.length_append
def yM:=@List.cons.inj
def yN:=@Nat.le_add_right
def yO:=@Nat.lt_succ_self
def yP:=@Heap.get?_none_of_le
def yQ:=@Nat.add_le_add_right
def yR:=@Int.ofNat_le
def yS:=@decide_eq_decide
def yT:=@wpAny_standAt
def yU:=@Nat.lt_of_le_of_lt
def yV:=@Nat.add_le_add_left
def yW:=@Nat.le_of_not_lt
def yX:=@List.mem_range
def yY:=@List.mem_singleton
def yZ:=@Int.not_lt
def xa:=@List.mem_append_right
def xb:=@Nat.le_add_left
def xc:=@Nat.le_succ_of_le
def xd:=@Nat.lt_of_not_le
def xe:=@Heap.get?_update_self
def xf:=@Heap.get?_update_other
theorem zad{α:Type}{x:α}{P:Prop}(h:(none:Option α)=some x):P:=nomatch h
theorem ziQ{α:Type}{x:α}{P:Prop}(h:some x=(none:Option α)):P:=nomatch h
theorem zaD{P:Prop}(h:false=true):P:=nomatch h
theorem zuB{P:Prop}(h:true=false):P:=nomatch h
theorem znD{α:Type}{x:α}{l:List α}{P:Prop}(h:[]=x::l):P:=nomatch h
theorem ziz{α:Type}{x:α}{l:List α}{P:Prop}(h:x::l=[]):P:=nomatch h
theorem zek{α β:Type}{x:α}{y:β}{P:Prop}(h:(Except.error x:Except α β)=.ok y):P:=nomatch h
theorem zb7{α:Type}{x:α}{P:Prop}(h:x∈[]):P:=nomatch h
theorem zmO{A B C:Prop}{G:Prop}(h:A∧B∧C)(k:A->B->C->G):G:=by
 obtain⟨q0,q1,q2⟩:=h;exact k  q0 q1 q2
theorem zvH{A B C D:Prop}{G:Prop}(h:A∧B∧C∧D)(k:A->B->C->D->G):G:=by
 obtain⟨q0,q1,q2,q3⟩:=h;exact k  q0 q1 q2 q3
theorem zzX{A B C D E:Prop}{G:Prop}(h:A∧B∧C∧D∧E)(k:A->B->C->D->E->G):G:=by
 obtain⟨q0,q1,q2,q3,q4⟩:=h;exact k  q0 q1 q2 q3 q4
theorem za1{α:Type}{A B:α->Prop}{G:Prop}(h:∃x,A x∧B x)(k:∀x,A x->B x->G):G:=by
 obtain⟨x,q0,q1⟩:=h;exact k _ q0 q1
theorem zcN{α:Type}{A B C:α->Prop}{G:Prop}(h:∃x,A x∧B x∧C x)(k:∀x,A x->B x->C x->G):G:=by
 obtain⟨x,q0,q1,q2⟩:=h;exact k _ q0 q1 q2
theorem zu8{α:Type}{A B C D:α->Prop}{G:Prop}(h:∃x,A x∧B x∧C x∧D x)(k:∀x,A x->B x->C x->D x->G):G:=by
 obtain⟨x,q0,q1,q2,q3⟩:=h;exact k _ q0 q1 q2 q3
theorem zAt{α:Type}{A B C D E:α->Prop}{G:Prop}(h:∃x,A x∧B x∧C x∧D x∧E x)(k:∀x,A x->B x->C x->D x->E x->G):G:=by
 obtain⟨x,q0,q1,q2,q3,q4⟩:=h;exact k _ q0 q1 q2 q3 q4
theorem zAU{α:Type}{A B C D E F:α->Prop}{G:Prop}(h:∃x,A x∧B x∧C x∧D x∧E x∧F x)(k:∀x,A x->B x->C x->D x->E x->F x->G):G:=by
 obtain⟨x,q0,q1,q2,q3,q4,q5⟩:=h;exact k _ q0 q1 q2 q3 q4 q5
theorem zfA{α β:Type}{A B:α->β->Prop}{G:Prop}(h:∃x y,A x y∧B x y)(k:∀x y,A x y->B x y->G):G:=by
 obtain⟨x,y,q0,q1⟩:=h;exact k _ _ q0 q1
theorem zfQ{α β:Type}{A B C:α->β->Prop}{G:Prop}(h:∃x y,A x y∧B x y∧C x y)(k:∀x y,A x y->B x y->C x y->G):G:=by
 obtain⟨x,y,q0,q1,q2⟩:=h;exact k _ _ q0 q1 q2
theorem zAh{α β:Type}{A B C D:α->β->Prop}{G:Prop}(h:∃x y,A x y∧B x y∧C x y∧D x y)(k:∀x y,A x y->B x y->C x y->D x y->G):G:=by
 obtain⟨x,y,q0,q1,q2,q3⟩:=h;exact k _ _ q0 q1 q2 q3
theorem zA3{α β:Type}{A B C D E F:α->β->Prop}{G:Prop}(h:∃x y,A x y∧B x y∧C x y∧D x y∧E x y∧F x y)(k:∀x y,A x y->B x y->C x y->D x y->E x y->F x y->G):G:=by
 obtain⟨x,y,q0,q1,q2,q3,q4,q5⟩:=h;exact k _ _ q0 q1 q2 q3 q4 q5
theorem zAm{α β γ:Type}{A B:α->β->γ->Prop}{G:Prop}(h:∃x y z,A x y z∧B x y z)(k:∀x y z,A x y z->B x y z->G):G:=by
 obtain⟨x,y,z,q0,q1⟩:=h;exact k _ _ _ q0 q1
theorem zra{α β γ:Type}{A B C:α->β->γ->Prop}{G:Prop}(h:∃x y z,A x y z∧B x y z∧C x y z)(k:∀x y z,A x y z->B x y z->C x y z->G):G:=by
 obtain⟨x,y,z,q0,q1,q2⟩:=h;exact k _ _ _ q0 q1 q2
theorem zuz{α β γ:Type}{A B C D:α->β->γ->Prop}{G:Prop}(h:∃x y z,A x y z∧B x y z∧C x y z∧D x y z)(k:∀x y z,A x y z->B x y z->C x y z->D x y z->G):G:=by
 obtain⟨x,y,z,q0,q1,q2,q3⟩:=h;exact k _ _ _ q0 q1 q2 q3
theorem zzT{α β γ δ:Type}{A B C D:α->β->γ->δ->Prop}{G:Prop}(h:∃x y z w,A x y z w∧B x y z w∧C x y z w∧D x y z w)(k:∀x y z w,A x y z w->B x y z w->C x y z w->D x y z w->G):G:=by
 obtain⟨x,y,z,w,q0,q1,q2,q3⟩:=h;exact k _ _ _ _ q0 q1 q2 q3
theorem zAq{α β γ δ:Type}{A B C D E F:α->β->γ->δ->Prop}{G:Prop}(h:∃x y z w,A x y z w∧B x y z w∧C x y z w∧D x y z w∧E x y z w∧F x y z w)(k:∀x y z w,A x y z w->B x y z w->C x y z w->D x y z w->E x y z w->F x y z w->G):G:=by
 obtain⟨x,y,z,w,q0,q1,q2,q3,q4,q5⟩:=h;exact k _ _ _ _ q0 q1 q2 q3 q4 q5
theorem zfh{α:Type}{A:α->Prop}{G:Prop}(h:∃x,A x)(k:∀x,A x->G):G:=by
 obtain⟨x,q0⟩:=h;exact k _ q0
theorem zzj{α β:Type}{A:α->β->Prop}{G:Prop}(h:∃x y,A x y)(k:∀x y,A x y->G):G:=by
 obtain⟨x,y,q0⟩:=h;exact k _ _ q0
theorem zbP{A B:Prop}{G:Prop}(h:A∧B)(k:A->B->G):G:=k h.1 h.2
theorem zbO{α:Type}{A B:α->Prop}(x:α)(q0:A x)(q1:B x):∃x,A x∧B x:=⟨x,q0,q1⟩
theorem zf8{α:Type}{A B C:α->Prop}(x:α)(q0:A x)(q1:B x)(q2:C x):∃x,A x∧B x∧C x:=⟨x,q0,q1,q2⟩
theorem zwj{α:Type}{A B C D:α->Prop}(x:α)(q0:A x)(q1:B x)(q2:C x)(q3:D x):∃x,A x∧B x∧C x∧D x:=⟨x,q0,q1,q2,q3⟩
theorem zA1{α:Type}{A B C D E:α->Prop}(x:α)(q0:A x)(q1:B x)(q2:C x)(q3:D x)(q4:E x):∃x,A x∧B x∧C x∧D x∧E x:=⟨x,q0,q1,q2,q3,q4⟩
theorem zxR{α β:Type}{A:α->β->Prop}(x:α)(y:β)(q0:A x y):∃x y,A x y:=⟨x,y,q0⟩
theorem zlq{α β:Type}{A B:α->β->Prop}(x:α)(y:β)(q0:A x y)(q1:B x y):∃x y,A x y∧B x y:=⟨x,y,q0,q1⟩
theorem zlk{α β:Type}{A B C:α->β->Prop}(x:α)(y:β)(q0:A x y)(q1:B x y)(q2:C x y):∃x y,A x y∧B x y∧C x y:=⟨x,y,q0,q1,q2⟩
theorem zkB{α β:Type}{A B C D:α->β->Prop}(x:α)(y:β)(q0:A x y)(q1:B x y)(q2:C x y)(q3:D x y):∃x y,A x y∧B x y∧C x y∧D x y:=⟨x,y,q0,q1,q2,q3⟩
theorem zAR{α β:Type}{A B C D E F:α->β->Prop}(x:α)(y:β)(q0:A x y)(q1:B x y)(q2:C x y)(q3:D x y)(q4:E x y)(q5:F x y):∃x y,A x y∧B x y∧C x y∧D x y∧E x y∧F x y:=⟨x,y,q0,q1,q2,q3,q4,q5⟩
theorem zAV{α β γ:Type}{A:α->β->γ->Prop}(x:α)(y:β)(z:γ)(q0:A x y z):∃x y z,A x y z:=⟨x,y,z,q0⟩
theorem zu2{α β γ:Type}{A B:α->β->γ->Prop}(x:α)(y:β)(z:γ)(q0:A x y z)(q1:B x y z):∃x y z,A x y z∧B x y z:=⟨x,y,z,q0,q1⟩
theorem zxL{α β γ:Type}{A B C:α->β->γ->Prop}(x:α)(y:β)(z:γ)(q0:A x y z)(q1:B x y z)(q2:C x y z):∃x y z,A x y z∧B x y z∧C x y z:=⟨x,y,z,q0,q1,q2⟩
theorem zsz{α β γ:Type}{A B C D:α->β->γ->Prop}(x:α)(y:β)(z:γ)(q0:A x y z)(q1:B x y z)(q2:C x y z)(q3:D x y z):∃x y z,A x y z∧B x y z∧C x y z∧D x y z:=⟨x,y,z,q0,q1,q2,q3⟩
theorem zzQ{α β γ:Type}{A B C D E:α->β->γ->Prop}(x:α)(y:β)(z:γ)(q0:A x y z)(q1:B x y z)(q2:C x y z)(q3:D x y z)(q4:E x y z):∃x y z,A x y z∧B x y z∧C x y z∧D x y z∧E x y z:=⟨x,y,z,q0,q1,q2,q3,q4⟩
theorem zAF{α β γ:Type}{A B C D E F:α->β->γ->Prop}(x:α)(y:β)(z:γ)(q0:A x y z)(q1:B x y z)(q2:C x y z)(q3:D x y z)(q4:E x y z)(q5:F x y z):∃x y z,A x y z∧B x y z∧C x y z∧D x y z∧E x y z∧F x y z:=⟨x,y,z,q0,q1,q2,q3,q4,q5⟩
theorem zAp{α β γ δ:Type}{A B C D:α->β->γ->δ->Prop}(x:α)(y:β)(z:γ)(w:δ)(q0:A x y z w)(q1:B x y z w)(q2:C x y z w)(q3:D x y z w):∃x y z w,A x y z w∧B x y z w∧C x y z w∧D x y z w:=⟨x,y,z,w,q0,q1,q2,q3⟩
theorem zAv{α β γ δ:Type}{A B C D E F:α->β->γ->δ->Prop}(x:α)(y:β)(z:γ)(w:δ)(q0:A x y z w)(q1:B x y z w)(q2:C x y z w)(q3:D x y z w)(q4:E x y z w)(q5:F x y z w):∃x y z w,A x y z w∧B x y z w∧C x y z w∧D x y z w∧E x y z w∧F x y z w:=⟨x,y,z,w,q0,q1,q2,q3,q4,q5⟩
theorem zdu{α:Type}{M:Model}{A:Around}{c:Prop}[i:Decidable c]{x y:Sem α}{Q:α->Shared->Prop}{E:Value->Shared->Prop}{s:Shared}(h:c)(k:wpAny M A x Q E s):wpAny M A (if c then x else y) Q E s:=by rw[if_pos h];exact k
theorem zbW{α:Type}{M:Model}{A:Around}{c:Prop}[i:Decidable c]{x y:Sem α}{Q:α->Shared->Prop}{E:Value->Shared->Prop}{s:Shared}(h:¬c)(k:wpAny M A y Q E s):wpAny M A (if c then x else y) Q E s:=by rw[if_neg h];exact k
noncomputable abbrev zc3:=Array (Int×Value)×Nat×SetTable
noncomputable def zan(d:zc3):Obj:={cls:=.type "frozenset",data:=.set d.1 d.2.1 d.2.2}
theorem zqE{h:Heap}{a:Addr}{o o':Obj}{f:Obj->Obj}(ho:h.get? a=some o)(e:f o=o'):h.update a f=h.update a (λ_=>o'):=by
 obtain⟨objs,life⟩:=h;have hx:=(Heap.get?_some_iff.mp ho).1;show Heap.mk (objs.modify a f) life=Heap.mk (objs.modify a λ_=>o') life
 congr 1
 apply Array.ext_getElem?;intro i;simp only[Array.getElem?_modify,Array.getElem?_modify];by_cases h:a=i
 ·subst h
  have hx':objs[a]?=some o:=hx;rw[if_pos rfl,if_pos rfl,hx'];simp[e]
 ·rw[if_neg h,if_neg h]
theorem zkv{h:Heap}{a:Addr}{o1 o2:Obj}:(h.update a (λ_=>o1)).update a (λ_=>o2)=h.update a (λ_=>o2):=by
 obtain⟨objs,life⟩:=h;show Heap.mk ((objs.modify a λ_=>o1).modify a λ_=>o2) life=Heap.mk (objs.modify a λ_=>o2) life
 congr 1
 apply Array.ext_getElem?;intro i;simp only[Array.getElem?_modify];by_cases h:a=i
 ·simp[h];rfl
 ·simp[h]
theorem zh2{h:Heap}{a:Addr}{o:Obj}(ho:h.get? a=some o):h.update a (λ_=>o)=h:=by
 obtain⟨objs,life⟩:=h;have hx:=(Heap.get?_some_iff.mp ho).1;show Heap.mk (objs.modify a _) life=_
 congr 1
 apply Array.ext_getElem?;intro i;rw[Array.getElem?_modify];by_cases q:a=i
 ·subst q
  have hx':objs[a]?=some o:=hx;rw[if_pos rfl,hx'];rfl
 ·rw[if_neg q]
theorem zgS{h:Heap}{a:Addr}{o:Obj}{d:zc3}(ho:h.get? a=some o):(h.update a (λ_=>zan d)).get? a=some (zan d):=
 xe _ ho rfl
section
variable{prog:Program}{w:World}{A:Around}{E:Value->Shared->Prop}{s:Shared}
structure zao(prog:Program)(w:World)(d:zc3)(l:List Str):Prop where
 el:ElemsOf (PySem.strKind prog w) d.1.toList
 mem:∀k,k∈l ↔ ∃e∈d.1.toList,(PySem.strKind prog w).is k e.2=true
 size:d.1.size=l.length
 small:l.length≤200
 fits:d.2.2.fits d.1.size=true
noncomputable def ins(l:List Str)(k:Str):List Str:=if k∈l then l else l++[k]
theorem zao.push{d:zc3}{l:List Str}(F:zao prog w d l){k:Str}{x:Value}(hk:(PySem.strKind prog w).is k x=true)(hx:x.scannable=true)(h200:l.length+1≤200)
  {es:Array (Int×Value)}(p:es.toList.Perm (d.1.push ((PySem.strKind prog w).hash k,x)).toList){ep:Nat}{t:SetTable}(hf:t.fits es.size=true) :
  zao prog w (es,ep,t) (l++[k]):=by
 rw[Array.toList_push]at p;refine⟨(F.el.push hk hx).perm p,λk'=>?_,?_,by simpa using h200,hf⟩
 ·have q:=mem_push_iff (S:=λk=>decide (k∈l)) hk (λk'=>by simpa using F.mem k') p k'
  rw[←q];simp
 ·show es.size=_
  rw[←Array.length_toList,p.length_eq,List.length_append,Array.length_toList,F.size];simp
theorem zao.perm{d:zc3}{l:List Str}(F:zao prog w d l){es:Array (Int×Value)}(p:es.toList.Perm d.1.toList){ep:Nat}{t:SetTable}(hf:t.fits es.size=true) :
  zao prog w (es,ep,t) l:=
 ⟨F.el.perm p,λk=>(F.mem k).trans ⟨λ⟨e,he,q⟩=>⟨e,p.mem_iff.mpr he,q⟩,λ⟨e,he,q⟩=>⟨e,p.mem_iff.mp he,q⟩⟩,
  by show es.size=_;rw[←Array.length_toList,p.length_eq,Array.length_toList,F.size],F.small,hf⟩
theorem zef{a:Addr}{d:zc3}{es':Array (Int×Value)}{t':SetTable}{Q:Unit->Shared->Prop}(ho:s.heap.get? a=some (zan d))(hz:es'.size≤sizeLine)
  (h:Q () {s with heap:=s.heap.update a (λ_=>zan (es',d.2.1+1,t'))}):wpAny (model prog w) A (storeSet a es' t') Q E s:=by
 refine wpAny_storeSet_of ho rfl ?_ hz;rw[zqE ho (putSet_of es' t' rfl)];exact h
theorem zao.scan{d:zc3}{l:List Str}(F:zao prog w d l){k:Str}:(d.1.toList.findIdx? (λe=>(PySem.strKind prog w).is k e.2)).isSome=decide (k∈l):=by
 cases hr:List.findIdx? (λe=>(PySem.strKind prog w).is k e.2) d.1.toList with
 |some j=>
  obtain⟨hj,hpj,_⟩:=List.findIdx?_eq_some_iff_getElem.mp hr;have:k∈l:=(F.mem k).mpr ⟨_,List.getElem_mem hj,hpj⟩;simp[this]
 |none=>
  have:k∉l:=λhk=>by
   obtain⟨e,he,hp⟩:=(F.mem k).mp hk;have:=List.findIdx?_eq_none_iff.mp hr e he;cases hp.symm.trans this
  simp[this]
theorem zao.bound{d:zc3}{l:List Str}(F:zao prog w d l):d.1.size<scanBound:=by
 rw[F.size];have:=F.small;show _<4096;lia
theorem zb3{n:Nat}(h:n≤200):n≤sizeLine:=by rw[sizeLine_eq];lia
theorem zgk{a:Addr}{d:zc3}{l:List Str}{k:Str}{x:Value}{Q:Bool->Shared->Prop}(hk:(PySem.strKind prog w).is k x=true)(hx:x.scannable=true)
  (ho:s.heap.get? a=some (zan d))(F:zao prog w d l)(h200:l.length+1≤200)
  (h:∀b d',zao prog w d' (ins l k)->Q b {s with heap:=s.heap.update a (λ_=>zan d')}) :
  wpAny (model prog w) A (setAddHashed a x ((PySem.strKind prog w).hash k)) Q E s:=by
 unfold setAddHashed setAddHashedIn;refine yE (yk (wpAny_setState_of ho rfl F.fits ?_));dsimp only;rw[byScan_of hx F.bound F.el];simp only[↓reduceIte];unfold setAddByScan;refine yk ?_;refine yk (wpAny_rule ?_);refine yk (wpAny_setScan_of hk ho rfl F.fits F.el ?_);have hs:=F.scan (k:=k);cases hr:List.findIdx? (λe=>(PySem.strKind prog w).is k e.2) d.1.toList with
 |some j=>
  dsimp only;rw[hr]at hs;have hl:k∈l:=by simpa using hs.symm
  refine yn (yn ?_);have:=h false d (by unfold ins;rw[if_pos hl];exact F);have e:=zh2 ho;rw[e]at this;exact this
 |none=>
  dsimp only;rw[hr]at hs;have hl:k∉l:=by simpa using hs.symm
  have hins:ins l k=l++[k]:=if_neg hl;rw[hins]at h;have hgw:∀(b:Bool){s₁:Shared}{Q':Unit->Shared->Prop},Q' () s₁->wpAny (model prog w) A (match b with|true=>rule "set.scan.the-table-gave-way"|false=>pure ()) Q' E s₁:=
   λb s₁ Q' hq=>by cases b<;>first|exact yn hq|exact wpAny_rule hq
  have hperm:=layNew_perm d.2.2 d.1 ((PySem.strKind prog w).hash k) x;have hfits:=layNew_fits d.2.2 d.1 ((PySem.strKind prog w).hash k) x;generalize hL:layNew d.2.2 d.1 ((PySem.strKind prog w).hash k) x=L at hperm hfits⊢;clear hL;obtain⟨es1,t1,wasDummy,gave⟩:=L;dsimp only at hperm hfits⊢;have hsz1:es1.size=l.length+1:=by
   rw[←Array.length_toList,hperm.length_eq,Array.toList_push,List.length_append,Array.length_toList,F.size];rfl
  refine yk (hgw _ ?_);have tail:∀(t2:SetTable),t2.fits es1.size=true->∀s₁:Shared,s₁=s->wpAny (model prog w) A (do
    storeSet a es1 t2
    if(!wasDummy&&t2.tooFull)=true then do
      (match (relayAll t2 es1 (SetTable.grown es1.size)).2.2 with|true=>rule "set.scan.the-table-gave-way"|false=>pure ())
      storeSet a (relayAll t2 es1 (SetTable.grown es1.size)).1 (relayAll t2 es1 (SetTable.grown es1.size)).2.1
      pure (some true)
     else pure (some true)) (λr s'=>∃b,r=some b∧Q b s') E s₁:=by
   rintro t2 hf2 s₁ rfl;refine yk (zef ho (zb3 (by lia)) ?_)
   split
   ·have hp:=relayAll_perm t2 es1 (SetTable.grown es1.size)
    have hfr:=relayAll_fits t2 es1 (SetTable.grown es1.size);generalize relayAll t2 es1 (SetTable.grown es1.size)=Rl at hp hfr⊢;obtain⟨es2,t3,gave2⟩:=Rl;dsimp only at hp hfr⊢;have hsz2:es2.size=es1.size:=by rw[←Array.length_toList,hp.length_eq,Array.length_toList]
    refine yk (hgw _ ?_);refine yk (zef (zgS ho) (zb3 (by lia)) ?_);refine yn ⟨true,rfl,?_⟩;show Q true {s₁ with heap:=(s₁.heap.update a _).update a _};rw[zkv];exact h true _ ((F.push hk hx h200 hperm (ep:=0) hf2).perm hp hfr)
   ·exact yn ⟨true,rfl,h true _ (F.push hk hx h200 hperm hf2)⟩
  have fin:∀(m:Sem (Option Bool)),wpAny (model prog w) A m (λr s'=>∃b,r=some b∧Q b s') E s->wpAny (model prog w) A m
    (λa_1 s'=>wpAny (model prog w) A (match a_1 with
     |some added=>pure added
     |none=>setAddHashedIn a x ((PySem.strKind prog w).hash k) 99999) Q E s') E s:=λm hm=>
   yr hm (λr s' ⟨b,e,q⟩=>by subst e;exact yn q) λ_ _ q=>q
  split
  ·refine yk ?_
   rw[hashByValue_scannable 8 hx];refine yn (fin _ (tail _ ?_ s rfl))
   split
   ·exact hfits
   ·exact SetTable.fits_plain_off hfits
  ·refine yk (yn ?_)
   simp only[↓reduceIte];exact fin _ (tail _ hfits s rfl)
theorem zvJ{a:Addr}{d:zc3}{l:List Str}{k:Str}{t:Tok}{Q:Bool->Shared->Prop}
  (ho:s.heap.get? a=some (zan d))(F:zao prog w d l)(h200:l.length+1≤200)
  (h:∀b d',zao prog w d' (ins l k)->Q b {s with heap:=s.heap.update a (λ_=>zan d'),toks:=s.toks+1}) :
  wpAny (model prog w) A (setAdd a (.str k t)) Q E s:=by
 unfold setAdd;refine yE (yk (wpAny_pyHash_str ?_));exact zgk (s:={s with toks:=s.toks+1}) (k:=k) (show Value.isStrOf k (.str k t)=true from by unfold Value.isStrOf;simp) rfl ho F h200 h
end
end Mine.Internal
end
section
open PySem
namespace Mine.Internal
open SetTable
noncomputable def zzd(m i:Nat):Nat:=(i*5+1)%(m+1)
noncomputable def zlp(m:Nat):Nat->Nat->Nat
 |0,i=>i
 |k+1,i=>zlp m k (zzd m i)
theorem zf9(m:Nat):∀a b i,zlp m (a+b) i=zlp m b (zlp m a i)
 |0,b,i=>by rw[Nat.zero_add];rfl
 |a+1,b,i=>by rw[Nat.add_right_comm];exact zf9 m a b (zzd m i)
structure Cyc(m:Nat):Prop where
 all:∀j,j<m+1->∃k,k<m+1∧zlp m k 0=j
 back:zlp m (m+1) 0=0
theorem Cyc.cover{m:Nat}(C:Cyc m){i j:Nat}(hi:i<m+1)(hj:j<m+1):∃k,k<m+1∧zlp m k i=j:=by
 obtain⟨a,ha,rfl⟩:=C.all i hi;obtain⟨b,hb,rfl⟩:=C.all j hj;by_cases h:a≤b
 ·exact⟨b-a,yU (Nat.sub_le ..) hb,by rw[←zf9,Nat.add_sub_cancel' h]⟩
 ·refine⟨m+1-a+b,Nat.lt_of_lt_of_eq (Nat.add_lt_add_left (xd h) _) (Nat.sub_add_cancel (yc ha)),?_⟩
  rw[←zf9,←Nat.add_assoc,Nat.add_sub_cancel' (Nat.le_of_lt ha),zf9,C.back]
theorem zAY:Cyc 7:=⟨by right,by right⟩
theorem zu6:Cyc 127:=⟨by right,by right⟩
noncomputable def seen(m:Nat):Nat->Nat->Nat->List Nat
 |0,_,_=>[]
 |f+1,i,p=>i::seen m f (leap m i p).1 (leap m i p).2
theorem zvZ(m i p:Nat):(leap m i p).1<m+1:=Nat.mod_lt _ (yd _)
theorem zmn{mask:Nat}{owner:Array (Option Nat)}:∀(f i p:Nat),layClean.free mask owner f i p=none->∀j∈seen mask f i p,owner.getD j (some 0)≠none
 |0,_,_,_,j,hj=>by simp[seen]at hj
 |f+1,i,p,h,j,hj=>by
  have h:(match (List.range (runEnd mask i+1-i)).find? (λk=>(owner.getD (i+k) (some 0)).isNone)with
   |some k=>some (i+k)
   |none=>layClean.free mask owner f (leap mask i p).1 (leap mask i p).2)=none:=h
  cases hf:(List.range (runEnd mask i+1-i)).find? (λk=>(owner.getD (i+k) (some 0)).isNone)with
  |some k=>rw[hf]at h;cases h
  |none=>
   rw[hf]at h;rcases yx.mp hj with rfl|hj
   ·have hr:j≤runEnd mask j:=by unfold runEnd;split<;>lia
    have:=List.find?_eq_none.mp hf 0 (yX.mpr (Nat.sub_pos_of_lt (Nat.lt_succ_of_le hr)));intro e;simp only[Nat.add_zero,e]at this;simp at this
   ·exact zmn f _ _ h j hj
theorem zme{mask:Nat}{owner:Array (Option Nat)}:∀(f i p j:Nat),layClean.free mask owner f i p=some j->owner.getD j (some 0)=none
 |0,_,_,_,h=>nomatch (show(none:Option Nat)=some _ from h)
 |f+1,i,p,j,h=>by
  have h:(match (List.range (runEnd mask i+1-i)).find? (λk=>(owner.getD (i+k) (some 0)).isNone)with
   |some k=>some (i+k)
   |none=>layClean.free mask owner f (leap mask i p).1 (leap mask i p).2)=some j:=h
  cases hf:(List.range (runEnd mask i+1-i)).find? (λk=>(owner.getD (i+k) (some 0)).isNone)with
  |some k=>
   rw[hf]at h;obtain rfl:=yi h;have:=List.find?_some hf;simpa using this
  |none=>rw[hf]at h;exact zme f _ _ _ h
theorem zmc(m:Nat):∀f i,∀k,k<f->zlp m k i∈seen m f i 0
 |0,_,k,h=>absurd h (Nat.not_lt_zero _)
 |f+1,i,0,_=>yp
 |f+1,i,k+1,h=>by
  have hl:leap m i 0=(zzd m i,0):=by unfold leap zzd;simp
  rw[seen];rw[hl];exact ym _ (zmc m f _ k (Nat.lt_of_succ_lt_succ h))
theorem zow{m:Nat}(C:Cyc m):∀d f i p,p<32^d->i<m+1->m+1+d≤f->∀j,j<m+1->j∈seen m f i p
 |0,f,i,p,hp,hi,hf,j,hj=>by
  have:p=0:=by simpa using hp
  subst this;obtain⟨k,hk,rfl⟩:=C.cover hi hj;exact zmc m f i k (yy hk hf)
 |d+1,f,i,p,hp,hi,hf,j,hj=>by
  induction f with
  |zero=>exact absurd hf (Nat.not_succ_le_zero _)
  |succ f=>
   rw[seen];refine ym _ (zow C d f _ _ ?_ (zvZ ..) (Nat.le_of_succ_le_succ hf) j hj);show p/32<32^d;rw[Nat.pow_succ]at hp;exact Nat.div_lt_of_lt_mul (by rw[Nat.mul_comm];exact hp)
theorem zpf{m:Nat}(C:Cyc m){owner:Array (Option Nat)}{h:Int}{j0:Nat}(hj:j0<m+1)(hn:owner.getD j0 (some 0)=none) :
  ∃j,layClean.free m owner (turns m) (bits h%(m+1)) (bits h)=some j∧owner.getD j (some 0)=none:=by
 cases hf:layClean.free m owner (turns m) (bits h%(m+1)) (bits h)with
 |some j=>exact⟨j,rfl,zme _ _ _ _ hf⟩
 |none=>
  have hb:bits h<32^13:=by
   unfold bits;have h1:(h%(2^64:Int))<2^64:=Int.emod_lt_of_pos _ (by decide);have h0:0≤(h%(2^64:Int)):=Int.emod_nonneg _ (by decide);have:(32:Nat)^13=2^65:=by decide
   lia
  exact absurd hn (zmn _ _ _ hf j0 (zow C 13 (turns m) _ _ hb (Nat.mod_lt _ (yd _)) (by unfold turns;lia) j0 hj))
theorem zkh{k:Nat}:∀(L:List (Option Nat))(j:Nat),L[j]?=some none->((L.set j (some k)).filterMap id).Perm (k::L.filterMap id)
 |[],j,h=>by simp at h
 |none::L,0,h=>by simp
 |some x::L,0,h=>by simp at h
 |none::L,j+1,h=>by simpa using zkh L j (by exact h)
 |some x::L,j+1,h=>by
  have:=zkh (k:=k) L j (by exact h);simp only[List.set_cons_succ,List.filterMap_cons,id];exact(this.cons x).trans (List.Perm.swap ..)
theorem zgy:∀(L:List (Option Nat)),(L.filterMap id).length<L.length->∃j:Nat,L[j]?=some none
 |[],h=>by simp at h
 |none::L,_=>⟨0,rfl⟩
 |some x::L,h=>by
  obtain⟨j,hj⟩:=zgy L (by simpa using h);exact⟨j+1,by exact hj⟩
noncomputable abbrev zqe(mask:Nat)(acc:Option (Array (Option Nat)×Nat))(h:Int):Option (Array (Option Nat)×Nat):=do
 let (owner,k) ←acc
 let j ←layClean.free mask owner (turns mask) (bits h%(mask+1)) (bits h)
 pure (owner.setIfInBounds j (some k),k+1)
theorem zoC{m:Nat}(C:Cyc m):∀(hs:List Int)(owner:Array (Option Nat))(k:Nat),owner.size=m+1->(owner.toList.filterMap id).Perm (List.range k)->k+hs.length≤m ->
  ∃owner',hs.foldl (zqe m) (some (owner,k))=some (owner',k+hs.length)∧owner'.size=m+1∧(owner'.toList.filterMap id).Perm (List.range (k+hs.length))
 |[],owner,k,hs,hp,_=>⟨owner,rfl,hs,hp⟩
 |h::hs,owner,k,hsz,hp,hl=>by
  simp only[List.length_cons]at hl;obtain⟨j0,hj0⟩:=zgy owner.toList (by simp only[hp.length_eq,List.length_range,Array.length_toList,hsz];lia);have hj0':owner[j0]?=some none:=by rw[←Array.getElem?_toList];exact hj0
  have hlt:j0<m+1:=by
   obtain⟨q,_⟩:=Array.getElem?_eq_some_iff.mp hj0';lia
  left;obtain⟨j,hj,hjn⟩:=zpf C (h:=h) hlt (show owner.getD j0 (some 0)=none by rw[Array.getD_eq_getD_getElem?,hj0'];rfl);have hjn':owner[j]?=some none:=by
   rw[Array.getD_eq_getD_getElem?]at hjn;cases hq:owner[j]? with
   |none=>rw[hq]at hjn;cases hjn
   |some v=>rw[hq]at hjn;simp at hjn;rw[hjn]
  obtain⟨owner',e1,e2,e3⟩:=zoC C hs (owner.setIfInBounds j (some k)) (k+1) (by simp[hsz]) (by
   have:(owner.setIfInBounds j (some k)).toList=owner.toList.set j (some k):=by simp
   rw[this];refine(zkh owner.toList j (by rw[Array.getElem?_toList];exact hjn')).trans ((hp.cons k).trans ?_);rw[List.range_succ];exact(List.perm_append_singleton k _).symm) (by lia)
  refine⟨owner',?_,e2,?_⟩
  ·simp only[List.foldl_cons,show k+(h::hs).length=k+1+hs.length by rw[List.length_cons,Nat.add_assoc,Nat.add_comm 1],←e1]
   congr 1
   show(do let j ←layClean.free m owner (turns m) (bits h%(m+1)) (bits h);pure (owner.setIfInBounds j (some k),k+1))=_;rw[hj];rfl
  ·rw[show k+(h::hs).length=k+1+hs.length by rw[List.length_cons,Nat.add_assoc,Nat.add_comm 1]];exact e3
theorem zk0{α β:Type}{f g:α->Option β}:∀{l:List α},(∀a∈l,f a=g a)->l.filterMap f=l.filterMap g
 |[],_=>rfl
 |a::l,h=>by
  rw[List.filterMap_cons,List.filterMap_cons,h a List.mem_cons_self,zk0 λb hb=>h b (List.mem_cons_of_mem _ hb)]
theorem znF:∀(L:List (Option Nat))(n:Nat),((List.range L.length).filterMap (λj=>((L[j]?).getD none).map λv=>(j+n,v))).map (·.2)=L.filterMap id
 |[],_=>rfl
 |x::L,n=>by
  rw[List.length_cons,List.range_succ_eq_map,List.filterMap_cons];have ih:=znF L (n+1);rw[List.filterMap_map];have e:(List.range L.length).filterMap ((λj=>(((x::L)[j]?).getD none).map λv=>(j+n,v)) ∘ Nat.succ)=(List.range L.length).filterMap (λj=>((L[j]?).getD none).map λv=>(j+(n+1),v)):=by
   apply zk0;intro j _;show(((x::L)[j+1]?).getD none).map _=_;simp only[List.getElem?_cons_succ,show j+1+n=j+(n+1) by lia]
  rw[e];clear e
  induction x with
  |none=>exact ih
  |some v=>simpa using ih
theorem zqS{m:Nat}(C:Cyc m){finger moves:Nat}{led plain:Bool}{hashes:Array Int}(hn:hashes.size≤m) :
  ∃t order,laid m finger moves led plain hashes=some (t,order)∧order.toList.Perm (List.range hashes.size)∧t.mask=m∧t.place.size=hashes.size∧t.dummies=#[]:=by
 left;obtain⟨owner,e1,e2,e3⟩:=zoC C hashes.toList (Array.replicate (m+1) none) 0 (by simp) (by
  rw[Array.toList_replicate];have:∀n,(List.replicate n (none:Option Nat)).filterMap id=[]:=λn=>by induction n with
   |zero=>rfl
   |succ n ih=>simpa[List.replicate_succ]using ih
  rw[this];exact List.Perm.refl _) (by rw[Array.length_toList];lia)
 have hl:layClean m hashes=some owner:=by
  unfold layClean;rw[←Array.foldl_toList];show(List.foldl (zqe m) _ _).map _=_;exact ya _ e1
 have hlive:((List.range (m+1)).filterMap λj=>(owner.getD j none).map (j,·)).map (·.2)=owner.toList.filterMap id:=by
  have:=znF owner.toList 0;simp only[Array.length_toList,e2]at this;rw[←this]
  congr 1
  apply zk0;intro j _;simp only[Array.getD_eq_getD_getElem?,Array.getElem?_toList];rfl
 have hp:(owner.toList.filterMap id).Perm (List.range hashes.size):=by simpa[Array.length_toList]using e3
 refine⟨_,_,by unfold laid;rw[hl];rfl,?_,rfl,?_,rfl⟩
 ·show(((List.range (m+1)).filterMap λj=>(owner.getD j none).map (j,·)).map (·.2)).Perm _
  exact hlive▸hp
 ·show(((List.range (m+1)).filterMap λj=>(owner.getD j none).map (j,·)).map (·.1)).toArray.size=_
  rw[List.size_toArray,List.length_map];have:=ya List.length hlive;rw[List.length_map]at this;simp only[this,hp.length_eq,List.length_range]
theorem zuu{m:Nat}(C:Cyc m)(finger moves:Nat)(led plain:Bool):∃t,laid m finger moves led plain #[]=some (t,#[])∧t.mask=m∧t.place=#[]∧t.dummies=#[]:=by
 left;obtain⟨t,order,h1,h2,h3,h4,h5⟩:=zqS C (finger:=finger) (moves:=moves) (led:=led) (plain:=plain) (hashes:=#[]) (yb _);have:order=#[]:=Array.ext' (by simpa using h2);subst this;exact⟨t,h1,h3,Array.eq_empty_of_size_eq_zero h4,h5⟩
end Mine.Internal
end
section
open PySem PySem.W PySem.Calls PyProof.Rows
set_option tactic.hygienic false
set_option genInjectivity false
set_option genSizeOfSpec false
set_option maxRecDepth 100000
namespace Mine.Internal
structure zd5(n m:Nat):Prop where
 cyc:Cyc m
 le:n≤m
 room:(n*5<21∧m=7)∨(21≤n*5∧SetTable.sizeAbove (n*2)=m+1)
theorem zsT:zd5 2 7:=⟨zAY,by decide,.inl ⟨by decide,rfl⟩⟩
theorem zrL:zd5 32 127:=⟨zu6,by decide,.inr ⟨by decide,by right⟩⟩
theorem zqf:zd5 33 127:=⟨zu6,by decide,.inr ⟨by decide,by right⟩⟩
section
variable{prog:Program}{w:World}{A:Around}{E:Value->Shared->Prop}{s:Shared}
theorem zaP{a:Addr}{d:zc3}{Q:(Array (Int×Value)×Nat×SetTable)->Shared->Prop}(ho:s.heap.get? a=some (zan d))(hf:d.2.2.fits d.1.size=true)(h:Q d s) :
  wpAny (model prog w) A (setState a) Q E s:=wpAny_setState_of ho rfl hf h
theorem SetTable.fits_of{t:SetTable}{n:Nat}(h1:t.place.size=n)(h2:t.dummies=#[])(h3:n≤t.mask):t.fits n=true:=by
 unfold SetTable.fits SetTable.fill;rw[h1,h2];simp;omega
theorem zoW{r:Addr}{d:zc3}{n m:Nat}{Q:Unit->Shared->Prop}(K:zd5 n m)(ho:s.heap.get? r=some (zan d))(he:d.1=#[])(hp:d.2.2.place=#[])(hd:d.2.2.dummies=#[])(hm:d.2.2.mask=7)
  (hn:n≤200)(h:∀d':zc3,d'.1=#[]->d'.2.2.place=#[]->d'.2.2.dummies=#[]->d'.2.2.mask=m->Q () {s with heap:=s.heap.update r (λ_=>zan d')}) :
  wpAny (model prog w) A (setRoomFor r n) Q E s:=by
 obtain⟨es,ep,t⟩:=d;dsimp only at he hp hd hm;subst he;have hf:t.fits (#[]:Array (Int×Value)).size=true:=SetTable.fits_of (ya _ hp) hd (by simp);unfold setRoomFor;refine yk (zaP ho hf ?_);have hrf:t.roomFor n=if n*5 ≥ 21 then some (n*2)else none:=by
  unfold SetTable.roomFor SetTable.fill;rw[hp,hd,hm];simp
 dsimp only;rw[hrf];rcases K.room with⟨h1,rfl⟩|⟨h1,h2⟩
 ·rw[if_neg (by lia)]
  refine yn ?_;have:=h (#[],ep,t) rfl hp hd hm;rw[zh2 ho]at this;exact this
 ·rw[if_pos h1]
  unfold setRelay;refine yk (zaP ho hf ?_);dsimp only;rw[h2];have hle:=K.le;have hlt:¬(m+1 > sizeLine):=by
   have:m+1=SetTable.sizeAbove (n*2):=h2.symm;rw[sizeLine_eq];have hb:m+1≤16777216:=by
    rw[this];have:∀k,k≤400->SetTable.sizeAbove k≤16777216:=by
     have q:∀k,k<401->SetTable.sizeAbove k≤16777216:=by right
     exact λk hk=>q k (by lia)
    exact this _ (by lia)
   lia
  refine zbW hlt ?_;have hre:t.relaid (Array.map (λx=>x.1) (#[]:Array (Int×Value))) (n*2)=SetTable.laid m t.finger (t.movedTo m) t.led t.plain #[]:=by
   unfold SetTable.relaid;rw[h2];simp
  refine zu8 (zuu K.cyc t.finger (t.movedTo m) t.led t.plain) λt' e1 e2 e3 e4=>?_;refine yk ?_;rw[hre,e1];show wpAny _ _ (do
   let es':=(#[]:Array Nat).filterMap ((#[]:Array (Int×Value))[·]?)
   if es'.size != (#[]:Array (Int×Value)).size then unsupported "internal:set-table-lost-an-element"
   pure (es',t')) _ _ s
  refine yn ?_;dsimp only;refine zef ho (by decide) ?_;exact h (#[],ep+1,t') rfl e3 e4 e2
theorem zrI{n:Nat}{order:Array Nat}{es:Array (Int×Value)}(hp:order.toList.Perm (List.range n))(hn:es.size=n):(order.filterMap (es[·]?)).toList.Perm es.toList:=by
 have e:(order.filterMap (es[·]?)).toList=order.toList.filterMap (λi=>es[i]?):=by simp
 rw[e];refine(hp.filterMap _).trans ?_;rw[←hn,filterMap_getElem?_range]
set_option tactic.hygienic true in
theorem znk{r o:Addr}{d0 d:zc3}{l:List Str}{m:Nat}{Q:Unit->Shared->Prop}(hro:r≠o)(K:zd5 l.length m)
  (hr:s.heap.get? r=some (zan d0))(he:d0.1=#[])(hp:d0.2.2.place=#[])(hd:d0.2.2.dummies=#[])(hm:d0.2.2.mask=7)
  (ho:s.heap.get? o=some (zan d))(F:zao prog w d l)(hl:l≠[])
  (h:∀d',zao prog w d' l->d'.2.2.mask=m->d'.2.2.dummies=#[]->Q () {s with heap:=s.heap.update r (λ_=>zan d')}) :
  wpAny (model prog w) A (setMerge r o) Q E s:=by
 unfold setMerge;refine zbW (show ¬(r==o)=true by simpa using hro) ?_;refine yk (zaP ho F.fits ?_);clear ho;obtain⟨eo,epo,to⟩:=d;dsimp only;have hne:eo.isEmpty=false:=by
  have hs:=F.size;dsimp only at hs;have:0<l.length:=List.length_pos_iff.mpr hl;rw[←Bool.not_eq_true];intro q;rw[Array.isEmpty_iff_size_eq_zero]at q;lia
 rw[hne];simp only[Bool.false_eq_true,↓reduceIte];have hsz:eo.size=l.length:=F.size;rw[hsz];refine yk (zoW K hr he hp hd hm F.small λd₁ q1 q2 q3 q4=>?_);obtain⟨e1a,ep1,t1a⟩:=d₁;dsimp only at q1 q2 q3 q4;subst q1;refine yk (zaP (zgS hr) (SetTable.fits_of (ya _ q2) q3 (by simp)) ?_);dsimp only;have hfill:t1a.fill=0:=by unfold SetTable.fill;rw[q2,q3];rfl
 have hroad:t1a.road to=if t1a.mask==to.mask&&to.dummies.isEmpty then .slotForSlot else .clean:=by
  unfold SetTable.road;rw[hfill];simp
 rw[hroad]
 split
 ·rename_i hroad'
  left
  split at hroad'
  ·rename_i hc
   simp only[Bool.and_eq_true,beq_iff_eq,Array.isEmpty_iff]at hc;refine zef (zgS hr) (zb3 (hsz▸F.small)) ?_;show Q () {s with heap:=(s.heap.update r _).update r _};rw[zkv];refine h _ (F.perm (List.Perm.refl _) ?_) (hc.1.symm.trans q4) hc.2;exact F.fits
  ·cases hroad'
 ·left
  obtain⟨t',order,e1,e2,e3,e4,e5⟩:=zqS K.cyc (finger:=t1a.finger) (moves:=t1a.moves) (led:=t1a.led&&to.led) (plain:=t1a.plain&&to.plain) (hashes:=eo.map (·.1)) (by simp;exact hsz▸K.le);have hpick:(order.filterMap (eo[·]?)).toList.Perm eo.toList:=zrI (n:=eo.size) (by simpa using e2) rfl;have hps:(order.filterMap (eo[·]?)).size=eo.size:=by rw[←Array.length_toList,hpick.length_eq,Array.length_toList]
  refine yk ?_;rw[q4,e1];show wpAny _ _ (do
   let es':=order.filterMap (eo[·]?)
   if es'.size != eo.size then unsupported "internal:set-table-lost-an-element"
   pure (es',t')) _ _ _
  dsimp only;rw[hps];refine zbW (by simp) ?_;refine yn ?_;dsimp only;refine zef (zgS hr) (zb3 (by rw[hps,hsz];exact F.small)) ?_;show Q () {s with heap:=(s.heap.update r _).update r _};rw[zkv];refine h _ (F.perm hpick (SetTable.fits_of (by rw[e4,hps];simp) e5 (by rw[hps,hsz,e3];exact K.le))) e3 e5
 ·rename_i hroad'
  left
  split at hroad'<;>cases hroad'
end
theorem zer{α:Type}:∀(l:List α)(i:Nat)(x:α),l[i]?=some x->(x::l.eraseIdx i).Perm l
 |[],_,_,h=>by simp at h
 |y::l,0,x,h=>by simp at h;subst h;exact List.Perm.refl _
 |y::l,i+1,x,h=>by
  simp only[List.getElem?_cons_succ]at h;rw[List.eraseIdx_cons_succ];exact(List.Perm.swap ..).trans ((zer l i x h).cons y)
theorem zib{α:Type}(next:Nat->Nat):∀(f k:Nat)(left:List α)(out:Array α),left.length≤f->(pickOrder.go next f k left out).toList.Perm (out.toList++left)
 |0,k,left,out,h=>by
  have:left=[]:=List.length_eq_zero_iff.mp (Nat.le_zero.mp h);clear h;subst this;show out.toList.Perm (out.toList++[]);rw[List.append_nil]
 |f+1,k,left,out,h=>by
  show(match left[next k%left.length]? with
   |some x=>pickOrder.go next f (k+1) (left.eraseIdx (next k%left.length)) (out.push x)
   |none=>out).toList.Perm _
  cases hx:left[next k%left.length]? with
  |none=>
   clear h
   induction left with
   |nil=>simp
   |cons y l=>
    have:next k%(y::l).length<(y::l).length:=Nat.mod_lt _ (yd _)
    rw[List.getElem?_eq_getElem this]at hx;exact ziQ hx
  |some x=>
   dsimp only;have hlt:=(yo.mp hx).1;have hp:=zer left _ x hx;refine(zib next f (k+1) _ _ (by rw[List.length_eraseIdx];split<;>lia)).trans ?_;rw[Array.toList_push,List.append_assoc];exact List.Perm.append_left _ hp
theorem zsa{α:Type}(next:Nat->Nat)(xs:Array α):(pickOrder next xs).toList.Perm xs.toList:=by
 have:=zib next xs.size 0 xs.toList #[] (by simp)
 simpa[pickOrder]using this
section
variable{prog:Program}{w:World}{A:Around}{E:Value->Shared->Prop}{s:Shared}
theorem ziU{a:Addr}{d:zc3}{l:List Str}{Q:Array (Int×Value)->Shared->Prop}(ho:s.heap.get? a=some (zan d))(F:zao prog w d l)
  (hled:d.2.2.led=true∧d.2.2.plain=true∨d.1.size≤1∨w.params.followText "set-order"=true)(h:∀es,es.toList.Perm d.1.toList->Q es s):wpAny (model prog w) A (setWalk a) Q E s:=by
 unfold setWalk;refine yk (zaP ho F.fits ?_);clear F ho;obtain⟨es,ep,t⟩:=d;dsimp only at hled h⊢;unfold setsByText;refine yk (yk (wpAny_askSetting (yn ?_)));cases hb:w.params.followText "set-order" with
 |true=>
  have hb':(({program:=(model prog w).prog,params:=(model prog w).w.params}:Setting).params.followText "set-order")=true:=hb;rw[hb'];simp only[↓reduceIte];refine yk (wpAny_askSetting (yn (h _ (zsa _ _))))
 |false=>
  have hb':(({program:=(model prog w).prog,params:=(model prog w).w.params}:Setting).params.followText "set-order")=false:=hb;rw[hb'];simp only[Bool.false_eq_true,↓reduceIte];have hd:(!t.plain&&decide (es.size > 1))=false:=by
   rcases hled with⟨_,q⟩|q|q
   ·rw[q];rfl
   ·have:¬es.size > 1:=by omega
    simp[this]
   ·exact zaD (hb.symm.trans q)
  show wpAny _ _ (if(!t.plain&&decide (es.size > 1))=true then _ else _) _ _ _;rw[hd];simp only[Bool.false_eq_true,↓reduceIte];have hm:(!t.led&&decide (es.size > 1))=false:=by
   rcases hled with⟨q,_⟩|q|q
   ·rw[q];rfl
   ·have:¬es.size > 1:=by omega
    simp[this]
   ·exact zaD (hb.symm.trans q)
  show wpAny _ _ (do (if(!t.led&&decide (es.size > 1))=true then unsupported "set:maker-not-led" else pure ());pure es) _ _ _;rw[hm];exact yk (yn (yn (h _ (List.Perm.refl _))))
theorem zkc{sets:List Addr}{Q:Bool->Shared->Prop}(hs:∀a∈sets,∃d l,s.heap.get? a=some (zan d)∧zao prog w d l)(h:Q true s):wpAny (model prog w) A (setsQuiet sets) Q E s:=by
 unfold setsQuiet;refine yk (yr (wpAny_forIn_list _ (λrest b s'=>s'=s∧b=⟨none,⟨⟩⟩∧∀a∈rest,∃d l,s.heap.get? a=some (zan d)∧zao prog w d l)
  (λb s'=>s'=s∧b=⟨none,⟨⟩⟩) ?turn (λb s' ⟨h1,h2,_⟩=>⟨h1,h2⟩) sets _ ⟨rfl,rfl,hs⟩) ?post λ_ _ q=>q)
 case turn=>
  clear h hs;rintro a rest b s' ⟨rfl,rfl,hr⟩;refine zfA (hr a yp) λd l ho F=>?_;unfold setEntries;refine yk (yk (zaP ho F.fits (yn ?_)));have hrest:∀a∈rest,∃d l,s'.heap.get? a=some (zan d)∧zao prog w d l:=λa ha=>hr a (ym _ ha);refine yk (yr (PySem.MeetsSeq2.wpAny_forIn_array _ (λxs b s''=>s''=s'∧b=⟨none,⟨⟩⟩∧∀e∈xs,∃k t,e.2=.str k t)
   (λb s''=>s''=s'∧b=⟨none,⟨⟩⟩) ?turn2 (λb s'' ⟨h1,h2,_⟩=>⟨h1,h2⟩) d.1 _ ⟨rfl,rfl,?init2⟩) ?post2 λ_ _ q=>q)
  case turn2=>
   clear hrest ho hr;rintro⟨hh,x⟩ xs b s'' ⟨rfl,rfl,hx⟩;refine zzj (hx _ yp) λk t e=>?_;dsimp only at e;subst e;exact yn ⟨rfl,rfl,λe he=>hx e (ym _ he)⟩
  case init2=>
   intro e he;left;obtain⟨⟨k,hk,_⟩,_⟩:=F.el e (by exact he);obtain⟨t,e⟩:=Value.isStrOf_shape hk;exact zxR k t e
  case post2=>
   clear ho hr;rintro b s'' ⟨rfl,rfl⟩;exact yn ⟨rfl,rfl,hrest⟩
 case post=>
  clear hs;rintro b s' ⟨rfl,rfl⟩;exact yn h
theorem zju{a:Addr}{others:List Addr}{filled:Option Addr}{d:zc3}{l:List Str}{Q:Array (Int×Value)->Shared->Prop}(ho:s.heap.get? a=some (zan d))(F:zao prog w d l)
  (hs:∀b∈others,∃d l,s.heap.get? b=some (zan d)∧zao prog w d l)(hf:d.1.size≤1∨filled=none)(h:∀es,es.toList.Perm d.1.toList->Q es s) :
  wpAny (model prog w) A (setWalkUnseen a others filled) Q E s:=by
 unfold setWalkUnseen;refine yk (zaP ho F.fits ?_);dsimp only;unfold setsByText;refine yk (yk (wpAny_askSetting (yn ?_)));cases hb:w.params.followText "set-order" with
 |true=>
  have hb':(({program:=(model prog w).prog,params:=(model prog w).w.params}:Setting).params.followText "set-order")=true:=hb;rw[hb'];simp only[Bool.true_or,↓reduceIte];exact ziU ho F (.inr (.inr hb)) h
 |false=>
  have hb':(({program:=(model prog w).prog,params:=(model prog w).w.params}:Setting).params.followText "set-order")=false:=hb;rw[hb'];simp only[Bool.false_or];by_cases hc:(d.2.2.led&&d.2.2.plain||decide (d.1.size≤1))=true
  ·refine zdu hc ?_
   refine ziU ho F ?_ h;simp only[Bool.or_eq_true,Bool.and_eq_true,decide_eq_true_eq]at hc;rcases hc with q|q
   ·exact .inl q
   ·exact .inr (.inl q)
  ·refine zbW hc ?_
   have hfn:filled=none:=hf.elim (λq=>absurd (by simp[q]) hc) id;clear hf;subst hfn;refine yk (zkc (λb hb=>?_) ?_)
   ·left
    rcases yx.mp hb with rfl|hb
    ·exact zlq d l ho F
    ·exact hs b hb
   ·simp only[Bool.not_true,Bool.false_eq_true,↓reduceIte]
    exact yk (wpAny_rule (yn (h _ (List.Perm.refl _))))
theorem zen{a:Addr}{d:zc3}{l:List Str}{Q:Nat->Shared->Prop}(ho:s.heap.get? a=some (zan d))(F:zao prog w d l)(h:Q d.2.1 s):wpAny (model prog w) A (setEpoch a) Q E s:=by
 unfold setEpoch;exact yk (zaP ho F.fits (yn h))
theorem zn0{d:zc3}{l:List Str}(F:zao prog w d l){e:Int×Value}(he:e∈d.1.toList):∃k t,k∈l∧e=((PySem.strKind prog w).hash k,.str k t):=by
 obtain⟨⟨k,hk,hh⟩,_⟩:=F.el e he;obtain⟨t,e2⟩:=Value.isStrOf_shape hk;exact zlq k t ((F.mem k).mpr (zbO e he hk)) (by obtain⟨a,b⟩:=e;dsimp only at hh e2;subst hh e2;rfl)
theorem zyf{d:zc3}{c:Str}(F:zao prog w d [c]):∃t,d.1.toList=[((PySem.strKind prog w).hash c,.str c t)]:=by
 have hs:=F.size;obtain⟨es,ep,tb⟩:=d;obtain⟨L⟩:=es;dsimp only at hs⊢;have hs:L.length=1:=hs;obtain⟨e,rfl⟩:=List.length_eq_one_iff.mp hs;refine zfA (zn0 F (e:=e) (by simp)) λk t hk hzz=>?_;subst hzz;rw[List.mem_singleton]at hk;subst hk;exact⟨t,rfl⟩
theorem zqA{r o:Addr}{dr d:zc3}{l:List Str}{c:Str}{each:Sem Unit}{Q:Unit->Shared->Prop}(hro:r≠o)(hr:s.heap.get? r=some (zan dr))(Fr:zao prog w dr l)(hl:l≠[])(h200:l.length+1≤200)
  (hroom:(dr.2.2.fill+1)*5<dr.2.2.mask*3)(ho:s.heap.get? o=some (zan d))(F:zao prog w d [c])
  (he:∀(s':Shared)(Q':Unit->Shared->Prop),s'.heap.get? o=some (zan d)->Q' () s'->wpAny (model prog w) A each Q' E s')
  (h:∀d',zao prog w d' (ins l c)->Q () {s with heap:=s.heap.update r (λ_=>zan d')}):wpAny (model prog w) A (setMerge r o each) Q E s:=by
 obtain⟨eo,epo,to⟩:=d;obtain⟨er,epr,tr⟩:=dr;dsimp only at hroom;unfold setMerge;refine zbW (show ¬(r==o)=true by simpa using hro) ?_;refine yk (zaP ho F.fits ?_);obtain⟨t,hd⟩:=zyf F;have hsz:eo.size=1:=by rw[←Array.length_toList,hd];rfl
 have hne:eo.isEmpty=false:=by
  rw[←Bool.not_eq_true,Array.isEmpty_iff_size_eq_zero];lia
 dsimp only;rw[hne];simp only[Bool.false_eq_true,↓reduceIte];unfold setRoomFor;refine yk (yk (zaP hr Fr.fits ?_));have hs1:eo.size=1:=hsz;have hrf:tr.roomFor eo.size=none:=by
  unfold SetTable.roomFor;rw[hsz,if_neg (by lia)]
 dsimp only;rw[hrf];refine yn ?_;refine yk (zaP hr Fr.fits ?_);have hfill:(tr.fill != 0)=true:=by
  have hf:=Fr.fits;simp only[SetTable.fits,Bool.and_eq_true,beq_iff_eq]at hf;have:0<l.length:=List.length_pos_iff.mpr hl;have hs:=Fr.size;dsimp only at hs hf;have:tr.fill≠0:=by unfold SetTable.fill;lia
  simpa using this
 have hroad:tr.road to=.oneByOne:=by unfold SetTable.road;rw[if_pos hfill]
 dsimp only;rw[hroad];dsimp only;refine yk (zju ho F (λb hb=>(zlq (er,epr,tr) l (by rw[List.mem_singleton.mp hb];exact hr) Fr)) (.inl (by show eo.size≤1;lia)) λes hp=>?_);rw[hd]at hp;have hes:es.toList=[((PySem.strKind prog w).hash c,Value.str c t)]:=List.perm_singleton.mp hp;have hes':es=#[((PySem.strKind prog w).hash c,Value.str c t)]:=Array.ext' hes;clear hes hp;subst hes';refine yk (yr (PySem.MeetsSeq2.wpAny_forIn_array _ (λxs b s'=>(xs=[((PySem.strKind prog w).hash c,Value.str c t)]∧s'=s)∨(xs=[]∧Q () s')) (λb s'=>Q () s') ?_ (λb s' hh=>?_) _ _ (.inl ⟨rfl,rfl⟩)) (λ_ _ q=>yn q) λ_ _ q=>q)
 ·rintro x rest b s' (⟨q,rfl⟩|⟨q,_⟩)
  ·injection q with q1 q2
   subst q1 q2;dsimp only;refine yk (yE (zgk (show Value.isStrOf c (.str c t)=true from by unfold Value.isStrOf;simp) rfl hr Fr h200 λb d' F'=>?_));have ho':({s' with heap:=s'.heap.update r (λ_=>zan d')}:Shared).heap.get? o=some (zan (eo,epo,to)):=by
    show(s'.heap.update r _).get? o=_;rw[Heap.get?_update_other _ _ hro];exact ho
   refine yk (he _ _ ho' ?_);refine yk (zaP ho' F.fits ?_);refine zbW (by simp) ?_;exact yn (.inr ⟨rfl,h d' F'⟩)
  ·exact ziz q
 ·rcases hh with⟨q,_⟩|⟨_,q⟩
  ·exact znD q
  ·exact q
theorem zhj:isSubtype (.type "frozenset") (.type "set")=pure false:=by rw[isSubtype_type];kernel_rfl
theorem zkp:isSubtype (.type "frozenset") (.type "frozenset")=pure true:=by rw[isSubtype_type];kernel_rfl
theorem zgO{a:Addr}{d:zc3}(ho:s.heap.get? a=some (zan d)):s.TypeIs (.ref a) "frozenset":=⟨_,ho,rfl⟩
theorem zbL{a:Addr}{d:zc3}{Q:Bool->Shared->Prop}(ho:s.heap.get? a=some (zan d))(h:Q true s):wpAny (model prog w) A (Builtin.Frozenset.isAnySet (.ref a)) Q E s:=by
 unfold Builtin.Frozenset.isAnySet;unfold orM;refine yk (wpAny_isInstance (zgO ho) zhj ?_);exact wpAny_isInstance (zgO ho) zkp h
theorem zm0{Q:Value->Shared->Prop}(h:∀led:Bool,Q (.ref s.heap.objs.size) {s with heap:=s.heap.push (zan (#[],0,.fresh 0 0 led))}) :
  wpAny (model prog w) A (newSet (.type "frozenset")) Q E s:=by
 unfold newSet setsByText;refine yk (yk (wpAny_askSetting (yn ?_)));dsimp only;simp only[newObj];exact yk (wpAny_alloc (yn (h _)))
theorem zks{h:Heap}{o o':Obj}:(h.push o).update h.objs.size (λ_=>o')=h.push o':=by
 obtain⟨objs,life⟩:=h;show Heap.mk ((objs.push o).modify objs.size _) life=Heap.mk (objs.push o') life
 congr 1
 apply Array.ext_getElem?;intro i;rw[Array.getElem?_modify,Array.getElem?_push,Array.getElem?_push];by_cases q:i=objs.size
 ·subst q;simp
 ·simp[q,Ne.symm q]
theorem ziP{a:Addr}{d:zc3}{l:List Str}{m:Nat}{Q:Value->Shared->Prop}(K:zd5 l.length m)(ho:s.heap.get? a=some (zan d))(F:zao prog w d l)(hl:l≠[])
  (h:∀d',zao prog w d' l->d'.2.2.mask=m->d'.2.2.dummies=#[]->Q (.ref s.heap.objs.size) {s with heap:=s.heap.push (zan d')}) :
  wpAny (model prog w) A (Builtin.Frozenset.copyOf a) Q E s:=by
 unfold Builtin.Frozenset.copyOf Builtin.Frozenset.baseOf;refine yk (yk (wpAny_isInstance (zgO ho) zhj ?_));simp only[Bool.false_eq_true,↓reduceIte];refine yn ?_;refine yk (zm0 λled=>?_);unfold Builtin.Frozenset.addrOf;refine yk (yn ?_);have hlt:a<s.heap.objs.size:=Heap.lt_size ho;refine yk (znk (Nat.ne_of_gt hlt) K (yF _ rfl) rfl rfl rfl rfl (yB _ ho) F hl λd' F' h1 h2=>yn ?_);show Q _ {s with heap:=(s.heap.push _).update _ _};rw[zks];exact h d' F' h1 h2
theorem zwf{d:zc3}{l:List Str}(F:zao prog w d l)(hd:d.2.2.dummies=#[]):d.2.2.fill=l.length:=by
 have hf:=F.fits;simp only[SetTable.fits,Bool.and_eq_true,beq_iff_eq]at hf;unfold SetTable.fill;simp only[hd,hf.1,F.size];rfl
theorem zvB{a b:Addr}{da db:zc3}{l:List Str}{c:Str}{m:Nat}{Q:PySem.Fin->Shared->Prop}(K:zd5 l.length m)(hm:(l.length+1)*5<m*3)(hab:a≠b)(h200:l.length+1≤200)
  (ha:s.heap.get? a=some (zan da))(Fa:zao prog w da l)(hl:l≠[])(hb:s.heap.get? b=some (zan db))(Fb:zao prog w db [c])
  (h:∀d',zao prog w d' (ins l c)->Q (.done (.ret (.ref s.heap.objs.size))) {s with heap:=s.heap.push (zan d')}) :
  wpAny (model prog w) A (Builtin.«frozenset.__or__» ⟨[.ref a,.ref b],[]⟩) Q E s:=by
 show wpAny _ _ (do
  let (x,y):=((Value.ref a,Value.ref b):Value×Value)
  if !(←(Builtin.Frozenset.isAnySet x <&&> Builtin.Frozenset.isAnySet y))then rule s!"frozenset.__or__.declined";return ←ret .notImplemented
  ret (←(do
   let result ←Builtin.Frozenset.copyOf a
   if y != .ref a then holding [result] (Builtin.Frozenset.updateFrom s!"frozenset.__or__" (←Builtin.Frozenset.addrOf result) y)
   return result))) _ _ _
 dsimp only;refine yk ?_;unfold andM;refine yk (zbL ha ?_);refine zbL hb ?_;simp only[Bool.not_true,Bool.false_eq_true,↓reduceIte];refine yk (yk (ziP K ha Fa hl λd₁ F1 hm1 hd1=>?_));refine zdu (show(Value.ref b != Value.ref a)=true by simpa using Ne.symm hab) ?_;have hfill:=zwf F1 hd1;have hb':=yB (zan d₁) hb;have hr':(s.heap.push (zan d₁)).get? s.heap.objs.size=some (zan d₁):=yF _ rfl;have hblt:b<s.heap.objs.size:=Heap.lt_size hb;unfold Builtin.Frozenset.updateFrom;refine yk (yn (yk (yE ?_)));refine yk (zbL hb' ?_);simp only[↓reduceIte];unfold Builtin.Frozenset.merge;refine yk (yn ?_);refine yk (zen hb' Fb ?_);refine zqA (Nat.ne_of_gt hblt) hr' F1 hl h200 (by rw[hfill,hm1];exact hm) hb' Fb (λs' Q' hs' hq=>?_) λd' F'=>yn ?_
 ·unfold Builtin.Frozenset.unchanged
  refine yk (zen hs' Fb ?_);refine zbW (by simp) ?_;exact yn hq
 ·show wpAny _ _ (ret (Value.ref s.heap.objs.size)) _ _ {s with heap:=(s.heap.push _).update _ _}
  rw[zks];exact yn (h d' F')
theorem zjn{α:Type}[DecidableEq α]:∀{m t:List α},m.Nodup->m ⊆ t->m.length≤t.length
 |[],_,_,_=>yb _
 |a::m,t,hn,hs=>by
  have ha:a∈t:=hs yp;have hn':=List.nodup_cons.mp hn;have:=zjn (m:=m) (t:=t.erase a) hn'.2 λx hx=>(List.mem_erase_of_ne (λe:x=a=>hn'.1 (e▸hx))).mpr (hs (ym _ hx));rw[List.length_erase_of_mem ha]at this;exact Nat.add_le_of_le_sub (List.length_pos_of_mem ha) this
noncomputable def without(l:List Str)(r:List Str):List Str:=l.filter λk=>decide (k∉r)
theorem zdO{α:Type}(xs:Array α)(p:Nat):(SetTable.eraseAt xs p).toList=xs.toList.eraseIdx p:=by
 unfold SetTable.eraseAt;simp only[Array.toList_append,Array.toList_extract,Array.toList_extract,List.extract_eq_take_drop,List.extract_eq_take_drop,List.eraseIdx_eq_take_drop_succ];simp only[Nat.sub_zero,List.drop_zero];rw[List.take_of_length_le (l:=List.drop (p+1) xs.toList) (by simp)]
structure zoe(d:zc3)(m k:Nat):Prop where
 mask:d.2.2.mask=m
 dum:d.2.2.dummies.size≤k
theorem zm7{a:Addr}{d:zc3}{l:List Str}{c:Str}{t:Tok}{m k:Nat}{Q:Bool->Shared->Prop}(hn:l.Nodup)(ho:s.heap.get? a=some (zan d))(F:zao prog w d l)(S:zoe d m k)
  (h:∀b d',zao prog w d' (l.filter λx=>decide (x≠c))->zoe d' m (k+1)->Q b {s with heap:=s.heap.update a (λ_=>zan d')}) :
  wpAny (model prog w) A (setDiscardHashed a (.str c t) ((PySem.strKind prog w).hash c)) Q E s:=by
 have hk:(PySem.strKind prog w).is c (.str c t)=true:=show Value.isStrOf c (.str c t)=true from by unfold Value.isStrOf;simp
 unfold setDiscardHashed;obtain⟨es,ep,tb⟩:=d;have hel:ElemsOf (PySem.strKind prog w) es.toList:=F.el;have hsz:es.size=l.length:=F.size;have hfit:tb.fits es.size=true:=F.fits;refine yk ?_;unfold setFind setFindIn;refine yk (zaP ho F.fits ?_);dsimp only;rw[byScan_of (x:=.str c t) rfl F.bound hel];simp only[↓reduceIte];refine yk (wpAny_rule ?_);refine yk (wpAny_setScan_of hk ho rfl F.fits hel ?_);have hscan:=F.scan (k:=c);dsimp only at hscan;cases hr:List.findIdx? (λe=>(PySem.strKind prog w).is c e.2) es.toList with
 |none=>
  dsimp only;rw[hr]at hscan;have hl:c∉l:=by exact of_decide_eq_false hscan.symm
  refine yn (yn ?_);have e:l.filter (λx=>decide (x≠c))=l:=List.filter_eq_self.mpr λx hx=>by simpa using λq:x=c=>hl (q▸hx)
  have:=h false (es,ep,tb) (by rw[e];exact F) ⟨S.mask,xc S.dum⟩;rw[zh2 ho]at this;exact this
 |some j=>
  dsimp only;clear hscan;obtain⟨hj,hpj,hfirst⟩:=List.findIdx?_eq_some_iff_getElem.mp hr;rw[Nat.zero_add];refine yn ?_;refine yk (zaP ho F.fits ?_);dsimp only;have hj':j<es.size:=by exact hj
  have hpl:tb.place.size=es.size:=by
   have:=hfit;simp only[SetTable.fits,Bool.and_eq_true,beq_iff_eq]at this;exact this.1
  have hfl:tb.fill≤tb.mask:=by
   have:=hfit;simp only[SetTable.fits,Bool.and_eq_true,decide_eq_true_eq]at this;exact this.2
  clear hr;obtain⟨v,hv⟩:∃v,tb.place[j]?=some v:=⟨_,Array.getElem?_eq_getElem (by lia)⟩;have hle:(SetTable.eraseAt es j).size=es.size-1:=by
   rw[←Array.length_toList,zdO,List.length_eraseIdx,Array.length_toList,if_pos hj']
  refine yk (zef ho (zb3 (by rw[hle,hsz];have:=F.small;omega)) ?_);refine yk (wpAny_point (yn ?_));have hp:=zer es.toList j es.toList[j] (ys hj);have hdrop:tb.drop j={tb with place:=SetTable.eraseAt tb.place j,dummies:=SetTable.insertAt tb.dummies (SetTable.below tb.dummies v) v}:=by
   unfold SetTable.drop;rw[hv]
  have hps:(SetTable.eraseAt tb.place j).size=es.size-1:=by
   rw[←Array.length_toList,zdO,List.length_eraseIdx,Array.length_toList,hpl,if_pos hj']
  have hds:(SetTable.insertAt tb.dummies (SetTable.below tb.dummies v) v).size=tb.dummies.size+1:=by
   rw[←Array.length_toList,(SetTable.insertAt_perm ..).length_eq,Array.toList_push,List.length_append,Array.length_toList];rfl
  have hmem:∀k',k'∈l.filter (λx=>decide (x≠c)) ↔ ∃e∈(SetTable.eraseAt es j).toList,(PySem.strKind prog w).is k' e.2=true:=by
   intro k';rw[zdO,List.mem_filter,F.mem k']
   constructor
   ·rintro⟨⟨e,he,hq⟩,hne⟩
    have hne:k'≠c:=by exact yC hne
    left;rcases yx.mp (hp.mem_iff.mpr he)with rfl|he'
    ·exact absurd ((PySem.strKind prog w).inj _ _ _ hq hpj) hne
    ·exact zbO e he' hq
   ·rintro⟨e,he,hq⟩
    refine⟨(zbO e (hp.mem_iff.mp (ym _ he)) hq),?_⟩;have:k'≠c:=by
     rintro rfl
     -- two entries of one text: the list would be shorter than the entries
     have key:∀(L:List (Int×Value))(m:List Str),m.Nodup->L.length=m.length->(∀k,k∈m ↔ ∃e∈L,(PySem.strKind prog w).is k e.2=true)->(∀e∈L,∃k,(PySem.strKind prog w).is k e.2=true) ->
       ∀e1 (L1:List (Int×Value)),(e1::L1).Perm L->∀e2∈L1,∀k,(PySem.strKind prog w).is k e1.2=true->(PySem.strKind prog w).is k e2.2=true->False:=by
      intro L m hm hlen hmm hk e1 L1 hp e2 he2 k h1 h2
      -- m is a subset of the texts of L1
      have hL1:∀k,k∈m->∃e∈L1,(PySem.strKind prog w).is k e.2=true:=λk' hk'=>by
       refine za1 ((hmm k').mp hk') λe he hq=>?_;rcases yx.mp (hp.mem_iff.mpr he)with rfl|he'
       ·have:k'=k:=(PySem.strKind prog w).inj _ _ _ hq h1
        subst this;exact zbO e2 he2 h2
       ·exact zbO e he' hq
      have hlen1:L1.length+1=m.length:=by rw[←hlen,←hp.length_eq];rfl
      -- texts of L1 as a list
      have htx:∃tx:List Str,tx.length=L1.length∧∀k,(∃e∈L1,(PySem.strKind prog w).is k e.2=true)->k∈tx:=by
       have:∀(L1:List (Int×Value)),(∀e∈L1,∃k,(PySem.strKind prog w).is k e.2=true)->∃tx:List Str,tx.length=L1.length∧∀k,(∃e∈L1,(PySem.strKind prog w).is k e.2=true)->k∈tx:=by
        intro L1
        induction L1 with
        |nil=>exact λ_=>(zbO ([]) rfl (λk ⟨e,he,_⟩=>by exact zb7 he))
        |cons e L1 ih=>
         intro hk;refine za1 (ih λe he=>hk e (ym _ he)) λtx t1 t2=>?_;obtain⟨k,hke⟩:=hk e yp;refine zbO (k::tx) (by simp[t1]) (λk' ⟨e',he',hq⟩=>?_);rcases yx.mp he' with rfl|he'
         ·rw[(PySem.strKind prog w).inj _ _ _ hq hke];exact yp
         ·exact ym _ (t2 k' (zbO e' he' hq))
       exact this L1 λe he=>hk e (hp.mem_iff.mp (ym _ he))
      refine za1 htx λtx t1 t2=>?_;have hsub:m ⊆ tx:=λk hk=>t2 k (hL1 k hk);have:=zjn hm hsub;lia
     exact key es.toList l hn (Array.length_toList.trans hsz) F.mem (λe he=>let ⟨⟨k,q,_⟩,_⟩:=hel e he;⟨k,q⟩) _ _ hp e he _ hpj hq
    exact yt this
  have hnd:(l.filter λx=>decide (x≠c)).length=l.length-1:=by
   have hc:c∈l:=(F.mem c).mpr (zbO _ (List.getElem_mem hj) hpj);have e:(l.filter λx=>decide (x≠c))=l.erase c:=by
    rw[hn.erase_eq_filter]
    congr 1
    funext x
    simp[bne,BEq.beq]
   simp only[e,List.length_erase_of_mem hc]
  have F':zao prog w (SetTable.eraseAt es j,ep+1,tb.drop j) (l.filter λx=>decide (x≠c)):=by
   refine⟨λe he=>hel e ?_,hmem,?_,?_,?_⟩
   ·have:e∈es.toList.eraseIdx j:=by rw[←zdO];exact he
    exact hp.mem_iff.mp (ym _ this)
   ·show(SetTable.eraseAt es j).size=_
    simp only[hle,hnd,hsz]
   ·rw[hnd];have:=F.small;omega
   ·show(tb.drop j).fits (SetTable.eraseAt es j).size=true
    rw[hdrop];unfold SetTable.fits SetTable.fill;dsimp only;simp only[hps,hds,hle];unfold SetTable.fill at hfl;simp;lia
  exact h true _ F' ⟨by show(tb.drop j).mask=m;exact(ya _ hdrop).trans S.mask,by show(tb.drop j).dummies.size≤k+1;rw[hdrop];dsimp only;rw[hds];exact yD S.dum⟩
end
section
variable{prog:Program}{w:World}{A:Around}{E:Value->Shared->Prop}{s:Shared}
theorem zgd{a:Addr}{d:zc3}{l:List Str}{Q:Nat->Shared->Prop}(ho:s.heap.get? a=some (zan d))(F:zao prog w d l)(h:Q l.length s) :
  wpAny (model prog w) A (Builtin.Frozenset.sizeOf a) Q E s:=by
 unfold Builtin.Frozenset.sizeOf setEntries;refine yk (yk (zaP ho F.fits (yn (yn ?_))));exact F.size▸h
theorem znf{α β:Type}[DecidableEq α](l:List α)(P:α->β->Bool)(done:List β)(e:β)(k:α)(hx:∀x,P x e=false↔x≠k)[∀(L:List β)(x:α),Decidable (∀b∈L,P x b=false)] :
  (l.filter λx=>decide (∀b∈done++[e],P x b=false))=(l.filter λx=>decide (∀b∈done,P x b=false)).filter λx=>decide (x≠k):=by
 rw[List.filter_filter];apply List.filter_congr;intro x _;rw[←Bool.decide_and];apply yS.mpr;rw[List.forall_mem_append,←hx x]
 constructor
 ·rintro⟨a,b⟩;exact⟨b e (yY.mpr rfl),a⟩
 ·rintro⟨a,b⟩;exact⟨b,λe' he=>by rw[List.mem_singleton.mp he];exact a⟩
theorem zmz{r o:Addr}{id:String}{dr d:zc3}{l rem:List Str}{m:Nat}{Q:Unit->Shared->Prop}(hro:r≠o)(hn:l.Nodup)(hr:s.heap.get? r=some (zan dr))(Fr:zao prog w dr l)
  (hm:dr.2.2.mask=m)(hd:dr.2.2.dummies=#[])(ho:s.heap.get? o=some (zan d))(F:zao prog w d rem)(h2:rem.length≤2)(h8:rem.length/8≤l.length)(hm4:2≤m/4)
  (h:∀d',zao prog w d' (without l rem)->Q () {s with heap:=s.heap.update r (λ_=>zan d')}) :
  wpAny (model prog w) A (Builtin.Frozenset.differenceUpdate id r (.ref o)) Q E s:=by
 unfold Builtin.Frozenset.differenceUpdate;refine zbW (show ¬(Value.ref o==Value.ref r)=true by simpa using Ne.symm hro) ?_;refine yk (zbL ho ?_);simp only[↓reduceIte];unfold Builtin.Frozenset.addrOf;refine yk (yn ?_);refine yk (zgd ho F ?_);refine yk (zgd hr Fr ?_);refine zbW (by lia) ?_;refine yk (zen ho F ?_);refine yk (yE ?_);refine yk (zju ho F (λb hb=>(zlq dr l (by rw[List.mem_singleton.mp hb];exact hr) Fr)) (.inr rfl) λes hp=>?_);have hlen:es.toList.length≤2:=by simp only[hp.length_eq,Array.length_toList,F.size];exact h2
 refine yk (yr (PySem.MeetsSeq2.wpAny_forIn_array _
  (λxs _ s'=>∃done d' ,es.toList=done++xs∧s'={s with heap:=s.heap.update r (λ_=>zan d')}∧zao prog w d' (l.filter λx=>decide (∀e∈done,(PySem.strKind prog w).is x e.2=false))∧zoe d' m done.length)
  (λ_ s'=>∃d',s'={s with heap:=s.heap.update r (λ_=>zan d')}∧zao prog w d' (without l rem)∧zoe d' m 2) ?turn ?fin es _ ?init) ?post λ_ _ q=>q)
 case turn=>
  rintro⟨hh,x⟩ rest b s' ⟨done,d',he,rfl,F',S'⟩;have hmem:(hh,x)∈d.1.toList:=hp.mem_iff.mp (by rw[he];exact xa _ yp);refine zfA (zn0 F hmem) λk t hk e=>?_;injection e with e1 e2;clear hmem;subst e1 e2;dsimp only;have ho':(s.heap.update r (λ_=>zan d')).get? o=some (zan d):=by rw[Heap.get?_update_other _ _ hro];exact ho
  refine yk (yE (zm7 (hn.filter _) (zgS hr) F' S' λb d'' F'' S''=>?_));have ho'':((s.heap.update r (λ_=>zan d')).update r (λ_=>zan d'')).get? o=some (zan d):=by rw[Heap.get?_update_other _ _ hro];exact ho'
  unfold Builtin.Frozenset.unchanged;refine yk (yk (zen ho'' F ?_));refine zbW (by simp) ?_;refine yn (yn (zkB (done++[((PySem.strKind prog w).hash k,Value.str k t)]) d'' (by simp only[he,List.append_assoc];rfl) ?_ ?_ ?_))
  ·show({s with heap:=(s.heap.update r _).update r _}:Shared)=_
   rw[zkv]
  ·have e:(l.filter λx=>decide (∀e∈done++[((PySem.strKind prog w).hash k,Value.str k t)],(PySem.strKind prog w).is x e.2=false)) =
     (l.filter λx=>decide (∀e∈done,(PySem.strKind prog w).is x e.2=false)).filter λx=>decide (x≠k):=by
    refine znf l (λ(x:Str)(e:Int×Value)=>(PySem.strKind prog w).is x e.2) done _ k λx=>?_;show(k==x)=false↔_;rw[beq_eq_false_iff_ne];exact ne_comm
   rw[e];exact F''
  ·rw[List.length_append];exact S''
 case fin=>
  rintro b s' ⟨done,d',he,rfl,F',S'⟩;rw[List.append_nil]at he;subst he;refine zf8 d' rfl ?_ ⟨S'.mask,yj S'.dum hlen⟩;have e:(l.filter λx=>decide (∀e∈es.toList,(PySem.strKind prog w).is x e.2=false))=without l rem:=by
   unfold without;apply List.filter_congr;intro x _;simp only[decide_eq_decide];rw[F.mem x]
   constructor
   ·rintro q ⟨e,he,hi⟩
    rw[q e (hp.mem_iff.mpr he)]at hi;exact zaD hi
   ·intro q e he
    rw[←Bool.not_eq_true];exact λhi=>q (zbO e (hp.mem_iff.mp he) hi)
  rw[←e];exact F'
 case init=>
  refine zkB ([]) dr rfl ?_ ?_ (⟨hm,hd▸(yq _)⟩)
  ·rw[zh2 hr]
  ·have e:(l.filter λx=>decide (∀e∈([]:List (Int×Value)),(PySem.strKind prog w).is x e.2=false))=l:=List.filter_eq_self.mpr λx _=>rfl
   exact e.symm▸Fr
 case post=>
  rintro _ s' ⟨d',rfl,F',S'⟩;refine yn ?_;unfold setTidy;refine yk (zaP (zgS hr) F'.fits ?_);have:d'.2.2.tooManyDummies=false:=by
   unfold SetTable.tooManyDummies;rw[S'.mask];have:=S'.dum;simp;lia
  obtain⟨es',ep',t'⟩:=d';dsimp only at this⊢;rw[this];exact yn (h _ F')
theorem ztz{a b:Addr}{da db:zc3}{l rem:List Str}{m:Nat}{Q:PySem.Fin->Shared->Prop}(K:zd5 l.length m)(hn:l.Nodup)
  (ha:s.heap.get? a=some (zan da))(Fa:zao prog w da l)(hl:l≠[])(hb:s.heap.get? b=some (zan db))(Fb:zao prog w db rem)(h2:rem.length≤2)(h4:l.length/4 > 2)(hm4:2≤m/4)
  (h:∀d',zao prog w d' (without l rem)->Q (.done (.ret (.ref s.heap.objs.size))) {s with heap:=s.heap.push (zan d')}) :
  wpAny (model prog w) A (Builtin.«frozenset.__sub__» ⟨[.ref a,.ref b],[]⟩) Q E s:=by
 show wpAny _ _ (do
  let (x,y):=((Value.ref a,Value.ref b):Value×Value)
  if !(←(Builtin.Frozenset.isAnySet x <&&> Builtin.Frozenset.isAnySet y))then rule s!"frozenset.__sub__.declined";return ←ret .notImplemented
  ret (←Builtin.Frozenset.difference s!"frozenset.__sub__" a y)) _ _ _
 dsimp only;refine yk ?_;unfold andM;refine yk (zbL ha ?_);refine zbL hb ?_;simp only[Bool.not_true,Bool.false_eq_true,↓reduceIte];unfold Builtin.Frozenset.difference;refine yk (yk (zbL hb ?_));simp only[Bool.not_true,Bool.false_eq_true,↓reduceIte];unfold Builtin.Frozenset.addrOf;refine yk (yn ?_);simp only[Bool.false_and,Bool.false_eq_true,↓reduceIte];refine yk (zgd hb Fb ?_);refine yk (zgd ha Fa ?_);refine zdu (show l.length/4 > rem.length by lia) ?_;refine yk (wpAny_rule ?_);refine yk (ziP K ha Fa hl λd₁ F1 hm1 hd1=>?_);have hb':=yB (zan d₁) hb;have hr':(s.heap.push (zan d₁)).get? s.heap.objs.size=some (zan d₁):=yF _ rfl;have hblt:b<s.heap.objs.size:=Heap.lt_size hb;refine yk (yn ?_);refine yk (yE (zmz (Nat.ne_of_gt hblt) hn hr' F1 hm1 hd1 hb' Fb h2 (by lia) hm4 λd' F'=>yn ?_));show wpAny _ _ (ret (Value.ref s.heap.objs.size)) _ _ {s with heap:=(s.heap.push _).update _ _};rw[zks];exact yn (h d' F')
end
structure BS where
 tree:BT
 n:Nat
 life:Life
 gens:List GenState
 drawn:Drawn
 toks:Nat
 os:OsState
 log:List (List Str)
 at_:List (Addr×Nat)
noncomputable def BS.heap(b:BS):Heap:=absHeap b.tree b.n b.life
noncomputable def BS.abs(b:BS):Shared:=⟨b.heap,⟨b.gens⟩,b.drawn,b.toks,b.os⟩
noncomputable def BS.cnt(b:BS):Nat:=b.log.length
inductive Out(α:Type) where
 |ok (a:α) (p:Pos) (b:BS)
 |err (e:Value) (p:Pos) (b:BS)
noncomputable def Out.b{α:Type}:Out α->BS
 |.ok _ _ b=>b
 |.err _ _ b=>b
noncomputable def eqL:List Nat->List Nat->Bool
 |[],[]=>true
 |a::l,b::m=>match Nat.beq a b with
  |true=>eqL l m
  |false=>false
 |_,_=>false
theorem zmT:∀l m,eqL l m=true↔l=m
 |[],[]=>by decide
 |[],b::m=>⟨λh=>zaD h,λh=>znD h⟩
 |a::l,[]=>⟨λh=>zaD h,λh=>ziz h⟩
 |a::l,b::m=>by
  show(match Nat.beq a b with|true=>eqL l m|false=>false)=true↔_;cases h:Nat.beq a b with
  |true=>have:=Nat.eq_of_beq_eq_true h;subst this;simp[zmT l m]
  |false=>have:a≠b:=Nat.ne_of_beq_eq_false h;simp[this]
noncomputable def zsC(k:Str):List Str->Bool
 |[]=>false
 |x::l=>match eqL x.cps.toList k.cps.toList with
  |true=>true
  |false=>zsC k l
theorem zfs(k:Str):∀l,zsC k l=true↔k∈l
 |[]=>by simp[zsC]
 |x::l=>by
  rw[zsC];cases h:eqL x.cps.toList k.cps.toList with
  |true=>
   have:=(zmT _ _).mp h;have:x=k:=by obtain⟨⟨a⟩⟩:=x;obtain⟨⟨b⟩⟩:=k;simp at this;subst this;rfl
   clear h;subst this;simp
  |false=>
   have:x≠k:=by rintro rfl;rw[(zmT _ _).mpr rfl]at h;exact zuB h
   simp[zfs k l,Ne.symm this]
noncomputable def zvb(l:List Str)(k:Str):List Str:=match zsC k l with
 |true=>l
 |false=>l++[k]
theorem zsg(l:List Str)(k:Str):zvb l k=ins l k:=by
 unfold zvb ins;cases h:zsC k l with
 |true=>rw[if_pos ((zfs k l).mp h)]
 |false=>rw[if_neg λq=>by rw[(zfs k l).mpr q]at h;exact zuB h]
noncomputable def zdm:List Str->List Str->List Str
 |[],_=>[]
 |x::l,r=>match zsC x r with
  |true=>zdm l r
  |false=>x::zdm l r
theorem zfW(r:List Str):∀l,zdm l r=without l r
 |[]=>rfl
 |x::l=>by
  rw[zdm,without];rw[List.filter_cons];cases h:zsC x r with
  |true=>rw[if_neg (by simpa using (zfs x r).mp h)];exact zfW r l
  |false=>
   have:x∉r:=λq=>by rw[(zfs x r).mpr q]at h;exact zuB h
   rw[if_pos (by exact decide_eq_true this),←without,zfW r l]
noncomputable def zoc:List Str->Bool
 |[]=>true
 |x::l=>match zsC x l with
  |true=>false
  |false=>zoc l
theorem znS:∀{l},zoc l=true->l.Nodup
 |[],_=>.nil
 |x::l,h=>by
  rw[zoc]at h;cases q:zsC x l with
  |true=>rw[q]at h;exact zaD h
  |false=>rw[q]at h;exact List.nodup_cons.mpr ⟨λz=>(by rw[(zfs x l).mpr z]at q;exact zuB q),znS h⟩
noncomputable def zo4(l:List (Addr×Nat))(a:Addr):Option Nat:=match l with
 |[]=>none
 |p::r=>match Nat.beq p.1 a with
  |true=>some p.2
  |false=>zo4 r a
noncomputable def gd{α:Type}(c:Bool)(o:Option α):Option α:=match c with
 |true=>o
 |false=>none
noncomputable def bd{α β:Type}(o:Option α)(f:α->Option β):Option β:=match o with
 |some a=>f a
 |none=>none
noncomputable def bd2{α β γ:Type}(o:Option (α×β))(f:α->β->Option γ):Option γ:=match o with
 |some (a,b)=>f a b
 |none=>none
theorem zb2{α:Type}{c:Bool}{o:Option α}{x:α}(h:gd c o=some x):c=true∧o=some x:=by
 induction c with
 |true=>exact⟨rfl,h⟩
 |false=>exact zad h
theorem zbJ{α β:Type}{o:Option α}{f:α->Option β}{y:β}(h:bd o f=some y):∃a,o=some a∧f a=some y:=by
 induction o with
 |some a=>exact⟨a,rfl,h⟩
 |none=>exact zad h
theorem ziK{α β γ:Type}{o:Option (α×β)}{f:α->β->Option γ}{y:γ}(h:bd2 o f=some y):∃a b,o=some (a,b)∧f a b=some y:=by
 induction o with
 |some a=>exact zlq a.1 a.2 rfl h
 |none=>exact zad h
theorem zpF{α:Type}{c:Bool}{o:Option α}(h:c=true):gd c o=o:=by subst h;rfl
theorem zs1{α β:Type}{o:Option α}{f:α->Option β}{a:α}(h:o=some a):bd o f=f a:=by subst h;rfl
theorem zjJ{α β γ:Type}{o:Option (α×β)}{f:α->β->Option γ}{a:α}{b:β}(h:o=some (a,b)):bd2 o f=f a b:=by subst h;rfl
noncomputable def ztk(v:Value):Option Addr:=match v with
 |.ref a=>some a
 |_=>none
theorem ziG{v:Value}{a:Addr}(h:ztk v=some a):v=.ref a:=by
 induction v<;>(first|exact zad h|obtain rfl:=yi h);rfl
noncomputable def zqm(v:Value):Option Str:=match v with
 |.str k _=>some k
 |_=>none
theorem zoS{v:Value}{k:Str}(h:zqm v=some k):∃t,v=.str k t:=by
 induction v<;>(first|exact zad h|obtain rfl:=yi h);exact⟨_,rfl⟩
noncomputable def zwC(a:Args):Option (Value×Value):=match a with
 |⟨l,k⟩=>match l with
  |[]=>none
  |x::l=>match l with
   |[]=>none
   |y::l=>match l with
    |[]=>match k with
     |[]=>some (x,y)
     |_::_=>none
    |_::_=>none
theorem zl8{a:Args}{x y:Value}(h:zwC a=some (x,y)):a=⟨[x,y],[]⟩:=by
 rcases a with⟨_|⟨x',_|⟨y',_|⟨z,l⟩⟩⟩,_|⟨u,k⟩⟩<;>(first|exact zad h|cases h)
 rfl
noncomputable def none?{α:Type}(l:List α):Bool:=match l with
 |[]=>true
 |_::_=>false
theorem none?_inv{α:Type}{l:List α}(h:none? l=true):l=[]:=by
 induction l with
 |nil=>rfl
 |cons _ _=>exact zaD h
noncomputable def zuR(v:Value):Option String:=match v with
 |.type n=>some n
 |_=>none
theorem zpo{v:Value}{n:String}(h:zuR v=some n):v=.type n:=by
 induction v<;>(first|exact zad h|obtain rfl:=yi h);rfl
noncomputable def zx7(d:Data):Option zc3:=match d with
 |.set es ep t=>some (es,ep,t)
 |_=>none
theorem zsk{v:Data}{d:zc3}(h:zx7 v=some d):v=.set d.1 d.2.1 d.2.2:=by
 induction v<;>(first|exact zad h|obtain rfl:=yi h);rfl
noncomputable def ztC(d:zc3):Bool:=(none? d.1.toList&&none? d.2.2.place.toList)&&none? d.2.2.dummies.toList
noncomputable def znL(o:Obj):Option zc3:=bd (zuR o.cls) λn=>bd (zx7 o.data) λd=>gd (n == "frozenset") (gd (ztC d) (gd (none? o.slots.toList&&o.dict.isNone) (some d)))
noncomputable def zhT(b:BS)(S:Addr):Option (List Str):=match zo4 b.at_ S with
 |some k=>b.log[k]?
 |none=>gd (Nat.blt S b.n) (bd (b.tree.get S) λo=>bd (znL o) λ_=>some [])
noncomputable def zvz(S:Addr)(v:Value)(b:BS):Option (zc3->BS):=
 bd (zqm v) λk=>bd (zhT b S) λl=>gd (Nat.blt l.length 200)
  (some λd=>{b with tree:=b.tree.set S (λ_=>zan d),toks:=b.toks+1,log:=b.log++[zvb l k],at_:=(S,b.log.length)::b.at_})
noncomputable def zhs(c:Code):Option (Addr×Value):=match c with
 |.builtin id a=>bd2 (zwC a) λS it=>bd (ztk S) λS=>gd (id == "set.update.loop") (some (S,it))
 |_=>none
noncomputable def maskOf(n:Nat):Option Nat:=match Nat.beq n 2 with
 |true=>some 7
 |false=>match Nat.beq n 32 with
  |true=>some 127
  |false=>match Nat.beq n 33 with
   |true=>some 127
   |false=>none
theorem zpt{n m:Nat}(h:maskOf n=some m):zd5 n m∧0<n:=by
 unfold maskOf at h;cases h2:Nat.beq n 2 with
 |true=>rw[h2]at h;obtain rfl:=yi h;have:=Nat.eq_of_beq_eq_true h2;subst this;exact⟨zsT,by decide⟩
 |false=>
  rw[h2]at h;cases h3:Nat.beq n 32 with
  |true=>rw[h3]at h;obtain rfl:=yi h;have:=Nat.eq_of_beq_eq_true h3;subst this;exact⟨zrL,by decide⟩
  |false=>
   rw[h3]at h;cases h4:Nat.beq n 33 with
   |true=>rw[h4]at h;obtain rfl:=yi h;have:=Nat.eq_of_beq_eq_true h4;subst this;exact⟨zqf,by decide⟩
   |false=>rw[h4]at h;exact zad h
noncomputable def zcV(b:BS)(l:List Str):zc3->BS:=λd=>{b with tree:=b.tree.ins b.n (zan d),n:=b.n+1,log:=b.log++[l],at_:=(b.n,b.log.length)::b.at_}
noncomputable def one?(l:List Str):Option Str:=match l with
 |[]=>none
 |c::l=>match l with
  |[]=>some c
  |_::_=>none
theorem one?_inv{l:List Str}{c:Str}(h:one? l=some c):l=[c]:=by
 rcases l with _|⟨x,_|⟨y,l⟩⟩<;>(first|exact zad h|cases h)
 rfl
noncomputable def zuQ(x y:Addr)(l:List Str)(m:Nat)(c:Str):Option (List Str):=
 gd (Nat.blt ((l.length+1)*5) (m*3)) (gd (!Nat.beq x y) (some (zvb l c)))
noncomputable def zss(l r:List Str)(m:Nat):Option (List Str):=
 gd (Nat.ble r.length 2) (gd (Nat.blt 2 (l.length/4)) (gd (Nat.ble 2 (m/4)) (gd (zoc l) (some (zdm l r)))))
noncomputable def zzG(id:String):Option Bool:=match id == "frozenset.__or__" with
 |true=>some true
 |false=>gd (id == "frozenset.__sub__") (some false)
theorem zty{id:String}{k:Bool}(h:zzG id=some k):(k=true∧id="frozenset.__or__")∨(k=false∧id="frozenset.__sub__"):=by
 unfold zzG at h;cases e:id == "frozenset.__or__" with
 |true=>rw[e]at h;obtain rfl:=yi h;exact .inl ⟨rfl,beq_iff_eq.mp e⟩
 |false=>
  rw[e]at h;refine zbP (zb2 h) λe h=>?_;obtain rfl:=yi h;exact .inr ⟨rfl,beq_iff_eq.mp e⟩
noncomputable def znN(b:BS)(k:Bool)(x y:Addr):Option (List Str):=
 bd (zo4 b.at_ x) λi=>bd (zo4 b.at_ y) λj=>bd b.log[i]? λl=>bd b.log[j]? λr=>bd (maskOf l.length) λm=>gd ((b.tree.ins b.n default).get b.n).isSome
  (match k with
  |true=>bd (one? r) (zuQ x y l m)
  |false=>zss l r m)
noncomputable def zsF(c:Code)(b:BS):Option (List Str):=match c with
 |.builtin id a=>bd2 (zwC a) λx y=>bd (ztk x) λx=>bd (ztk y) λy=>bd (zzG id) λk=>znN b k x y
 |_=>none
noncomputable abbrev SD:=zc3×Pos
inductive Nxt(α:Type) where
 |mk (t:Sem α) (p:Pos) (b:BS)
set_option genInjectivity false in
inductive Mv(α:Type) where
 |pure (a:α)
 |raise (e:Value)
 |call (c:Code) (h:Option Value) (k:Result->Sem α)
 |resume (g:Nat) (r:Resume) (k:GenResult->Sem α)
 |susp (v:Value) (g:Bool) (l:List Value) (k:Resume->Sem α)
 |go (o:Option (Nxt α))
noncomputable def mv(prog:Program)(w:World){α:Type}(Γ:Ctx)(t:Sem α)(p:Pos)(b:BS):Mv α:=match t with
 |.pure a=>.pure a
 |.raise e=>.raise e
 |.rule _ k=>.go (some ⟨k (),p,b⟩)
 |.at q k=>.go (some ⟨k (),q,b⟩)
 |.point _ k=>.go (some ⟨k (),p,b⟩)
 |.ask k=>.go (some ⟨k ⟨prog,w.params⟩,p,b⟩)
 |.load a _ k=>.go (gd (Nat.blt a b.n) (bd (b.tree.get a) λo=>bd (alive o) λo'=>some ⟨k o',p,b⟩))
 |.loadIfAlive a k=>.go (match Nat.blt a b.n with
  |true=>bd (b.tree.get a) λo=>some ⟨k (alive o),p,b⟩
  |false=>some ⟨k none,p,b⟩)
 |.update a _ f k=>.go (gd (Nat.blt a b.n) (match zo4 b.at_ a with
  |some _=>none
  |none=>bd (b.tree.get a) λo=>bd (alive o) λ_=>some ⟨k (),p,{b with tree:=b.tree.set a f}⟩))
 |.alloc o k=>.go (gd ((b.tree.ins b.n o).get b.n).isSome (some ⟨k b.n,p,{b with tree:=b.tree.ins b.n o,n:=b.n+1}⟩))
 |.fresh k=>.go (some ⟨k b.toks,p,{b with toks:=b.toks+1}⟩)
 |.handled own k=>.go (some ⟨k (if own then Γ.own else Γ.handled),p,b⟩)
 |.stack k=>.go (some ⟨k ((Γ.code,p)::Γ.below),p,b⟩)
 |.newGen c k=>.go (some ⟨k b.gens.length,p,{b with gens:=b.gens++[.fresh c]}⟩)
 |.genState g k=>.go (bd b.gens[g]? λgs=>some ⟨k gs.seen,p,b⟩)
 |.call c h _ _ k=>.call c h k
 |.resume g r _ k=>.resume g r k
 |.yield v g l k=>.susp v g l k
 |_=>.go none
noncomputable def znH(r:Resume):Bool:=match r with
 |.send v=>match v with
  |.none=>true
  |_=>false
 |.throw _=>false
theorem zlD{r:Resume}(h:znH r=true):r=.send .none:=by
 induction r with
 |send v=>induction v<;>(first|exact zaD h|cases h);rfl
 |throw _=>exact zaD h
structure Wk where
 Γ:Ctx
 t:Sem Fin
 p:Pos
noncomputable def wk(den:Code->Sem Fin)(Γ:Ctx)(p:Pos)(r:Resume)(o:Option GenState):Option Wk:=match o with
 |none=>none
 |some gs=>match gs with
  |.fresh c=>gd (znH r) (some ⟨Γ.wake c p,den c,p⟩)
  |.suspended k0 _ c₀ p0 fs _=>gd (none? fs) (some ⟨Γ.wake c₀ p,k0 r,p0⟩)
  |_=>none
noncomputable def zi0{α β:Type}(o:Option (Out α))(f:α->Pos->BS->Option β)(g:Value->BS->Option β):Option β:=match o with
 |none=>none
 |some o=>match o with
  |.ok a p b=>f a p b
  |.err e _ b=>g e b
theorem zp3{α β:Type}{o:Option (Out α)}{f:α->Pos->BS->Option β}{g:Value->BS->Option β}{y:β}(h:zi0 o f g=some y) :
  (∃a p b,o=some (.ok a p b)∧f a p b=some y)∨∃e p b,o=some (.err e p b)∧g e b=some y:=by
 rcases o with _|⟨a,p,b⟩|⟨e,p,b⟩
 ·exact zad h
 ·exact .inl (zu2 a p b rfl h)
 ·exact .inr (zu2 e p b rfl h)
theorem zkY{α β:Type}{o:Option (Out α)}{f:α->Pos->BS->Option β}{g:Value->BS->Option β}{a:α}{p:Pos}{b:BS}(h:o=some (.ok a p b)):zi0 o f g=f a p b:=by subst h;rfl
theorem zil{α β:Type}{o:Option (Out α)}{f:α->Pos->BS->Option β}{g:Value->BS->Option β}{e:Value}{p:Pos}{b:BS}(h:o=some (.err e p b)):zi0 o f g=g e b:=by subst h;rfl
structure Ev where
 big:(α:Type)->Ctx->Sem α->Pos->BS->Option (Out α)
 code:Ctx->Pos->BS->Option (Result×BS)
 gen:Ctx->Sem Fin->Pos->BS->Option (End×BS)
section
variable(den:Code->Sem Fin)(nxt:Value->Sem (Option Value))(prog:Program)(w:World)(x:Nat->SD)
noncomputable def zhf(E:Ev)(α:Type)(Γ:Ctx)(p:Pos)(b:BS)(m:Mv α):Option (Out α):=match m with
 |.pure a=>some (.ok a p b)
 |.raise e=>some (.err e p b)
 |.call c h k=>bd2 (E.code (Γ.enter c h p) p b) λr b'=>E.big α Γ (k r) p b'
 |.resume g r k=>bd (wk den Γ p r b.gens[g]?) λv=>bd2 (E.gen v.Γ v.t v.p {b with gens:=b.gens.set g .running}) λe b'=>gd e.quiet (E.big α Γ (k e.result) p {b' with gens:=b'.gens.set g e.genState})
 |.susp ..=>none
 |.go o=>match o with
  |some ⟨t',p',b'⟩=>E.big α Γ t' p' b'
  |none=>none
noncomputable def zfx(E:Ev)(Γ:Ctx)(S:Addr)(v:Option Value)(p:Pos)(b:BS):Option (Result×BS):=match v with
 |none=>some (.ok (.ret .none),b)
 |some v=>bd (zvz S v b) λf=>E.code Γ (x b.cnt).2 (f (x b.cnt).1)
noncomputable def zgV(E:Ev)(Γ:Ctx)(fin:Fin)(p:Pos)(b:BS):Option (Result×BS):=match fin with
 |.done f=>some (.ok f,b)
 |.again c=>gd c.quiet (E.code (Γ.goto c) p b)
noncomputable def zbY(E:Ev)(Γ:Ctx)(p:Pos)(b:BS):Option (Result×BS):=match zsF Γ.code b with
 |some L=>some (.ok (.ret (.ref b.n)),zcV b L (x b.cnt).1)
 |none=>match zhs Γ.code with
  |some (S,it)=>zi0 (E.big (Option Value) Γ (nxt it) p b) (λv p b=>zfx x E Γ S v p b) λe b=>some (.error e,b)
  |none=>zi0 (E.big Fin Γ (den Γ.code) p b) (λf p b=>zgV E Γ f p b) λe b=>some (.error e,b)
noncomputable def zyN(E:Ev)(Γ:Ctx)(p:Pos)(b:BS)(fin:Fin):Option (End×BS):=match fin with
 |.done f=>some (.ret (.ok f),b)
 |.again c=>gd c.quiet (E.gen (Γ.goto c) (den c) p b)
noncomputable def zgY(E:Ev)(Γ:Ctx)(p:Pos)(b:BS)(m:Mv Fin):Option (End×BS):=match m with
 |.pure fin=>zyN den E Γ p b fin
 |.raise e=>some (.ret (.error e),b)
 |.call c h k=>bd2 (E.code (Γ.enter c h p) p b) λr b'=>E.gen Γ (k r) p b'
 |.resume ..=>none
 |.susp v g l k=>some (.susp v g l k Γ.code p [],b)
 |.go o=>match o with
  |some ⟨t',p',b'⟩=>E.gen Γ t' p' b'
  |none=>none
noncomputable def ev0:Ev:=⟨λ_ _ _ _ _=>none,λ_ _ _=>none,λ_ _ _ _=>none⟩
noncomputable def evS(E:Ev):Ev:=⟨λα Γ t p b=>zhf den E α Γ p b (mv prog w Γ t p b),zbY den nxt x E,λΓ t p b=>zgY den E Γ p b (mv prog w Γ t p b)⟩
noncomputable def ev(n:Nat):Ev:=match n with
 |0=>ev0
 |n+1=>evS den nxt prog w x (ev n)
noncomputable def big(n:Nat):(α:Type)->Ctx->Sem α->Pos->BS->Option (Out α):=(ev den nxt prog w x n).big
end
noncomputable def Agree(x y:Nat->SD)(k:Nat):Prop:=∀i,i<k->x i=y i
theorem Agree.refl(x:Nat->SD)(k:Nat):Agree x x k:=λ_ _=>rfl
theorem Agree.trans{x y z:Nat->SD}{k l:Nat}(a:Agree x y k)(b:Agree y z l)(h:k≤l):Agree x z k:=λi hi=>(a i hi).trans (b i (yy hi h))
theorem Agree.le{x y:Nat->SD}{k l:Nat}(a:Agree x y l)(h:k≤l):Agree x y k:=λi hi=>a i (yy hi h)
noncomputable def upd(x:Nat->SD)(k:Nat)(d:SD):Nat->SD:=λi=>if i=k then d else x i
theorem zhP(x:Nat->SD)(k:Nat)(d:SD):upd x k d k=d:=if_pos rfl
theorem ze6(x:Nat->SD)(k:Nat)(d:SD):Agree x (upd x k d) k:=λi hi=>(if_neg (Nat.ne_of_lt hi)).symm
theorem zqs(p:Addr×Nat)(r:List (Addr×Nat))(a:Addr):zo4 (p::r) a=if p.1=a then some p.2 else zo4 r a:=by
 show(match Nat.beq p.1 a with|true=>some p.2|false=>zo4 r a)=_;by_cases h:p.1=a
 ·rw[if_pos h,h,Nat.beq_refl]
 ·rw[if_neg h]
  cases q:Nat.beq p.1 a with
  |true=>exact absurd (Nat.eq_of_beq_eq_true q) h
  |false=>rfl
theorem zkC(o o':Obj):∀(t:BT)(a i:Nat),((t.ins a o).get i).isSome=((t.ins a o').get i).isSome
 |.nil,a,i=>by
  show((BT.node o .nil .nil).get i).isSome=((BT.node o' .nil .nil).get i).isSome;rw[BT.get_node,BT.get_node]
  split<;>rfl
 |.node v l r,a,i=>by
  rw[BT.ins_node,BT.ins_node];by_cases h0:a=0
  ·rw[if_pos h0,if_pos h0,BT.get_node,BT.get_node]
   split<;>rfl
  ·rw[if_neg h0,if_neg h0]
   by_cases h1:a%2=1
   ·rw[if_pos h1,if_pos h1,BT.get_node,BT.get_node]
    split
    ·rfl
    ·split
     ·exact zkC o o' l _ _
     ·rfl
   ·rw[if_neg h1,if_neg h1,BT.get_node,BT.get_node]
    split
    ·rfl
    ·split
     ·rfl
     ·exact zkC o o' r _ _
structure zbe(prog:Program)(w:World)(x:Nat->SD)(b:BS):Prop where
 log:∀i l,b.log[i]?=some l->zao prog w (x i).1 l
 at_:∀S k,zo4 b.at_ S=some k->k<b.log.length∧S<b.n∧b.tree.get S=some (zan (x k).1)
section
variable{prog:Program}{w:World}{x y:Nat->SD}{b:BS}
theorem zbe.toks(F:zbe prog w x b)(k:Nat):zbe prog w x {b with toks:=k}:=⟨F.log,F.at_⟩
theorem zbe.gens(F:zbe prog w x b)(g:List GenState):zbe prog w x {b with gens:=g}:=⟨F.log,F.at_⟩
theorem zbe.update(F:zbe prog w x b){a:Addr}(f:Obj->Obj)(h:zo4 b.at_ a=none):zbe prog w x {b with tree:=b.tree.set a f}:=
 ⟨F.log,λS k hk=>let ⟨p,q,r⟩:=F.at_ S k hk;⟨p,q,by
  have:S≠a:=by rintro rfl;have:zo4 b.at_ S=some k:=hk;exact zad (h.symm.trans this)
  show(b.tree.set a f).get S=_;rw[BT.get_set,if_neg this];exact r⟩⟩
theorem zbe.alloc(F:zbe prog w x b){o:Obj}(h:((b.tree.ins b.n o).get b.n).isSome=true):zbe prog w x {b with tree:=b.tree.ins b.n o,n:=b.n+1}:=
 ⟨F.log,λS k hk=>let ⟨p,q,r⟩:=F.at_ S k hk;⟨p,Nat.lt_succ_of_lt q,by
  show(b.tree.ins b.n o).get S=_;rw[BT.get_ins o _ _ h,if_neg (Nat.ne_of_lt q)];exact r⟩⟩
theorem BS.get{a:Addr}{o o':Obj}(h:Nat.blt a b.n=true)(g:b.tree.get a=some o)(e:alive o=some o'):b.abs.heap.get? a=some o':=by
 show(absHeap _ _ _).get? a=_;rw[abs_get (PySem.W.X.blt_true h) g,e]
theorem BS.getSet{a:Addr}{d:zc3}(h:a<b.n)(g:b.tree.get a=some (zan d)):b.abs.heap.get? a=some (zan d):=by
 show(absHeap _ _ _).get? a=_;rw[abs_get h g];rfl
theorem BS.upd{a:Addr}{f:Obj->Obj}{o:Obj}(g:b.tree.get a=some o):({b.abs with heap:=b.abs.heap.update a f}:Shared)=BS.abs {b with tree:=b.tree.set a f}:=by
 show Shared.mk _ _ _ _ _=Shared.mk _ _ _ _ _
 congr 1
 exact(absHeap_set g).symm
theorem BS.push{o:Obj}(g:((b.tree.ins b.n o).get b.n).isSome=true):({b.abs with heap:=b.abs.heap.push o}:Shared)=BS.abs {b with tree:=b.tree.ins b.n o,n:=b.n+1}:=by
 show Shared.mk _ _ _ _ _=Shared.mk _ _ _ _ _
 congr 1
 exact(absHeap_ins g).symm
theorem BS.size:b.abs.heap.objs.size=b.n:=absHeap_size ..
theorem BS.setGen{g:Nat}{s:GenState}:b.abs.setGen g s=BS.abs {b with gens:=b.gens.set g s}:=PySem.W.X.set_gens ..
theorem zm3{o:Obj}{d:zc3}(h:znL o=some d):o=zan d∧zao prog w d []:=by
 refine za1 (zbJ h) λn hc h=>?_;refine za1 (zbJ h) λd' hd h=>?_;refine zbP (zb2 h) λh1 h=>?_;refine zbP (zb2 h) λh2 h=>?_;refine zbP (zb2 h) λh5 h=>?_;obtain rfl:=(yi h).symm;have hc:=zpo hc;have hd:=zsk hd;clear h;obtain⟨h2,h4⟩:=yu.mp h2;clear h;obtain⟨h2,h3⟩:=yu.mp h2;clear h;obtain⟨h5,h6⟩:=yu.mp h5;have h1:n="frozenset":=beq_iff_eq.mp h1;clear h;obtain⟨es,ep,t⟩:=d;have e2:es=#[]:=Array.ext' (none?_inv h2);have e3:t.place=#[]:=Array.ext' (none?_inv h3);have e4:t.dummies=#[]:=Array.ext' (none?_inv h4);refine⟨?_,λe he=>?_,λk=>?_,ya _ e2,yb _,SetTable.fits_of ((ya Array.size e3).trans (ya Array.size e2).symm) e4 (yj (yG (ya Array.size e2)) (yb _))⟩
 ·clear h
  obtain⟨c,dc,dt,sl⟩:=o;have e5:sl=#[]:=Array.ext' (none?_inv h5);have e6:dc=none:=Option.isNone_iff_eq_none.mp h6;have hc:c=.type n:=hc;have hd:dt=.set es ep t:=hd;rw[hc,h1,hd,e5,e6];rfl
 ·rw[e2]at he;exact zb7 he
 ·rw[e2];simp
theorem ziL(F:zbe prog w x b){S:Addr}{l:List Str}(h:zhT b S=some l):∃d,S<b.n∧b.tree.get S=some (zan d)∧zao prog w d l:=by
 unfold zhT at h;cases e:zo4 b.at_ S with
 |some k=>
  rw[e]at h;refine zmO (F.at_ S k e) λa c d=>?_;exact zf8 ((x k).1) c d (F.log k l h)
 |none=>
  rw[e]at h;refine zbP (zb2 h) λe1 h=>?_;left;refine za1 (zbJ h) λo e2 h=>?_;refine za1 (zbJ h) λd e3 h=>?_;obtain rfl:=yi h;refine zbP (zm3 (prog:=prog) (w:=w) e3) λhzz F=>?_;subst hzz;exact zf8 d (PySem.W.X.blt_true e1) e2 F
theorem zjo(F:zbe prog w x b){b':BS}{d:SD}{l:List Str}{S:Addr}(hlog:b'.log=b.log++[l])(hat:b'.at_=(S,b.log.length)::b.at_)(hd:zao prog w d.1 l)(hn:b.n≤b'.n)(hS:S<b'.n)
  (hg:b'.tree.get S=some (zan d.1))(hk:∀T,T≠S->T<b.n->b'.tree.get T=b.tree.get T):zbe prog w (upd x b.cnt d) b':=by
 refine⟨λi l' hi=>?_,λT k h=>?_⟩
 ·rw[hlog]at hi
  by_cases q:i=b.log.length
  ·subst q
   rw[List.getElem?_append_right (Nat.le_refl _),Nat.sub_self]at hi;obtain rfl:=yi hi;show zao prog w (upd x b.log.length d b.log.length).1 _;rw[zhP];exact hd
  ·have hlt:i<b.log.length:=by
    have:=(yo.mp hi).1;simp only[List.length_append,List.length_singleton]at this;lia
   rw[List.getElem?_append_left hlt]at hi;rw[←ze6 x b.cnt d i hlt];exact F.log i l' hi
 ·rw[hat,zqs]at h
  rw[hlog,List.length_append,List.length_singleton];by_cases q:S=T
  ·subst q
   rw[if_pos rfl]at h;obtain rfl:=yi h;refine⟨yO _,hS,?_⟩;show _=some (zan (upd x b.log.length d b.log.length).1);rw[zhP];exact hg
  ·rw[if_neg q]at h
   refine zmO (F.at_ T k h) λa c e=>?_;exact⟨Nat.lt_succ_of_lt a,yy c hn,by rw[hk T (Ne.symm q) c,e,←ze6 x b.cnt d k a]⟩
noncomputable def zAk(Γ:Ctx):Around:={handled:=Γ.handled,depth:=frameCount Γ.below+Γ.code.weight,frames:=none,guards:=none,units:=Γ.units}
theorem zwG(Γ:Ctx):Γ.In (zAk Γ):=⟨rfl,yq _,λ_ h=>(zad h),λ_ h=>(zad h),yq _⟩
noncomputable def zAN(Γ:Ctx):Around:={handled:=Γ.handled,depth:=frameCount Γ.below,frames:=none,guards:=none,units:=unitsOf Γ.below}
theorem zj0(Γ:Ctx):Γ.Below (zAN Γ):=⟨rfl,yq _,λ_ h=>(zad h),λ_ h=>(zad h),yq _⟩
theorem zqh{Γ:Ctx}{p:Pos}{S:Addr}{v:Value}{f:zc3->BS}(F:zbe prog w x b)(h:zvz S v b=some f) :
  Sem.wp (model prog w) Γ (holding [v] (setAdd S v)) (λ_ _ s'=>∃d,s'=(f d).abs∧∀q,zbe prog w (upd x b.cnt (d,q)) (f d)) (λ_ _ _=>False) p b.abs:=by
 left;refine za1 (zbJ (o:=zqm v) h) λk hk g=>?_;clear h;refine zfh (zoS hk) λt hzz=>?_;clear hk;subst hzz;refine za1 (zbJ g) λl e g=>?_;refine zbP (zb2 g) λe1 g=>?_;obtain rfl:=yi g;refine zcN (ziL F e) λd h1 h2 F1=>?_;refine(yE (zvJ (A:=zAk Γ) (E:=λ_ _=>False) (Q:=λ_ s'=>∃d,s'=BS.abs {b with tree:=b.tree.set S (λ_=>zan d),toks:=b.toks+1,log:=b.log++[zvb l k],at_:=(S,b.log.length)::b.at_} ∧
  ∀q,zbe prog w (upd x b.cnt (d,q)) {b with tree:=b.tree.set S (λ_=>zan d),toks:=b.toks+1,log:=b.log++[zvb l k],at_:=(S,b.log.length)::b.at_}) (BS.getSet h1 h2) F1 (PySem.W.X.blt_true e1) λ_ d' F'=>(zbO d' ?_ (λq=>?_)))) Γ p (zwG Γ)
 ·have:=BS.upd (f:=λ_=>zan d') h2
  show Shared.mk _ _ _ _ _=Shared.mk _ _ _ _ _;have e:=ya Shared.heap this;dsimp only at e;rw[e];rfl
 ·refine zjo F rfl rfl (by rw[zsg];exact F') (yq _) h1 ?_ λT hT _=>?_
  ·show(b.tree.set S _).get S=_
   rw[BT.get_set,if_pos rfl,h2];rfl
  ·show(b.tree.set S _).get T=_
   rw[BT.get_set,if_neg hT]
theorem zqD{S:Addr}{v:Value}{f:zc3->BS}(h:zvz S v b=some f)(d:zc3):(f d).cnt=b.cnt+1:=by
 refine za1 (zbJ h) λk _ h=>?_;refine za1 (zbJ h) λl _ h=>?_;refine zbP (zb2 h) λ_ h=>?_;obtain rfl:=yi h;exact yL
theorem zfK(F:zbe prog w x b){l:List Str}{d:zc3}(hd:zao prog w d l)(h:((b.tree.ins b.n (default:Obj)).get b.n).isSome=true) :
  ({b.abs with heap:=b.abs.heap.push (zan d)}:Shared)=(zcV b l d).abs∧∀q,zbe prog w (upd x b.cnt (d,q)) (zcV b l d):=by
 have h':((b.tree.ins b.n (zan d)).get b.n).isSome=true:=by rw[zkC _ default];exact h
 refine⟨BS.push h',λq=>zjo F rfl rfl hd (yh _) (yO _) ?_ λT hT hlt=>?_⟩
 ·show(b.tree.ins b.n _).get b.n=_
  rw[BT.get_ins _ _ _ h',if_pos rfl]
 ·show(b.tree.ins b.n _).get T=_
  rw[BT.get_ins _ _ _ h',if_neg hT]
theorem ztK:entryFor table "frozenset.__or__"=some Builtin.«frozenset.__or__»:=entryFor_of_tree (by kernel_rfl)
theorem entry_sub:entryFor table "frozenset.__sub__"=some Builtin.«frozenset.__sub__»:=entryFor_of_tree (by kernel_rfl)
theorem ztS{c:Code}{q:List Str}(h:zsF c b=some q):∃x y k,c=.builtin (match k with|true=>"frozenset.__or__"|false=>"frozenset.__sub__") ⟨[.ref x,.ref y],[]⟩∧znN b k x y=some q:=by
 induction c with
 |builtin id a=>
  refine zfA (ziK h) λvx vy ha h=>?_;refine za1 (zbJ h) λx hx h=>?_;refine za1 (zbJ h) λy hy h=>?_;refine za1 (zbJ h) λk hk h=>?_;obtain rfl:=zl8 ha;clear ha;obtain rfl:=ziG hx;obtain rfl:=ziG hy;rcases zty hk with⟨rfl,rfl⟩|⟨rfl,rfl⟩
  ·exact zu2 x y true rfl h
  ·exact zu2 x y false rfl h
 |_=>exact zad h
theorem zry{x y:Addr}{l:List Str}{m:Nat}{c:Str}{q:List Str}(h:zuQ x y l m c=some q) :
  (l.length+1)*5<m*3∧x≠y∧q=zvb l c:=by
 refine zbP (zb2 h) λh1 h=>?_;refine zbP (zb2 h) λh2 h=>?_;obtain rfl:=yi h;exact⟨PySem.W.X.blt_true h1,λe=>(by rw[e,Nat.beq_refl]at h2;exact zaD h2),rfl⟩
theorem zo8{l r:List Str}{m:Nat}{q:List Str}(h:zss l r m=some q) :
  r.length≤2∧2<l.length/4∧2≤m/4∧l.Nodup∧q=zdm l r:=by
 left;refine zbP (zb2 h) λh1 h=>?_;refine zbP (zb2 h) λh2 h=>?_;refine zbP (zb2 h) λh3 h=>?_;refine zbP (zb2 h) λh4 h=>?_;obtain rfl:=yi h;exact⟨yH h1,PySem.W.X.blt_true h2,yH h3,znS h4,rfl⟩
theorem zo3(l:List Str)(d:zc3):(zcV b l d).cnt=b.cnt+1:=yL
theorem zps{n m:Nat}(h:maskOf n=some m):m=7∨m=127:=by
 unfold maskOf at h;cases h2:Nat.beq n 2 with
 |true=>rw[h2]at h;obtain rfl:=yi h;exact .inl rfl
 |false=>
  rw[h2]at h;cases h3:Nat.beq n 32 with
  |true=>rw[h3]at h;obtain rfl:=yi h;exact .inr rfl
  |false=>
   rw[h3]at h;cases h4:Nat.beq n 33 with
   |true=>rw[h4]at h;obtain rfl:=yi h;exact .inr rfl
   |false=>rw[h4]at h;exact zad h
theorem zyB{A:Around}{a c:Addr}{da dc:zc3}{l:List Str}{ch:Str}{m:Nat}{R:Result->Shared->Prop}{s:Shared}(K:zd5 l.length m)(hm:m=7∨m=127)(hpos:0<l.length)(h1:(l.length+1)*5<m*3)(hne:a≠c)
  (ga:s.heap.get? a=some (zan da))(Fa:zao prog w da l)(gc:s.heap.get? c=some (zan dc))(Fc:zao prog w dc [ch])
  (hR:∀d,zao prog w d (ins l ch)->R (.ok (.ret (.ref s.heap.objs.size))) {s with heap:=s.heap.push (zan d)}):codeAny (model prog w) A (.builtin "frozenset.__or__" ⟨[.ref a,.ref c],[]⟩) R s:=
 codeAny_builtin ztK (zvB K h1 hne (by have:=K.le;lia) ga Fa (λq=>by rw[q]at hpos;exact absurd hpos (by decide)) gc Fc λd' F'=>hR d' F')
theorem zo0{Γ:Ctx}{p:Pos}{L:List Str}(F:zbe prog w x b)(h:zsF Γ.code b=some L) :
  wpCode (model prog w) Γ (λr' s'=>r'=.ok (.ret (.ref b.n))∧∃d,s'=(zcV b L d).abs∧∀q,zbe prog w (upd x b.cnt (d,q)) (zcV b L d)) p b.abs:=by
 left;refine zAm (ztS h) λa c k hc h=>?_;refine za1 (zbJ h) λi hi h=>?_;refine za1 (zbJ h) λj hj h=>?_;refine za1 (zbJ h) λl hl h=>?_;refine za1 (zbJ h) λrr hc' h=>?_;refine za1 (zbJ h) λm hm h=>?_;refine zbP (zb2 h) λh3 h=>?_;refine zbP (zpt hm) λK hpos=>?_;refine zmO (F.at_ _ _ hi) λ_ a1 a2=>?_;refine zmO (F.at_ _ _ hj) λ_ c1 c2=>?_;have Fa:=F.log _ _ hl;have Fc:=F.log _ _ hc';clear hc'
 induction k with
 |true=>
  refine za1 (zbJ h) λch h1 h=>?_;obtain rfl:=one?_inv h1;refine zmO (zry h) λh1 hne h=>?_;subst h;exact zyB K (zps hm) hpos h1 hne (BS.getSet a1 a2) Fa (BS.getSet c1 c2) Fc (λd' F'=>(let ⟨e1,e2⟩:=zfK F (l:=zvb l ch) (d:=d') (by rw[zsg];exact F') h3;BS.size.symm▸(⟨rfl,d',e1,e2⟩))) Γ p hc (zj0 Γ)
 |false=>
  refine zzX (zo8 h) λh1 h2 h4 h5 h=>?_;subst h;exact(codeAny_builtin (R:=λr' s'=>r'=.ok (.ret (.ref b.n))∧∃d,s'=(zcV b (zdm l rr) d).abs∧∀q,zbe prog w (upd x b.cnt (d,q)) (zcV b (zdm l rr) d)) entry_sub (ztz K h5 (BS.getSet a1 a2) Fa (λq=>by rw[q]at hpos;exact absurd hpos (by decide)) (BS.getSet c1 c2) Fc h1 h2 h4 λd' F'=>
   let ⟨e1,e2⟩:=zfK F (l:=zdm l rr) (d:=d') (by rw[zfW];exact F') h3
   BS.size▸(⟨rfl,d',e1,e2⟩))) Γ p hc (zj0 Γ)
theorem zpM{c:Code}{S:Addr}{it:Value}(h:zhs c=some (S,it)):c=.builtin "set.update.loop" ⟨[.ref S,it],[]⟩:=by
 induction c with
 |builtin id a=>
  refine zfA (ziK h) λvx vy ha h=>?_;refine za1 (zbJ h) λx hx h=>?_;refine zbP (zb2 h) λhid h=>?_;cases h;obtain rfl:=zl8 ha;clear ha h;obtain rfl:=ziG hx;rw[beq_iff_eq.mp hid]
 |_=>exact zad h
theorem znl{id:String}{args:Args}{f:Builtin}(h:entryFor table id=some f):(model prog w).den (.builtin id args)=f args:=by
 unfold model denote;dsimp only;rw[h]
theorem zuJ(S:Addr)(it:Value):(model prog w).den (.builtin "set.update.loop" ⟨[.ref S,it],[]⟩)=(do
  let some v ←pyNext it|ret .none
  let _ ←holding [v] (setAdd S v)
  again (.builtin "set.update.loop" ⟨[.ref S,it],[]⟩)):=by
 exact znl F.entry_set_update_loop
theorem zpH(S:Addr)(it:Value):(Code.builtin "set.update.loop" ⟨[.ref S,it],[]⟩).quiet=true:=plainId_quiet F.plain_set_update_loop _
end
noncomputable def zAO(prog:Program)(w:World){α:Type}(Γ:Ctx)(t:Sem α)(p:Pos)(b:BS):Mv α->Prop
 |.pure a=>t=.pure a
 |.raise e=>t=.raise e
 |.call c h k=>∃g l,t=.call c h g l k
 |.resume g r k=>∃l,t=.resume g r l k
 |.susp v g l k=>t=.yield v g l k
 |.go _=>True
noncomputable def zAJ(prog:Program)(w:World){α:Type}(Γ:Ctx)(t:Sem α)(p:Pos)(b:BS)(t':Sem α)(p':Pos)(b':BS):Prop:=
 b'.cnt=b.cnt∧(∀x,zbe prog w x b->zbe prog w x b')∧∀Q E,Sem.wp (model prog w) Γ t' Q E p' b'.abs->Sem.wp (model prog w) Γ t Q E p b.abs
noncomputable def zAa(prog:Program)(w:World)(Γ:Ctx)(t:Sem Fin)(p:Pos)(b:BS)(t':Sem Fin)(p':Pos)(b':BS):Prop:=
 ∀e s',Runs (model prog w) Γ p' t' [] b'.abs e s'->Runs (model prog w) Γ p t [] b.abs e s'
theorem zxo(prog:Program)(w:World){α:Type}(Γ:Ctx)(t:Sem α)(p:Pos)(b:BS):zAO prog w Γ t p b (mv prog w Γ t p b):=by
 induction t<;>first|exact trivial|exact rfl|exact⟨_,rfl⟩|exact zxR _ _ rfl
section
variable{prog:Program}{w:World}{α:Type}{Γ:Ctx}{p:Pos}{b:BS}
theorem zlT{b:BS}(c:Code):({b.abs with gens:=b.abs.gens.push (.fresh c)}:Shared)=BS.abs {b with gens:=b.gens++[.fresh c]}:=by
 show Shared.mk _ ((⟨b.gens⟩:Array GenState).push _) _ _ _=Shared.mk _ _ _ _ _;rw[PySem.W.X.push_gens];rfl
inductive Gos(prog:Program)(w:World)(Γ:Ctx)(p:Pos)(b:BS):Sem α->Sem α->Pos->BS->Prop
 |rule (tag k):Gos prog w Γ p b (.rule tag k) (k ()) p b
 |at (q k):Gos prog w Γ p b (.at q k) (k ()) q b
 |point (l k):Gos prog w Γ p b (.point l k) (k ()) p b
 |ask (k):Gos prog w Γ p b (.ask k) (k ⟨prog,w.params⟩) p b
 |load {a q k o} (h:b.abs.heap.get? a=some o):Gos prog w Γ p b (.load a q k) (k o) p b
 |alive {a k o} (h:b.abs.heap.get? a=o):Gos prog w Γ p b (.loadIfAlive a k) (k o) p b
 |update {a q f k b'} (h:(b.abs.heap.get? a).isSome=true) (e:{b.abs with heap:=b.abs.heap.update a f}=BS.abs b') (hc:b'.cnt=b.cnt) (hF:∀x,zbe prog w x b->zbe prog w x b'):Gos prog w Γ p b (.update a q f k) (k ()) p b'
 |alloc {o k b'} (e:{b.abs with heap:=b.abs.heap.push o}=BS.abs b') (hs:b.abs.heap.objs.size=b.n) (hc:b'.cnt=b.cnt) (hF:∀x,zbe prog w x b->zbe prog w x b'):Gos prog w Γ p b (.alloc o k) (k b.n) p b'
 |fresh (k):Gos prog w Γ p b (.fresh k) (k b.toks) p {b with toks:=b.toks+1}
 |handled (own k):Gos prog w Γ p b (.handled own k) (k (if own then Γ.own else Γ.handled)) p b
 |stack (k):Gos prog w Γ p b (.stack k) (k ((Γ.code,p)::Γ.below)) p b
 |newGen (c k):Gos prog w Γ p b (.newGen c k) (k b.gens.length) p {b with gens:=b.gens++[.fresh c]}
 |genState {g k gs} (h:b.abs.gens[g]?=some gs):Gos prog w Γ p b (.genState g k) (k gs.seen) p b
theorem go_inj{o:Option (Nxt α)}{x:Nxt α}(h:Mv.go o=.go (some x)):o=some x:=by cases h;rfl
theorem zm6{t t':Sem α}{p p':Pos}{b b':BS}(h:some (Nxt.mk t p b)=some (Nxt.mk t' p' b')):t'=t∧p'=p∧b'=b:=by cases h;exact⟨rfl,rfl,rfl⟩
theorem Gos.cast{t t₀ t':Sem α}{p0 p':Pos}{b0 b':BS}(h:some (Nxt.mk t₀ p0 b0)=some (Nxt.mk t' p' b'))(g:Gos prog w Γ p b t t₀ p0 b0):Gos prog w Γ p b t t' p' b':=by
 obtain⟨rfl,rfl,rfl⟩:=zm6 h;exact g
theorem zmX{t t':Sem α}{p':Pos}{b':BS}(h:mv prog w Γ t p b=.go (some ⟨t',p',b'⟩)):Gos prog w Γ p b t t' p' b':=by
 induction t with
 |rule tag k=>exact .cast (go_inj h) (.rule ..)
 |«at» q k=>exact .cast (go_inj h) (.at ..)
 |point l k=>exact .cast (go_inj h) (.point ..)
 |ask k=>exact .cast (go_inj h) (.ask ..)
 |fresh k=>exact .cast (go_inj h) (.fresh ..)
 |handled own k=>exact .cast (go_inj h) (.handled ..)
 |stack k=>exact .cast (go_inj h) (.stack ..)
 |newGen c k=>exact .cast (go_inj h) (.newGen ..)
 |genState g k=>
  refine za1 (zbJ (go_inj h)) λgs e h=>?_;exact .cast h (.genState ((PySem.W.X.get_gens _ g).trans e))
 |load a q k=>
  refine zbP (zb2 (go_inj h)) λe1 h=>?_;refine za1 (zbJ h) λo e2 h=>?_;refine za1 (zbJ h) λo' e3 h=>?_;exact .cast h (.load (BS.get e1 e2 e3))
 |loadIfAlive a k=>
  have h:=go_inj h;cases e1:Nat.blt a b.n with
  |false=>
   rw[e1]at h;exact .cast h (.alive (abs_get_none (yg.mpr (PySem.W.X.blt_false e1))))
  |true=>
   rw[e1]at h;refine za1 (zbJ h) λo e2 h=>?_;exact .cast h (.alive (abs_get (PySem.W.X.blt_true e1) e2))
 |update a q f k=>
  refine zbP (zb2 (go_inj h)) λe1 h=>?_;cases e0:zo4 b.at_ a with
  |some _=>rw[e0]at h;exact zad h
  |none=>
   rw[e0]at h;refine za1 (zbJ h) λo e2 h=>?_;refine za1 (zbJ h) λo' e3 h=>?_;exact .cast h (.update (by rw[BS.get e1 e2 e3];rfl) (BS.upd e2) rfl λx hF=>hF.update f e0)
 |alloc o k=>
  refine zbP (zb2 (go_inj h)) λe1 h=>?_;exact .cast h (.alloc (BS.push e1) BS.size rfl λx hF=>hF.alloc e1)
 |_=>cases h
theorem Gos.ok{t t':Sem α}{p':Pos}{b':BS}(h:Gos prog w Γ p b t t' p' b'):zAJ prog w Γ t p b t' p' b':=by
 induction h with
 |rule tag k=>exact⟨rfl,λ_ h=>h,λQ E h=>(Sem.wp_rule ..).mpr h⟩
 |«at» q k=>exact⟨rfl,λ_ h=>h,λQ E h=>(Sem.wp_at ..).mpr h⟩
 |point l k=>exact⟨rfl,λ_ h=>h,λQ E h=>(Sem.wp_point ..).mpr h⟩
 |ask k=>exact⟨rfl,λ_ h=>h,λQ E h=>(Sem.wp_ask ..).mpr h⟩
 |load e=>exact⟨rfl,λ_ h=>h,λQ E h=>(Sem.wp_load ..).mpr (zbO _ e h)⟩
 |alive e=>exact⟨rfl,λ_ h=>h,λQ E h=>(Sem.wp_loadIfAlive ..).mpr (e▸h)⟩
 |update h e hc hF=>exact⟨hc,hF,λQ E q=>(Sem.wp_update ..).mpr ⟨h,e▸q⟩⟩
 |alloc e hs hc hF=>exact⟨hc,hF,λQ E q=>(Sem.wp_alloc ..).mpr (by rw[hs,e];exact q)⟩
 |fresh k=>exact⟨rfl,λ_ h=>h.toks _,λQ E h=>(Sem.wp_fresh ..).mpr h⟩
 |handled own k=>exact⟨rfl,λ_ h=>h,λQ E h=>(Sem.wp_handled ..).mpr h⟩
 |stack k=>exact⟨rfl,λ_ h=>h,λQ E h=>(Sem.wp_stack ..).mpr h⟩
 |newGen c k=>exact⟨rfl,λ_ h=>h.gens _,λQ E h=>(Sem.wp_newGen ..).mpr (by rw[zlT];exact h)⟩
 |genState e=>exact⟨rfl,λ_ h=>h,λQ E h=>(Sem.wp_genState ..).mpr (zbO _ e h)⟩
theorem Gos.run{t t':Sem Fin}{p':Pos}{b':BS}(h:Gos prog w Γ p b t t' p' b'):zAa prog w Γ t p b t' p' b':=by
 intro e s' q
 induction h with
 |rule tag k=>exact .rule q
 |«at» q' k=>exact .at q
 |point l k=>exact .point q
 |ask k=>exact .ask q
 |load e=>exact .load e q
 |alive e=>exact .loadIfAlive (e▸q)
 |update h e hc hF=>exact .update h (e▸q)
 |alloc e hs hc hF=>exact .alloc (by rw[hs,e];exact q)
 |fresh k=>exact .fresh q
 |handled own k=>exact .handled q
 |stack k=>exact .stack q
 |newGen c k=>exact .newGen (by rw[zlT];exact q)
 |genState e=>exact .genState e q
theorem zuj{g:Nat}{r:Resume}{v:Wk}(h:wk (denote table) Γ p r b.gens[g]?=some v){e:End}{s₁:Shared}
  (hr:Runs (model prog w) v.Γ v.p v.t [] (b.abs.setGen g .running) e s₁)(hq:e.quiet=true):Wakes (model prog w) Γ p g r b.abs e.result (s₁.setGen g e.genState):=by
 cases hg:b.gens[g]? with
 |none=>rw[hg]at h;exact zad h
 |some gs=>
  rw[hg]at h;have hg':b.abs.gens[g]?=some gs:=(PySem.W.X.get_gens b.gens g).trans hg;unfold Wakes;rw[hg'];clear hg' hg
  induction gs with
  |fresh c=>
   left;refine zbP (zb2 h) λh1 h=>?_;obtain rfl:=zlD h1;obtain rfl:=yi h;exact zkB e s₁ hr hq rfl rfl
  |suspended k0 l0 c₀ p0 fs cl=>
   left;refine zbP (zb2 h) λh1 h=>?_;obtain rfl:=none?_inv h1;obtain rfl:=yi h;exact zkB e s₁ hr hq rfl rfl
  |_=>exact zad h
end
structure zvY(E:(Nat->SD)->Ev):Prop where
 big:∀x α Γ t p b o,(E x).big α Γ t p b=some o->b.cnt≤o.b.cnt∧∀y,Agree x y o.b.cnt->(E y).big α Γ t p b=some o
 code:∀x Γ p b r b',(E x).code Γ p b=some (r,b')->b.cnt≤b'.cnt∧∀y,Agree x y b'.cnt->(E y).code Γ p b=some (r,b')
 gen:∀x Γ t p b e b',(E x).gen Γ t p b=some (e,b')->b.cnt≤b'.cnt∧∀y,Agree x y b'.cnt->(E y).gen Γ t p b=some (e,b')
section
variable{prog:Program}{w:World}{den:Code->Sem Fin}{nxt:Value->Sem (Option Value)}{E:(Nat->SD)->Ev}
theorem zvp{α:Type}{Γ:Ctx}{t t':Sem α}{p p':Pos}{b b':BS}(h:mv prog w Γ t p b=.go (some ⟨t',p',b'⟩)):b'.cnt=b.cnt:=(zmX h).ok.1
theorem zxW(H:zvY E){x:Nat->SD}{α:Type}{Γ:Ctx}{p:Pos}{b:BS}{m:Mv α}(hm:∀t' p' b',m=.go (some ⟨t',p',b'⟩)->b'.cnt=b.cnt){o:Out α}(h:zhf den (E x) α Γ p b m=some o) :
  b.cnt≤o.b.cnt∧∀y,Agree x y o.b.cnt->zhf den (E y) α Γ p b m=some o:=by
 induction m with
 |pure a=>obtain rfl:=yi h;exact⟨yq _,λ_ _=>rfl⟩
 |raise a=>obtain rfl:=yi h;exact⟨yq _,λ_ _=>rfl⟩
 |call c hd k=>
  refine zfA (ziK h) λr b1 e1 h=>?_;have q1:=H.code _ _ _ _ _ _ e1;have q2:=H.big _ _ _ _ _ _ _ h;refine⟨yj q1.1 q2.1,λy hy=>?_⟩;exact(zjJ (q1.2 y (hy.le q2.1))).trans (q2.2 y hy)
 |resume g r k=>
  refine za1 (zbJ h) λv e0 h=>?_;refine zfA (ziK h) λe b1 e1 h=>?_;left;refine zbP (zb2 h) λe2 h=>?_;have q1:=H.gen _ _ _ _ _ _ _ e1;have q2:=H.big _ _ _ _ _ _ _ h;exact⟨yj q1.1 q2.1,λy hy=>(zs1 e0).trans ((zjJ (q1.2 y (hy.le q2.1))).trans ((zpF e2).trans (q2.2 y hy)))⟩
 |susp v g l k=>exact zad h
 |go o=>
  induction o with
  |none=>exact zad h
  |some s=>
   obtain⟨t',p',b'⟩:=s;have q:=H.big _ _ _ _ _ _ _ h;exact⟨hm _ _ _ rfl▸q.1,q.2⟩
theorem zvv(H:zvY E){x:Nat->SD}{Γ:Ctx}{p:Pos}{b:BS}{S:Addr}{v:Option Value}{r:Result}{b':BS}(h:zfx x (E x) Γ S v p b=some (r,b')) :
  b.cnt≤b'.cnt∧∀y,Agree x y b'.cnt->zfx y (E y) Γ S v p b=some (r,b'):=by
 induction v with
 |none=>cases h;exact⟨yq _,λ_ _=>rfl⟩
 |some v=>
  refine za1 (zbJ h) λf hf h=>?_;have q:=H.code _ _ _ _ _ _ h;have hn:=zqD hf (x b.cnt).1;have hlt:b.cnt<b'.cnt:=yy (yy (yO _) (yG hn.symm)) q.1;refine⟨yc hlt,λy hy=>(zs1 hf).trans ?_⟩;rw[←hy b.cnt hlt];exact q.2 y hy
theorem zyQ(H:zvY E){x:Nat->SD}{Γ:Ctx}{p:Pos}{b:BS}{f:Fin}{r:Result}{b':BS}(h:zgV (E x) Γ f p b=some (r,b')) :
  b.cnt≤b'.cnt∧∀y,Agree x y b'.cnt->zgV (E y) Γ f p b=some (r,b'):=by
 induction f with
 |done f=>cases h;exact⟨yq _,λ_ _=>rfl⟩
 |again c=>
  obtain⟨hq,h⟩:=zb2 h;have q:=H.code _ _ _ _ _ _ h;exact⟨q.1,λy hy=>(zpF hq).trans (q.2 y hy)⟩
theorem zxB(H:zvY E){x:Nat->SD}{α:Type}{Γ:Ctx}{t:Sem α}{p:Pos}{b:BS}{r:Result}{b':BS}{f:(Nat->SD)->α->Pos->BS->Option (Result×BS)}
  (hf:∀a p b,f x a p b=some (r,b')->b.cnt≤b'.cnt∧∀y,Agree x y b'.cnt->f y a p b=some (r,b'))
  (h:zi0 ((E x).big α Γ t p b) (f x) (λe b=>some (.error e,b))=some (r,b')) :
  b.cnt≤b'.cnt∧∀y,Agree x y b'.cnt->zi0 ((E y).big α Γ t p b) (f y) (λe b=>some (.error e,b))=some (r,b'):=by
 left;rcases zp3 h with⟨a,p1,b1,e,h⟩|⟨e1,p1,b1,e,h⟩
 ·have q1:=H.big _ _ _ _ _ _ _ e
  have q2:=hf _ _ _ h;exact⟨yj q1.1 q2.1,λy hy=>(zkY (q1.2 y (hy.le q2.1))).trans (q2.2 y hy)⟩
 ·clear hf
  cases h;have q1:=H.big _ _ _ _ _ _ _ e;exact⟨q1.1,λy hy=>zil (q1.2 y hy)⟩
theorem ziT{x:Nat->SD}{F:Ev}{Γ:Ctx}{p:Pos}{b:BS}{L:List Str}(e:zsF Γ.code b=some L):zbY den nxt x F Γ p b=some (.ok (.ret (.ref b.n)),zcV b L (x b.cnt).1):=by
 unfold zbY;rw[e]
theorem zig{x:Nat->SD}{F:Ev}{Γ:Ctx}{p:Pos}{b:BS}{S:Addr}{it:Value}(e1:zsF Γ.code b=none)(e2:zhs Γ.code=some (S,it)) :
  zbY den nxt x F Γ p b=zi0 (F.big (Option Value) Γ (nxt it) p b) (zfx x F Γ S) λe b=>some (.error e,b):=by
 unfold zbY;rw[e1];dsimp only;rw[e2]
theorem zkT{x:Nat->SD}{F:Ev}{Γ:Ctx}{p:Pos}{b:BS}(e1:zsF Γ.code b=none)(e2:zhs Γ.code=none) :
  zbY den nxt x F Γ p b=zi0 (F.big Fin Γ (den Γ.code) p b) (zgV F Γ) λe b=>some (.error e,b):=by
 unfold zbY;rw[e1];dsimp only;rw[e2]
theorem zxa(H:zvY E){x:Nat->SD}{Γ:Ctx}{p:Pos}{b:BS}{r:Result}{b':BS}(h:zbY den nxt x (E x) Γ p b=some (r,b')) :
  b.cnt≤b'.cnt∧∀y,Agree x y b'.cnt->zbY den nxt y (E y) Γ p b=some (r,b'):=by
 cases e1:zsF Γ.code b with
 |some L=>
  rw[ziT e1]at h;cases h;have hn:=zo3 (b:=b) L (x b.cnt).1;refine⟨hn▸yh _,λy hy=>?_⟩;rw[ziT e1,←hy b.cnt (hn▸Nat.lt_succ_self _)]
 |none=>
  cases e2:zhs Γ.code with
  |some Si=>
   obtain⟨S,it⟩:=Si;rw[zig e1 e2]at h;have q:=zxB H (f:=λy=>zfx y (E y) Γ S) (λa p b h=>zvv H h) h;exact⟨q.1,λy hy=>(zig e1 e2).trans (q.2 y hy)⟩
  |none=>
   rw[zkT e1 e2]at h;have q:=zxB H (f:=λy=>zgV (E y) Γ) (λa p b h=>zyQ H h) h;exact⟨q.1,λy hy=>(zkT e1 e2).trans (q.2 y hy)⟩
theorem zx0(H:zvY E){x:Nat->SD}{Γ:Ctx}{p:Pos}{b:BS}{m:Mv Fin}(hm:∀t' p' b',m=.go (some ⟨t',p',b'⟩)->b'.cnt=b.cnt){e:End}{b':BS}(h:zgY den (E x) Γ p b m=some (e,b')) :
  b.cnt≤b'.cnt∧∀y,Agree x y b'.cnt->zgY den (E y) Γ p b m=some (e,b'):=by
 induction m with
 |pure a=>
  clear hm
  induction a with
  |done f=>cases h;exact⟨yq _,λ_ _=>rfl⟩
  |again c=>
   obtain⟨hq,h⟩:=zb2 h;have q:=H.gen _ _ _ _ _ _ _ h;exact⟨q.1,λy hy=>(zpF hq).trans (q.2 y hy)⟩
 |raise a=>cases h;exact⟨yq _,λ_ _=>rfl⟩
 |call c hd k=>
  refine zfA (ziK h) λr b1 e1 h=>?_;have q1:=H.code _ _ _ _ _ _ e1;have q2:=H.gen _ _ _ _ _ _ _ h;refine⟨yj q1.1 q2.1,λy hy=>?_⟩;exact(zjJ (q1.2 y (hy.le q2.1))).trans (q2.2 y hy)
 |resume g r k=>exact zad h
 |susp v g l k=>cases h;exact⟨yq _,λ_ _=>rfl⟩
 |go o=>
  induction o with
  |none=>exact zad h
  |some s=>
   obtain⟨t',p',b'⟩:=s;have q:=H.gen _ _ _ _ _ _ _ h;exact⟨hm _ _ _ rfl▸q.1,q.2⟩
theorem ztT(n:Nat):zvY (λx=>ev den nxt prog w x n):=by
 induction n with
 |zero=>exact⟨λx α Γ t p b o h=>(by exact zad h),λx Γ p b r b' h=>(by exact zad h),λx Γ t p b e b' h=>(by exact zad h)⟩
 |succ n ih=>exact⟨λx α Γ t p b o h=>zxW ih (λ_ _ _ e=>zvp e) h,λx Γ p b r b' h=>zxa ih h,λx Γ t p b e b' h=>zx0 ih (λ_ _ _ e=>zvp e) h⟩
end
section
variable{prog:Program}{w:World}
noncomputable abbrev EvP(prog:Program)(w:World)(y:Nat->SD)(n:Nat):Ev:=ev (denote table) pyNext prog w y n
theorem zcl{α:Type}{a b:Option α}(e:a=b)(h:a.isSome=true):b.isSome=true:=e▸h
noncomputable def zuo(prog:Program)(w:World)(F:(Nat->SD)->Option (Out α))(x:Nat->SD)(b:BS)(Γ:Ctx)(t:Sem α)(p:Pos):Prop:=
 (∀y,Agree x y b.cnt->(F y).isSome=true)->Sem.wp (model prog w) Γ t (λa p' s'=>∃y b',Agree x y b.cnt∧F y=some (.ok a p' b')∧s'=b'.abs∧zbe prog w y b')
  (λe p' s'=>∃y b',Agree x y b.cnt∧F y=some (.err e p' b')∧s'=b'.abs∧zbe prog w y b') p b.abs
noncomputable def zjL(prog:Program)(w:World)(F:(Nat->SD)->Option (Result×BS))(x:Nat->SD)(b:BS)(Γ:Ctx)(p:Pos):Prop:=
 (∀y,Agree x y b.cnt->(F y).isSome=true)->wpCode (model prog w) Γ (λr s'=>∃y b',Agree x y b.cnt∧F y=some (r,b')∧s'=b'.abs∧zbe prog w y b') p b.abs
noncomputable def zym(prog:Program)(w:World)(F:(Nat->SD)->Option (End×BS))(x:Nat->SD)(b:BS)(Γ:Ctx)(t:Sem Fin)(p:Pos):Prop:=
 (∀y,Agree x y b.cnt->(F y).isSome=true)->∃y b' e,Agree x y b.cnt∧F y=some (e,b')∧Runs (model prog w) Γ p t [] b.abs e b'.abs∧zbe prog w y b'
structure zpx(prog:Program)(w:World)(n:Nat):Prop where
 big:∀x (α:Type) Γ (t:Sem α) p b,zbe prog w x b->zuo prog w (λy=>(EvP prog w y n).big α Γ t p b) x b Γ t p
 code:∀x Γ p b,zbe prog w x b->zjL prog w (λy=>(EvP prog w y n).code Γ p b) x b Γ p
 gen:∀x Γ t p b,zbe prog w x b->zym prog w (λy=>(EvP prog w y n).gen Γ t p b) x b Γ t p
theorem zqR{x y:Nat->SD}{k:Nat}{d:SD}(h:Agree (upd x k d) y (k+1)):Agree x y k∧y k=d:=
 ⟨(ze6 x k d).trans (h.le (yh k)) (yq _),(h k (yO k)).symm.trans (zhP ..)⟩
theorem zuo.after{α:Type}{F F':(Nat->SD)->Option (Out α)}{x y:Nat->SD}{b b':BS}{Γ:Ctx}{t:Sem α}{p:Pos}{Q:α->Pos->Shared->Prop}{E:Value->Pos->Shared->Prop}
  (h:zuo prog w F' y b' Γ t p)(hF:∀z,Agree x z b.cnt->(F z).isSome=true)(hxy:Agree x y b.cnt)(hle:b.cnt≤b'.cnt)(key:∀z,Agree y z b'.cnt->F z=F' z)
  (hQ:∀a p' s',(∃z b'',Agree x z b.cnt∧F z=some (.ok a p' b'')∧s'=b''.abs∧zbe prog w z b'')->Q a p' s')
  (hE:∀a p' s',(∃z b'',Agree x z b.cnt∧F z=some (.err a p' b'')∧s'=b''.abs∧zbe prog w z b'')->E a p' s'):Sem.wp (model prog w) Γ t Q E p b'.abs:=
 Sem.wp_mono _ _ _ (λa p' s' ⟨z,b'',h1,h2,h3⟩=>hQ a p' s' (zlk z b'' (hxy.trans h1 hle) ((key z h1).trans h2) h3))
  (λa p' s' ⟨z,b'',h1,h2,h3⟩=>hE a p' s' (zlk z b'' (hxy.trans h1 hle) ((key z h1).trans h2) h3)) _ _ (h λz hz=>zcl (key z hz) (hF z (hxy.trans hz hle)))
theorem zjL.after{F F':(Nat->SD)->Option (Result×BS)}{x y:Nat->SD}{b b':BS}{Γ:Ctx}{p:Pos}{R:Result->Shared->Prop}
  (h:zjL prog w F' y b' Γ p)(hF:∀z,Agree x z b.cnt->(F z).isSome=true)(hxy:Agree x y b.cnt)(hle:b.cnt≤b'.cnt)(key:∀z,Agree y z b'.cnt->F z=F' z)
  (hR:∀r s',(∃z b'',Agree x z b.cnt∧F z=some (r,b'')∧s'=b''.abs∧zbe prog w z b'')->R r s'):wpCode (model prog w) Γ R p b'.abs:=
 wpCode_mono (λr s' ⟨z,b'',h1,h2,h3⟩=>hR r s' (zlk z b'' (hxy.trans h1 hle) ((key z h1).trans h2) h3)) (h λz hz=>zcl (key z hz) (hF z (hxy.trans hz hle)))
theorem zk3{α β γ:Type}{o:Option (α×β)}{f:α->β->Option γ}(h:(bd2 o f).isSome=true):o.isSome=true:=by
 induction o with
 |none=>exact zaD h
 |some _=>rfl
theorem zjr{α β:Type}{o:Option (Out α)}{f:α->Pos->BS->Option β}{g:Value->BS->Option β}(h:(zi0 o f g).isSome=true):o.isSome=true:=by
 induction o with
 |none=>exact zaD h
 |some _=>rfl
theorem zni{α:Type}{c:Bool}{o:Option α}(h:(gd c o).isSome=true):c=true:=by cases c with
 |true=>rfl
 |false=>exact zaD h
theorem zp5{α β:Type}{o:Option α}{f:α->Option β}(h:(bd o f).isSome=true):∃a,o=some a:=by
 induction o with
 |none=>exact zaD h
 |some a=>exact⟨a,rfl⟩
theorem zqd{n:Nat}(ih:zpx prog w n)(x:Nat->SD)(α:Type)(Γ:Ctx)(t:Sem α)(p:Pos)(b:BS)(hF:zbe prog w x b) :
  zuo prog w (λy=>zhf (denote table) (EvP prog w y n) α Γ p b (mv prog w Γ t p b)) x b Γ t p:=by
 intro h;have H:=ztT (den:=denote table) (nxt:=pyNext) (prog:=prog) (w:=w) n;have hm:=zxo prog w Γ t p b;have hgo:=λt' p' b'=>zmX (prog:=prog) (w:=w) (Γ:=Γ) (p:=p) (b:=b) (t:=t) (t':=t') (p':=p') (b':=b');revert h hm hgo;generalize mv prog w Γ t p b=m;intro h hm hgo
 induction m with
 |pure a=>obtain rfl:=hm;exact(Sem.wp_pure ..).mpr (zkB x b (.refl _ _) rfl rfl hF)
 |raise e=>obtain rfl:=hm;exact(Sem.wp_raise ..).mpr (zkB x b (.refl _ _) rfl rfl hF)
 |call c hd k=>
  clear hgo;refine zzj hm λg l hzz=>?_;subst hzz;refine(Sem.wp_call ..).mpr (wpCode_mono ?_ (ih.code x (Γ.enter c hd p) p b hF λy hy=>zk3 (h y hy)));rintro r s'' ⟨y,b1,a1,a2,rfl,a4⟩;have q:=H.code _ _ _ _ _ _ a2;exact(ih.big y α Γ (k r) p b1 a4).after h a1 q.1 (λz hz=>zjJ (q.2 z hz)) (λ_ _ _ h=>h) λ_ _ _ h=>h
 |resume g r k=>
  clear hgo;obtain⟨l,rfl⟩:=hm;obtain⟨v,e0⟩:=zp5 (h x (.refl _ _));have key0:∀z,zhf (denote table) (EvP prog w z n) α Γ p b (.resume g r k)=bd2 _ _:=λz=>zs1 e0;refine zuz (ih.gen x v.Γ v.t v.p {b with gens:=b.gens.set g .running} (hF.gens _) λy hy=>zk3 (zcl (key0 y) (h y hy))) λy b1 e a1 a2 a3 a4=>?_;have q:=H.gen _ _ _ _ _ _ _ a2;have key:∀z,Agree y z b1.cnt->zhf (denote table) (EvP prog w z n) α Γ p b (.resume g r k)=gd e.quiet ((EvP prog w z n).big α Γ (k e.result) p {b1 with gens:=b1.gens.set g e.genState}):=λz hz=>(key0 z).trans (zjJ (q.2 z hz));have hqe:e.quiet=true:=zni (zcl (key y (.refl _ _)) (h y a1));rw[←BS.setGen]at a3;refine(Sem.wp_resume ..).mpr (zlq e.result (b1.abs.setGen g e.genState) (zuj e0 a3 hqe) ?_);rw[BS.setGen];exact(ih.big y α Γ (k e.result) p {b1 with gens:=b1.gens.set g e.genState} (a4.gens _)).after h a1 q.1 (λz hz=>(key z hz).trans (zpF hqe)) (λ_ _ _ h=>h) λ_ _ _ h=>h
 |susp v g l k=>cases h x (.refl _ _)
 |go o=>
  clear hm
  induction o with
  |none=>cases h x (.refl _ _)
  |some s=>
   obtain⟨t',p',b'⟩:=s;refine zmO ((hgo t' p' b' rfl).ok) λh1 h2 h3=>?_;exact h3 _ _ ((ih.big x α Γ t' p' b' (h2 x hF)).after h (.refl _ _) (yG h1.symm) (λ_ _=>rfl) (λ_ _ _ h=>h) λ_ _ _ h=>h)
theorem zpn{n:Nat}(ih:zpx prog w n)(x:Nat->SD)(Γ:Ctx)(p:Pos)(b:BS)(hF:zbe prog w x b){S:Addr}{it:Value}(e1:zsF Γ.code b=none)(e2:zhs Γ.code=some (S,it)) :
  zjL prog w (λy=>zbY (denote table) pyNext y (EvP prog w y n) Γ p b) x b Γ p:=by
 intro h;have H:=ztT (den:=denote table) (nxt:=pyNext) (prog:=prog) (w:=w) n;have hc:=zpM e2;have key:=λy=>zig (den:=denote table) (nxt:=pyNext) (x:=y) (F:=EvP prog w y n) (p:=p) e1 e2;rw[wpCode_iff_wp,hc,zuJ];rw[Sem.wp_bind'];refine Sem.wp_mono _ _ _ ?_ ?_ _ _ (ih.big x (Option Value) Γ (pyNext it) p b hF λy hy=>zjr (zcl (key y) (h y hy)))
 ·rintro o p' s' ⟨y,b1,a1,a2,rfl,a4⟩
  have q:=H.big _ _ _ _ _ _ _ a2;have hle:b.cnt≤b1.cnt:=q.1;have key2:∀z,Agree y z b1.cnt->zbY (denote table) pyNext z (EvP prog w z n) Γ p b=zfx z (EvP prog w z n) Γ S o p' b1:=λz hz=>(key z).trans (zkY (q.2 z hz));clear a2
  induction o with
  |none=>exact zkB y b1 a1 (key2 y (.refl _ _)) rfl a4
  |some v=>
   refine zfh (zp5 (zcl (key2 y (.refl _ _)) (h y a1))) λf e3=>?_;show Sem.wp _ _ (holding [v] (setAdd S v) >>= λ_=>again (.builtin "set.update.loop" ⟨[.ref S,it],[]⟩)) _ _ _ _;rw[Sem.wp_bind'];refine Sem.wp_mono _ _ _ ?_ (λ_ _ _ q=>q.elim) _ _ (zqh (Γ:=Γ) (p:=p') a4 e3);rintro _ p'' s'' ⟨d,rfl,F'⟩;have hcn:(f d).cnt=b1.cnt+1:=zqD e3 d;refine⟨zpH S it,?_⟩;have hΓ:Γ.goto (.builtin "set.update.loop" ⟨[.ref S,it],[]⟩)=Γ:=ya _ hc.symm;rw[hΓ];refine(ih.code (upd y b1.cnt (d,p'')) Γ p'' (f d) (F' p'')).after h (a1.trans (ze6 y b1.cnt (d,p'')) hle) (hcn▸xc hle) (λz hz=>?_) λ_ _ h=>h;refine zbP (zqR (hcn▸hz)) λq1 q2=>?_;refine(key2 z q1).trans ((zs1 e3).trans ?_);rw[q2]
 ·rintro e p' s' ⟨y,b1,a1,a2,rfl,a4⟩
  exact zkB y b1 a1 ((key y).trans (zil a2)) rfl a4
theorem zrY{n:Nat}(ih:zpx prog w n)(x:Nat->SD)(Γ:Ctx)(p:Pos)(b:BS)(hF:zbe prog w x b)(e1:zsF Γ.code b=none)(e2:zhs Γ.code=none) :
  zjL prog w (λy=>zbY (denote table) pyNext y (EvP prog w y n) Γ p b) x b Γ p:=by
 intro h;have H:=ztT (den:=denote table) (nxt:=pyNext) (prog:=prog) (w:=w) n;have key:=λy=>zkT (den:=denote table) (nxt:=pyNext) (x:=y) (F:=EvP prog w y n) (p:=p) e1 e2;rw[wpCode_iff_wp];refine Sem.wp_mono _ _ _ ?_ ?_ _ _ (ih.big x Fin Γ (denote table Γ.code) p b hF λy hy=>zjr (zcl (key y) (h y hy)))
 ·left
  rintro fin p' s' ⟨y,b1,a1,a2,rfl,a4⟩;have q:=H.big _ _ _ _ _ _ _ a2;have hle:b.cnt≤b1.cnt:=q.1;have key2:∀z,Agree y z b1.cnt->zbY (denote table) pyNext z (EvP prog w z n) Γ p b=zgV (EvP prog w z n) Γ fin p' b1:=λz hz=>(key z).trans (zkY (q.2 z hz));clear q a2
  induction fin with
  |done f=>exact zkB y b1 a1 (key2 y (.refl _ _)) rfl a4
  |again c=>
   have hq:=zni (zcl (key2 y (.refl _ _)) (h y a1));exact⟨hq,(ih.code y (Γ.goto c) p' b1 a4).after h a1 hle (λz hz=>(key2 z hz).trans (zpF hq)) λ_ _ h=>h⟩
 ·rintro e p' s' ⟨y,b1,a1,a2,rfl,a4⟩
  exact zkB y b1 a1 ((key y).trans (zil a2)) rfl a4
theorem zoK{n:Nat}(ih:zpx prog w n)(x:Nat->SD)(Γ:Ctx)(p:Pos)(b:BS)(hF:zbe prog w x b):zjL prog w (λy=>zbY (denote table) pyNext y (EvP prog w y n) Γ p b) x b Γ p:=by
 left;cases e1:zsF Γ.code b with
 |some L=>
  intro h;refine wpCode_mono ?_ (zo0 hF e1);rintro r' s' ⟨rfl,d,rfl,F'⟩;refine zkB (upd x b.cnt (d,p)) (zcV b L d) (ze6 x b.cnt (d,p)) ((ziT e1).trans ?_) rfl (F' p);rw[zhP]
 |none=>
  cases e2:zhs Γ.code with
  |some Si=>exact zpn ih x Γ p b hF e1 (S:=Si.1) (it:=Si.2) e2
  |none=>exact zrY ih x Γ p b hF e1 e2
theorem zrC{n:Nat}(ih:zpx prog w n)(x:Nat->SD)(Γ:Ctx)(t:Sem Fin)(p:Pos)(b:BS)(hF:zbe prog w x b) :
  zym prog w (λy=>zgY (denote table) (EvP prog w y n) Γ p b (mv prog w Γ t p b)) x b Γ t p:=by
 intro h;have H:=ztT (den:=denote table) (nxt:=pyNext) (prog:=prog) (w:=w) n;have hm:=zxo prog w Γ t p b;have hgo:=λt' p' b'=>zmX (prog:=prog) (w:=w) (Γ:=Γ) (p:=p) (b:=b) (t:=t) (t':=t') (p':=p') (b':=b');revert h hm hgo;generalize mv prog w Γ t p b=m;intro h hm hgo
 induction m with
 |pure a=>
  clear hgo;obtain rfl:=hm
  induction a with
  |done f=>exact zsz x b _ (.refl _ _) rfl .done hF
  |again c=>
   have hq:=zni (h x (.refl _ _));have key:∀F:Ev,zgY (denote table) F Γ p b (.pure (.again c))=F.gen (Γ.goto c) (denote table c) p b:=λF=>zpF hq;refine zuz (ih.gen x (Γ.goto c) (denote table c) p b hF λy hy=>zcl (key (EvP prog w y n)) (h y hy)) λy b1 e a1 a2 a3 a4=>?_;exact zsz y b1 e a1 ((key _).trans a2) (.again hq a3) a4
 |raise e=>obtain rfl:=hm;exact zsz x b _ (.refl _ _) rfl .raise hF
 |call c hd k=>
  clear hgo;left;refine zzj hm λg l hzz=>?_;subst hzz;obtain⟨r,s'',hret,y,b1,a1,a2,rfl,a4⟩:=ih.code x (Γ.enter c hd p) p b hF λy hy=>zk3 (h y hy);have q:=H.code _ _ _ _ _ _ a2;have hle:b.cnt≤b1.cnt:=q.1;have key:∀z,Agree y z b1.cnt->zgY (denote table) (EvP prog w z n) Γ p b (.call c hd k)=(EvP prog w z n).gen Γ (k r) p b1:=λz hz=>zjJ (q.2 z hz);refine zuz (ih.gen y Γ (k r) p b1 a4 λz hz=>zcl (key z hz) (h z (a1.trans hz hle))) λz b2 e g1 g2 g3 g4=>?_;exact zsz z b2 e (a1.trans g1 hle) ((key z g1).trans g2) (.call hret g3) g4
 |resume g r k=>cases h x (.refl _ _)
 |susp v g l k=>obtain rfl:=hm;exact zsz x b _ (.refl _ _) rfl .yield hF
 |go o=>
  clear hm
  induction o with
  |none=>cases h x (.refl _ _)
  |some s=>
   left;obtain⟨t',p',b'⟩:=s;have G:=hgo t' p' b' rfl;refine zmO G.ok λh1 h2 _=>?_;refine zuz (ih.gen x Γ t' p' b' (h2 x hF) λy hy=>h y (h1▸hy)) λy b1 e a1 a2 a3 a4=>?_;exact zsz y b1 e (h1▸a1) a2 (G.run _ _ a3) a4
theorem zqX(n:Nat):zpx prog w n:=by
 induction n with
 |zero=>exact⟨λx α Γ t p b _ h=>(by cases h x (.refl _ _)),λx Γ p b _ h=>(by cases h x (.refl _ _)),λx Γ t p b _ h=>(by cases h x (.refl _ _))⟩
 |succ n ih=>exact⟨zqd ih,zoK ih,zrC ih⟩
theorem zt1(n:Nat)(x:Nat->SD)(α:Type)(Γ:Ctx)(t:Sem α)(p:Pos)(b:BS)(F:zbe prog w x b)(h:∀y,Agree x y b.cnt->(big (denote table) pyNext prog w y n α Γ t p b).isSome=true) :
  Sem.wp (model prog w) Γ t (λa p' s'=>∃y b',Agree x y b.cnt∧big (denote table) pyNext prog w y n α Γ t p b=some (.ok a p' b')∧s'=b'.abs∧zbe prog w y b')
   (λe p' s'=>∃y b',Agree x y b.cnt∧big (denote table) pyNext prog w y n α Γ t p b=some (.err e p' b')∧s'=b'.abs∧zbe prog w y b') p b.abs:=(zqX n).big x α Γ t p b F h
end
noncomputable def zbV:Step->Prop
 |.halt (.done _) _=>False
 |_=>True
theorem zbV.no{x:Step}{f:Flow}{s:Shared}(h:x=.halt (.done f) s)(n:zbV x):False:=by subst h;exact n
theorem zso{den:Code->Sem Fin}{p:Program}{w:World}{s s':Shared}{t:Thread}{f:Flow}(h:step den p w s t=.halt (.done f) s'):through t=true:=by
 obtain⟨heap,gens,drawn,toks,os⟩:=s;obtain⟨cur,code,pos,stack⟩:=t
 induction cur with
 |pure fin=>
  induction fin with
  |again c=>exact(zbV.no h trivial).elim
  |done g=>
   induction stack with
   |nil=>rfl
   |cons F r=>induction F<;>exact(zbV.no h trivial).elim
 |raise e=>
  induction stack with
  |nil=>
   refine(zbV.no h ?_).elim;show zbV (finish (.uncaught e) _);unfold finish
   split<;>exact trivial
  |cons F r=>induction F<;>exact(zbV.no h trivial).elim
 |finish e=>
  refine(zbV.no h ?_).elim;show zbV (if leftWithCleanup gens=true then _ else _)
  split<;>exact trivial
 |load a q k=>
  refine(zbV.no h ?_).elim;clear h;unfold step;dsimp only;cases heap.get? a<;>exact trivial
 |update a q g k=>
  refine(zbV.no h ?_).elim;show zbV (if(heap.get? a).isSome=true then _ else _)
  split<;>exact trivial
 |choose src n k=>
  refine(zbV.no h ?_).elim;show zbV (if n=0 then _ else _)
  split<;>exact trivial
 |genState g k=>
  refine(zbV.no h ?_).elim;clear h;unfold step;dsimp only;cases gens[g]?<;>exact trivial
 |resume g r l k=>
  refine(zbV.no h ?_).elim;clear h;unfold step;dsimp only;cases gens[g]? with
  |none=>exact trivial
  |some gs=>
   induction gs with
   |fresh c=>
    induction r with
    |send v=>induction v<;>exact trivial
    |throw e=>exact trivial
   |_=>exact trivial
 |«yield» v g l k=>
  refine(zbV.no h ?_).elim;clear h;unfold step;dsimp only;cases splitAtGen stack with
  |none=>exact trivial
  |some q=>exact trivial
 |_=>exact(zbV.no h trivial).elim
theorem zqp{den:Code->Sem Fin}{p:Program}{w:World}:∀(n:Nat)(s s':Shared)(t:Thread)(f:Flow),runN den p w n s t=.halted (.done f) s' ->
  ∃m t1a,runN den p w m s t=.running s' t1a∧through t1a=true
 |0,_,_,_,_,h=>by cases h
 |n+1,s,s',t,f,h=>by
  simp only[runN]at h;cases e:step den p w s t with
  |go s₂ t2=>
   rw[e]at h;refine zfA (zqp n s₂ s' t2 f h) λm t1a a b=>?_;refine zlq (m+1) t1a ?_ b;simp only[runN,e];exact a
  |halt o s₂=>
   rw[e]at h;injection h with h1 h2;subst h1 h2;have:=step_halt_same _ _ _ _ _ _ _ e;subst this;exact zlq 0 t rfl (zso e)
noncomputable def zqL:SetTable:=(SetTable.mk 7 #[] #[] 0 default default default)
noncomputable def zhY(P:Params):BT:=((boot_heap P).objs.toList.foldl (λ(t:BT×Nat) o=>(t.1.ins t.2 o,t.2+1)) (BT.nil,0)).1
noncomputable def b0(w:World)(os:OsState):BS:={tree:=zhY w.params,n:=11,life:=(boot_heap w.params).life,gens:=[],drawn:=boot_drawn,toks:=boot_toks,os:=os,log:=[],at_:=[]}
theorem zxD(w:World)(os:OsState):(b0 w os).abs=⟨boot_heap w.params,#[],boot_drawn,boot_toks,os⟩:=by kernel_rfl
theorem ztr{prog:Program}{w:World}{os:OsState}{x:Nat->SD}:zbe prog w x (b0 w os):=⟨λi l h=>(zad (show none=some l from h)),λS k h=>zad (show none=some k from h)⟩
noncomputable def zkE:Code:=.builtin "claim.caller" {}
noncomputable def zr8:Ctx:=⟨zkE,none,none,[],none⟩
noncomputable def zyt(t:BT):List (Option Obj):=(List.range 11).map λi=>if i==mainNs||i==cStatics then none else t.get i
noncomputable def zsH(p:Program)(P:Params)(h:Heap)(gens:List GenState):Bool:=
 staticsOk (importedModules p.main.body) (boot_heap P) h&&namesBound p h&&gens.all (λg=>match g with|.finished=>true|_=>false)&&laidKept (boot_heap P) h&&(boot_heap P).isNs mainGlobals&&Nat.ble 11 h.objs.size
noncomputable def zrz(b:BS)(names:List Str):List (Option (List Str)):=names.map λn=>match b.heap.nsMap mainGlobals n with
 |some (.ref S)=>zhT b S
 |_=>none
section
variable(p q:Program)(loose:List Str)(Xt:Shared->Bool)(sets:List (Str×List Str)){β:Type}(ext:BS->β)(extV:World->β)
noncomputable abbrev zuG:=Seen×(Option Str×List (Str×Value))×Bool×Bool×(List (Option FnShape)×Bool)×List (Option PlainShape)×List (Option (PlainShape×Bool))×(List (Option FnShape)×Bool)×List (Option (List (Option FnShape)×Bool)×Option (PlainShape×Bool))
noncomputable def zyO(sn:Program->List Str->List Str->(Shared->Bool)->Bool->Shared->zuG)(P:Params):Option (Out Fin)->Option (zuG×Bool×List (Option Obj)×List (Option (List Str))×OsState×Life×β)
 |some (.ok (.done _) _ b)=>some (sn q loose (importedModules p.main.body) Xt false b.abs,zsH p P b.heap b.gens,zyt b.tree,zrz b (sets.map (·.1)),b.os,b.life,ext b)
 |_=>none
noncomputable def zxv(w:World)(os:OsState):Option (zuG×Bool×List (Option Obj)×List (Option (List Str))×OsState×Life×β):=
 some (openGood q loose,true,zyt (zhY w.params),sets.map (λs=>some s.2),os,(boot_heap w.params).life,extV w)
noncomputable def zhF(den:Code->Sem Fin)(nxt:Value->Sem (Option Value))(sn:Program->List Str->List Str->(Shared->Bool)->Bool->Shared->zuG)(N:Nat)(w:World):Prop:=
 ∀(y:Nat->SD)(os:OsState),zyO p q loose Xt sets ext sn w.params (big den nxt p w y N Fin zr8 (topStub p).cur default (b0 w os))=zxv q loose sets extV w os
end
noncomputable def zdv(prog:Program)(w:World)(sets:List (Str×List Str))(mg:Str->Option Value)(h:Heap):Prop:=
 ∀n l,(n,l)∈sets->∃S d,mg n=some (.ref S)∧h.get? S=some (zan d)∧zao prog w d l
theorem zs4{t t':BT}(e:zyt t=zyt t'){i:Nat}(hi:i<11)(h1:i≠mainNs)(h2:i≠cStatics):t.get i=t'.get i:=by
 have:=ya (·[i]?) e;unfold zyt at this;simp only[List.getElem?_map,List.getElem?_range hi,Option.map_some,Option.some.injEq]at this;have q:(i==mainNs||i==cStatics)=false:=by simp[h1,h2]
 rw[q]at this;exact this
set_option tactic.hygienic true in
theorem zwy{prog:Program}{w:World}{x:Nat->SD}{b:BS}{sets:List (Str×List Str)}(F:zbe prog w x b)(e:zrz b (sets.map (·.1))=sets.map (λs=>some s.2)) :
  zdv prog w sets (b.heap.nsMap mainGlobals) b.heap:=by
 intro n l hm;left;obtain⟨i,hi,he⟩:=List.getElem_of_mem hm;have:=ya (·[i]?) e;unfold zrz at this;simp only[List.getElem?_map,List.getElem?_eq_getElem hi,Option.map_some,Option.some.injEq,he]at this
 split at this
 ·rename_i S hS
  refine zcN (ziL F this) λd h1 h2 h3=>?_;exact zlk S d hS (BS.getSet h1 h2) h3
 ·exact zad this
theorem zdv.keeps{prog:Program}{w:World}{sets:List (Str×List Str)}{mg:Str->Option Value}{h h':Heap}(S:zdv prog w sets mg h)(k:∀b o,h.get? b=some o->h'.get? b=some o):zdv prog w sets mg h':=
 λn l hm=>let ⟨a,d,h1,h2,h3⟩:=S n l hm;(zlk a d h1 (k _ _ h2) h3)
inductive zv8(p q:Program)(loose:List Str)(XP:(Str->Option Value)->Heap->Prop)(sets:List (Str×List Str)){β:Type}(ext:BS->β)(extV:World->β)(w:World)(s s₀ s₁:Shared):Prop
 |mk (qa:fenceModules? p s=some s₀) (qb:s₀.gens=#[]) (qc:TopRan p w s₀ s₁) (qd:s₁.asleep) (qe:leftWithCleanup s₁.gens=false) (qf:s₁.heap.isNs mainGlobals=true) (qg:Ground q loose [] XP w s₁ (s₁.heap.nsMap mainGlobals) (s₁.heap.nsMap builtinsNs) s₁.heap) (qh:zdv p w sets (s₁.heap.nsMap mainGlobals) s₁.heap) (qi:∃b,s₁=b.abs∧ext b=extV w)
theorem zuK{p q:Program}{loose:List Str}{Xt:Shared->Bool}{XP:(Str->Option Value)->Heap->Prop}{sets:List (Str×List Str)}{β:Type}{ext:BS->β}{extV:World->β}{N M:Nat}{w:World}
  (hB:∀w:World,(fencedOpening treeTable p w M).map (λs=>(s.heap,s.gens,s.drawn,s.toks))=some (boot_heap w.params,Array.mk [],boot_drawn,boot_toks))
  (left:zhF p q loose Xt sets ext extV (denote table) pyNext openSeen N w)
  (hX:∀s,Xt s=true->XP (s.heap.nsMap mainGlobals) s.heap)(hch:chainsOk q=true) :
  (∃s,AfterRun (opening p) w s)∧∀s,AfterRun (opening p) w s->∃s₀ s₁,zv8 p q loose XP sets ext extV w s s₀ s₁:=by
 left;refine za1 (Option.map_eq_some_iff.mp (hB w)) λs₀ h2 hv=>?_;rw[←table_eq_tree]at h2;refine za1 (Option.bind_eq_some_iff.mp h2) λs h4 h5=>?_;have A:=AfterImport.of_importEnds h4;refine⟨⟨s,A⟩,λs' hs'=>?_⟩;clear h4 h2;obtain rfl:s'=s:=AfterImport.unique hs' A;have z:s₀.asleep:=Shared.asleep_of_life (fence_lifeW h5) A.life;left;obtain⟨hp0,g0,d0,k0,os⟩:=s₀;simp only[Prod.mk.injEq]at hv;obtain⟨rfl,rfl,rfl,rfl⟩:=hv;have e0:=zxD w os;have S:=zt1 (prog:=p) (w:=w) N (λ_=>((#[],0,zqL),default)) Fin zr8 (topStub p).cur default (b0 w os) ztr λy _=>by
  have:=left y os;cases e:big (denote table) pyNext p w y N Fin zr8 (topStub p).cur default (b0 w os)with
  |none=>rw[e]at this;exact zad this
  |some o=>rfl
 rw[e0]at S;have S':=(wp_iff_halts (M:=model p w) (c:=zkE) (topStub p).cur (λr s'=>∃b y f,r=.ok f∧s'=b.abs∧zbe p w y b∧zyO p q loose Xt sets ext openSeen w.params (some (.ok (.done f) default b))=zxv q loose sets extV w os) default _).mp (Sem.wp_mono _ _ _ (by
   rintro fin p' s' ⟨y,b,_,h1,rfl,F⟩;have hl:=left y os;rw[h1]at hl
   induction fin with
   |again c=>exact zad hl
   |done f=>
    refine⟨(zsz b y f rfl rfl F hl),?_⟩;have hg:zsH p w.params b.heap b.gens=true:=ya (λx=>(x.map (·.2.1)).getD false) hl;unfold zsH at hg;simp only[Bool.and_eq_true]at hg;obtain⟨⟨⟨⟨⟨_,_⟩,hg⟩,_⟩,_⟩,_⟩:=hg;rw[List.all_eq_true]at hg;unfold leftWithCleanup;rw[Array.any_eq_false'];intro g hgm;have:=hg g (by simpa[BS.abs]using hgm)
    induction g<;>simp_all) (by
   rintro e p' s' ⟨y,b,_,h1,rfl,F⟩;have hl:=left y os;rw[h1]at hl;exact zad hl) _ _ S)
 obtain⟨n,r,s',hn,b,y,f,rfl,rfl,F,hl⟩:=S';obtain⟨s'',hr,hf,hc⟩:=runNI_real _ _ _ hn (outcomeOf_ends _);have hl:=yi hl;simp only[Prod.mk.injEq]at hl;obtain⟨l1,l2,l3,l4,l5,l6,l7⟩:=hl;unfold zsH at l2;simp only[Bool.and_eq_true]at l2;obtain⟨⟨⟨⟨⟨t1,t2⟩,t3⟩,t4⟩,t5⟩,t7⟩:=l2;rw[List.all_eq_true]at t3;have hgm:∀g∈b.abs.gens,match g with|.finished=>True|_=>False:=λg hg=>by
  have:=t3 g (by simpa[BS.abs]using hg)
  induction g<;>simp_all
 have hns:b.abs.NoSusp:=λg hg=>by
  have:=hgm g hg
  induction g<;>simp_all [GenState.isSuspended]
 obtain rfl:=Shared.eq_of_forget_eq' hf hns;obtain⟨m,t1a,hm,ht⟩:=zqp _ _ _ _ _ hr;have hne:∀k s₂,runN (denote table) p w k (b0 w os).abs ⟨(topStub p).cur,zkE,default,[]⟩≠.halted (.unsupported "lifetime:generator-with-cleanup-left-suspended") s₂:=by
  intro k s₂ hk;have a:=runN_mono (denote table) p w n k _ _ _ _ hr;have c:=runN_mono (denote table) p w k n _ _ _ _ hk;rw[Nat.add_comm]at a;rw[e0]at c;rw[a]at c;injection c with c1 _;cases c1
 have hsch:=(schedN_eq_runN (denote table) p w _ ⟨(topStub p).cur,zkE,default,[]⟩ z ⟨hc,by rw[←e0];exact hne⟩ m).trans (ya Run.lift hm);obtain⟨G,g0,g1,g2,g3,g4,g5⟩:=ground_of_open (w:=w) hX hch l1;have hz:b.abs.heap.life=(boot_heap w.params).life:=l6;refine⟨_,b.abs,h5,rfl,⟨(zlq m t1a hsch ht),hz,Shared.rest_eq l5,λa o ha hn=>?_,g2,statics_of_ok t1,g3,g4,g5,hgm,names_of_bound t2,laid_of_kept t4⟩,Shared.asleep_of_life hz z,by simpa using g0,g1,G,zwy F l4,b,rfl,l7⟩;have eh:boot_heap w.params=absHeap (zhY w.params) 11 (boot_heap w.params).life:=(ya Shared.heap e0).symm;have hsz:(boot_heap w.params).objs.size=11:=(ya (λh:Heap=>h.objs.size) eh).trans (absHeap_size ..);have h11:a<11:=hsz▸Heap.lt_size ha;have hn11:11≤b.n:=by
  have:=yH t7;rwa[show b.heap.objs.size=b.n from absHeap_size ..]at this
 have hget:=zs4 l3 h11 (λq=>hn (.inl q)) λq=>hn (.inr (.inl q));refine Eq.trans ?_ ((ya (λh:Heap=>h.get? a) eh).symm.trans ha);show(absHeap b.tree b.n b.life).get? a=(absHeap (zhY w.params) 11 (boot_heap w.params).life).get? a;unfold Heap.get?;rw[absHeap_at,absHeap_at,hget,if_pos h11,if_pos (Nat.lt_of_lt_of_le h11 hn11)]
noncomputable def zys:List Value->List Int->Prop
 |[],[]=>True
 |.int i _::vs,x::xs=>i=x∧zys vs xs
 |_,_=>False
theorem zvN{R:WRecords}{t:WTm}{e:WCtx}{b:Bool}(h:WTm.value R t e=some (.bool b)):WTm.value R (.not t) e=some (.bool (!b)):=by
 show(match WTm.value R t e with|some (.bool b)=>some (.bool (!b))|_=>none:Option WData)=_;rw[h]
theorem holds_and{R:WRecords}{t u:WTm}{e:WCtx}{b:Bool}(h:WTm.value R t e=some (.bool b))(k:WTm.holds R (.and t u) e=true):b=true:=by
 cases b with
 |true=>rfl
 |false=>
  have:WTm.value R (.and t u) e=some (.bool false):=by
   show(match WTm.value R t e with|some (.bool false)=>some (.bool false)|some (.bool true)=>(match WTm.value R u e with|some (.bool x)=>some (.bool x)|_=>none:Option WData)|_=>none:Option WData)=_;rw[h]
  unfold WTm.holds at k;rw[this]at k;exact k
theorem zwW{l:OpenLaw}{xs:List WData}(hm:l.most=some 63)(hb:l.bound=none)(h:l.pre.holds [] {args:=[.list xs]}=true):xs.length≤63:=by
 unfold OpenLaw.pre at h;rw[hm,hb]at h;have v:WTm.value [] (.lt (.lit (.int ((63:Nat):Int))) (.len (.arg 0))) {args:=[.list xs]}=some (.bool (decide ((63:Int)<(xs.length:Int)))):=rfl;have k:=holds_and (zvN v) h;by_cases q:(63:Int)<xs.length
 ·rw[decide_eq_true q]at k;exact zaD k
 ·omega
theorem zs2{e:WCtx}(h:e.res=some (.bool true)):(WShape.has [] (.bool true) .bool&&WTm.holds [] (.eq .res (.lit (.bool true))) e)=true:=by
 refine yu.mpr ⟨rfl,?_⟩;have e1:same (.bool true) (.bool true)=true:=by right
 have v:WTm.value [] (.eq .res (.lit (.bool true))) e=some (.bool (same (.bool true) (.bool true))):=by
  show(match e.res,some (WData.bool true)with|some x,some y=>some (.bool (same x y))|_,_=>none:Option WData)=_;rw[h]
 unfold WTm.holds;rw[v,e1]
theorem zyW{P:Params}{h:Heap}{v:Value}{d:WData}(a:Well P h v d)(hs:WShape.has [] d .int=true):∃i t,d=.int i∧v=.int i t:=by
 cases d with
 |int i=>
  cases a with
  |int _ t=>exact⟨i,t,rfl,rfl⟩
 |_=>exact zaD (show false=true from hs)
theorem zvD{P:Params}{h:Heap}:∀{ds:List WData}{vs:List Value},WellAll P h vs ds->WShape.hasItems [] ds .int=true->∃xs,ds=xs.map WData.int∧zys vs xs:=by
 intro ds
 induction ds with
 |nil=>
  intro vs w _;cases w;exact⟨[],rfl,trivial⟩
 |cons d ds ih=>
  intro vs w hs;obtain⟨h1,h2⟩:=yu.mp (show(WShape.has [] d .int&&WShape.hasItems [] ds .int)=true from hs);cases w with
  |cons a b=>
   obtain⟨xs,e,hi⟩:=ih b h2;obtain⟨i,t,e1,e2⟩:=zyW a h1;rw[e,e1,e2];exact⟨i::xs,rfl,rfl,hi⟩
noncomputable def zah(p:Program)(i:Nat):List Stmt:=match p.main.body[i]? with
 |some (.FunctionDef _ _ body _ _ _ _ _ _ _)=>body
 |_=>[]
noncomputable def zau(p:Program)(i:Nat):Scope:=match p.main.body[i]? with
 |some (.FunctionDef _ _ _ _ _ _ scope _ _ _)=>scope
 |_=>default
noncomputable def zaQ(p:Program)(i:Nat):Arguments:=match p.main.body[i]? with
 |some (.FunctionDef _ args _ _ _ _ _ _ _ _)=>args
 |_=>default
noncomputable def zon(p:Program)(i:Nat):List Stmt:=match (List.head? (zah p i):Option Stmt)with
 |some (.FunctionDef _ _ body _ _ _ _ _ _ _)=>body
 |_=>[]
noncomputable def zh3(p:Program)(i:Nat):Scope:=match (List.head? (zah p i):Option Stmt)with
 |some (.FunctionDef _ _ _ _ _ _ scope _ _ _)=>scope
 |_=>default
noncomputable def zuT(p:Program)(i:Nat):Arguments:=match (List.head? (zah p i):Option Stmt)with
 |some (.FunctionDef _ args _ _ _ _ _ _ _ _)=>args
 |_=>default
noncomputable def zru(e:DictEntry):Option (Int×List Nat×List Nat):=match e.key,e.val with
 |.str k _,.str v _=>some (e.hash,k.cps.toList,v.cps.toList)
 |_,_=>none
noncomputable def zmV(h:Heap):Option (List (Option (Int×List Nat×List Nat))):=match h.nsMap mainGlobals "BASIC_STR_ESCAPE_REPLACEMENTS" with
 |some (.ref M)=>match h.get? M with
  |some oM=>if oM.cls == .type "mappingproxy" then match oM.data with
   |.fields vs=>match (vs[0]?:Option Value)with
    |some (.ref D)=>if D==sysModules then none else match h.get? D with
     |some oD=>if oD.cls == .type "dict" && oD.dict.isNone&&oD.slots.isEmpty then match oD.data with
      |.dict es _=>some (es.toList.map zru)
      |_=>none
      else none
     |none=>none
    |_=>none
   |_=>none
   else none
  |none=>none
 |_=>none
noncomputable def zcY:List (List Nat×List Nat):=[([92,98],[8]),([92,116],[9]),([92,110],[10]),([92,102],[12]),([92,114],[13]),([92,34],[34]),([92,92],[92])]
noncomputable def zqC(w:World):Option (List (Option (Int×List Nat×List Nat))):=some (zcY.map λp=>some (hashStr w ⟨p.1.toArray⟩,p.1,p.2))
inductive zAC(prog:Program)(w:World)(mg:Str->Option Value)(h:Heap)(M D:Addr)(oM:Obj)(vs:Array Value)(f:Str->Option Value):Prop
 |mk (qa:mg "BASIC_STR_ESCAPE_REPLACEMENTS"=some (.ref M)) (qb:h.get? M=some oM) (qc:oM.cls=.type "mappingproxy") (qd:oM.data=.fields vs) (qe:vs[0]?=some (.ref D)) (qf:(D==sysModules)=false) (qg:h.MapOf (PySem.strKind prog w) D f) (qh:∀p∈zcY,∃t,f ⟨p.1.toArray⟩=some (.str ⟨p.2.toArray⟩ t)) (qi:∀k:List Nat,(∀p∈zcY,p.1≠k)->f ⟨k.toArray⟩=none)
noncomputable def zi6(prog:Program)(w:World)(mg:Str->Option Value)(h:Heap):Prop:=∃M D oM vs f,zAC prog w mg h M D oM vs f
set_option tactic.hygienic true in
theorem zlR{w:World}:∀{es:List DictEntry}{ps:List (List Nat×List Nat)},es.map zru=ps.map (λp=>some (hashStr w ⟨p.1.toArray⟩,p.1,p.2))->(ps.map (·.1)).Nodup ->
  (∀e∈es,∃k:Str,Value.isStrOf k e.key=true∧e.hash=hashStr w k)∧(∀p∈ps,∃t,((es.find? λe=>Value.isStrOf ⟨p.1.toArray⟩ e.key).map (·.val))=some (.str ⟨p.2.toArray⟩ t)) ∧
  (∀k:List Nat,(∀p∈ps,p.1≠k)->(es.find? λe=>Value.isStrOf ⟨k.toArray⟩ e.key)=none)
 |[],[],_,_=>⟨λe h=>(zb7 h),λp h=>(zb7 h),λ_ _=>rfl⟩
 |e::es,p::ps,h,hn=>by
  simp only[List.map_cons,List.map_cons,List.cons.injEq]at h;rw[List.map_cons,List.nodup_cons]at hn;left;refine zmO (zlR (w:=w) h.2 hn.2) λh1 h2 h3=>?_;have hr:=h.1;clear h;obtain⟨eh,ek,ev⟩:=e;unfold zru at hr
  split at hr
  ·rename_i k tk v tv hk hv
   dsimp only at hk hv;subst hk hv;simp only[Option.some.injEq,Prod.mk.injEq]at hr;obtain⟨r1,r2,r3⟩:=hr;have ek:(⟨p.1.toArray⟩:Str)=k:=by rw[←r2]
   have evv:(⟨p.2.toArray⟩:Str)=v:=by rw[←r3]
   have keyIs:∀x:List Nat,Value.isStrOf ⟨x.toArray⟩ (.str k tk)=decide (x=p.1):=λx=>by
    rw[←ek];by_cases q:x=p.1
    ·subst q;simp[Value.isStrOf]
    ·have q':¬p.1=x:=λz=>q z.symm
     simp[Value.isStrOf,q,q']
   refine⟨λe he=>?_,λp' hp'=>?_,λk' hk'=>?_⟩
   ·rcases yx.mp he with rfl|he
    ·exact zbO k (by simp[Value.isStrOf]) (ek.symm▸r1)
    ·exact h1 e he
   ·clear r3 r2 r1 ek G
    rcases yx.mp hp' with rfl|hp'
    ·rw[List.find?_cons,keyIs,decide_eq_true rfl]
     exact⟨tv,by rw[evv];rfl⟩
    ·simp only[List.find?_cons,keyIs,decide_eq_false (λz:p'.1=p.1=>hn.1 (List.mem_map.mpr (zbO p' hp' z)))]
     exact h2 p' hp'
   ·simp only[List.find?_cons,keyIs,decide_eq_false (λz:k'=p.1=>hk' p List.mem_cons_self z.symm)]
    exact h3 k' λp' hp'=>hk' p' (ym _ hp')
  ·exact zad hr
 |[],_::_,h,_=>by simp at h
 |_::_,[],h,_=>by simp at h
set_option tactic.hygienic true in
theorem ztO{prog:Program}{w:World}{h:Heap}(e:zmV h=zqC w):zi6 prog w (h.nsMap mainGlobals) h:=by
 unfold zmV at e;left
 split at e
 ·rename_i M hM
  split at e
  ·rename_i oM hoM
   split at e
   ·rename_i hc
    split at e
    ·rename_i vs hd
     split at e
     ·rename_i D hD
      split at e
      ·exact zad e
      ·rename_i hs
       split at e
       ·rename_i oD hoD
        split at e
        ·rename_i hx
         split at e
         ·rename_i es ep hde
          have e:=yi e;refine zmO (zlR e (by decide)) λr1 r2 r3=>?_;simp only[Bool.and_eq_true,beq_iff_eq]at hx;obtain⟨⟨x1,x2⟩,x3⟩:=hx;refine⟨M,D,oM,vs,findBy Value.isStrOf es,hM,hoM,by exact yC hc,hd,hD,by simpa using hs,(zzQ oD es ep hoD ⟨x1,by simpa using x2,by simpa using x3⟩ hde (λe he=>?_) (λk=>rfl)),λp hp=>?_,λk hk=>?_⟩
          ·exact r1 e (by simpa using he)
          ·obtain⟨t,ht⟩:=r2 p hp
           refine⟨t,?_⟩;unfold findBy;rw[←Array.find?_toList];exact ht
          ·unfold findBy
           rw[←Array.find?_toList,r3 k hk];rfl
         ·exact zad e
        ·exact zad e
       ·exact zad e
     ·exact zad e
    ·exact zad e
   ·exact zad e
  ·exact zad e
 ·exact zad e
theorem zi6.keeps{prog:Program}{w:World}{mg:Str->Option Value}{h h':Heap}(x:zi6 prog w mg h)(k:∀b o,h.get? b=some o->h'.get? b=some o):zi6 prog w mg h':=by
 left;obtain⟨M,D,oM,vs,f,e1,e2,e3,e4,e5,e6,⟨o,es,ep,m1,m2⟩,e8,e9⟩:=x;exact⟨M,D,oM,vs,f,e1,k _ _ e2,e3,e4,e5,e6,(zu2 o es ep (k _ _ m1) m2),e8,e9⟩
inductive KwA(d:DefRec×List (Str×Expr))(mg:Str->Option Value)(h:Heap)(a:Addr)(o:Obj)(pm cd doc dV kV:Value):Prop
 |mk (qa:mg d.1.name=some (.ref a)) (qb:h.get? a=some o) (qc:o.data=.func {docDef d.1.name d.1.params d.1.body d.1.scope pm cd doc with defaults:=dV,kwdefaults:=kV}) (qd:h.CodeRec cd d.1.name) (qe:Dflts mg h d.1.params d.2 dV kV)
noncomputable def zvl(d:DefRec×List (Str×Expr))(mg:Str->Option Value)(h:Heap):Prop:=∃a o pm cd doc dV kV,KwA d mg h a o pm cd doc dV kV
theorem zvl.keeps{d:DefRec×List (Str×Expr)}{mg:Str->Option Value}{h h':Heap}(x:zvl d mg h)(k:∀b o,h.get? b=some o->h'.get? b=some o):zvl d mg h':=by
 left;obtain⟨a,o,pm,cd,doc,dV,kV,h1,h2,h3,h4,h5⟩:=x;exact⟨a,o,pm,cd,doc,dV,kV,h1,k _ _ h2,h3,h4.keeps k,h5.keeps k⟩
set_option tactic.hygienic true in
theorem zvQ{d:DefRec×List (Str×Expr)}{h:Heap}(e:shapeAtK h d.1.name=some d.1.shape)(q:dfltAt h d=true):zvl d (h.nsMap mainGlobals) h:=by
 left;obtain⟨a,o,pm,code,doc,dV,kV,hb,ho,hdat,hc⟩:=hasFn_of_shapeK e;unfold dfltAt at q
 split at q
 ·rename_i f o' fd hf
  refine zmO (Heap.fnAt_spec hf) λhb' ho' hdat'=>?_;clear hf;obtain rfl:f=a:=by rw[hb]at hb';injection hb' with q;injection q with q;exact q.symm
  obtain rfl:o'=o:=by rw[ho]at ho';exact(yi ho').symm
  rw[hdat]at hdat';obtain rfl:=Data.func.inj hdat';obtain⟨q1,q2⟩:=yu.mp q;exact⟨_,_,pm,code,doc,dV,kV,hb,ho,hdat,hc,dflts_of_at q1 q2⟩
 ·exact zaD q
inductive EC where
 |toml|index|value|key|recur
 deriving DecidableEq
inductive D where
 |none
 |bool (b:Bool)
 |int (i:Int)
 |str (l:List Nat)
 |tup (l:List D)
 |lst (l:List D)
 |fset (l:List (List Nat))
 |fn (n:Str)
 |lfn
 |rng (l:List D)
 |exc (c:EC) (m:List Nat)
 |err (c:EC) (m:List Nat)
 |dct (l:List (List Nat×(List Nat ⊕ Int)))
 |tstr (l:List Nat) (b:Nat)
noncomputable def zre(x k:Int):Nat->List D
 |0=>[]
 |n+1=>.int x::zre (x+k) k n
theorem zln(x:Int):∀n:Nat,zre x 1 n=(List.range n).map λj:Nat=>.int (x+(j:Int))
 |0=>rfl
 |n+1=>by
  rw[List.range_succ_eq_map,List.map_cons,List.map_map];show D.int x::zre (x+1) 1 n=_;rw[zln (x+1) n,Int.natCast_zero,Int.add_zero]
  congr 1
  refine List.map_congr_left λj _=>?_;show D.int (x+1+(j:Int))=D.int (x+((j+1:Nat):Int));rw[Int.natCast_succ,Int.add_assoc,Int.add_comm 1]
noncomputable def D.isExc:D->Bool
 |.exc ..=>true
 |_=>false
noncomputable def New(hs:Heap)(v:Value)(d:D):Prop:=d.isExc=true->∃e,v=.ref e∧hs.get? e=none
structure zrP where
 get?:Addr->Option Obj
noncomputable def zAP(hs:zrP)(v:Value)(d:D):Prop:=d.isExc=true->∃e,v=.ref e∧hs.get? e=none
noncomputable def mk(l:List Nat):Str:=⟨l.toArray⟩
theorem zdx(x:Str):mk x.cps.toList=x:=by cases x;simp[mk]
theorem zlG{a b:List Nat}(h:mk a=mk b):a=b:=by
 have:=ya (λx:Str=>x.cps.toList) h;simpa[mk]using this
noncomputable def Q0:Str:="suffixed_err.<locals>.coord_repr"
inductive zxz(h:Heap)(c:Addr)(o:Obj)(vs:Array Value)(t:Tok):Prop
 |mk (qa:h.get? c=some o) (qb:o.cls=.type "code") (qc:o.data=.fields vs) (qd:vs[1]?=some (.str Q0 t))
noncomputable def zcS(h:Heap)(c:Addr):Prop:=∃o vs t,zxz h c o vs t
structure LF where
 name:Str
 params:Arguments
 body:List Stmt
 scope:Scope
 pm:Value
noncomputable def LF.fd(l:LF)(c:Addr):FuncData:={name:=l.name,qualname:=Q0,params:=l.params,body:=.stmts l.body,scope:=l.scope,globals:=mainGlobals,closure:=[],defaults:=.none,kwdefaults:=.none,pyModule:=l.pm,code:=.ref c,builtins:=builtinsNs}
structure St0 where
 prog:Program
 w:World
 mg:Str->Option Value
 mb:Str->Option Value
 base:Heap
 tab:Addr
 lf:LF
noncomputable def St0.cls(S:St0):EC->Value
 |.toml=>match S.mg "TOMLDecodeError" with
  |some (.ref C)=>.ref C
  |_=>.type "ValueError"
 |.index=>.type "IndexError"
 |.value=>.type "ValueError"
 |.key=>.type "KeyError"
 |.recur=>.type "RecursionError"
theorem St0.cls_toml{S:St0}{C:Addr}(h:S.mg "TOMLDecodeError"=some (.ref C)):S.cls .toml=.ref C:=by
 unfold St0.cls;dsimp only;rw[h]
theorem St0.cls_ne(S:St0)(c:EC):S.cls c≠.none∧S.cls c≠.type "code":=by
 cases c
 case toml=>
  unfold St0.cls;dsimp only
  split<;>exact⟨by simp,by simp⟩
 all_goals exact⟨by simp[St0.cls],by simp[St0.cls]⟩
inductive zjw:List (Str×Value)->List (List Nat×(List Nat ⊕ Int))->Prop
 |nil:zjw [] []
 |str {k x t vs l}:zjw vs l->zjw ((mk k,.str (mk x) t)::vs) ((k,.inl x)::l)
 |int {k i t vs l}:zjw vs l->zjw ((mk k,.int i t)::vs) ((k,.inr i)::l)
mutual
inductive zcj(S:St0)(h:Heap)(P:Addr->Prop):Value->D->Prop
 |none:zcj S h P .none .none
 |bool (b):zcj S h P (.bool b) (.bool b)
 |int (i t):zcj S h P (.int i t) (.int i)
 |str (l t):zcj S h P (.str (mk l) t) (.str l)
 |tup {a o vs n ds}:h.get? a=some o->o.cls=.type "tuple"->o.data=.seq vs n->zaO S h P vs.toList ds->zcj S h P (.ref a) (.tup ds)
 |lst {a o vs n ds}:h.get? a=some o->¬P a->o.cls=.type "list"->o.data=.seq vs n->zaO S h P vs.toList ds->zcj S h P (.ref a) (.lst ds)
 |fset {a l d}:h.get? a=some (zan d)->S.base.get? a=some (zan d)->zao S.prog S.w d (l.map mk)->zcj S h P (.ref a) (.fset l)
 |fn {n v}:S.mg n=some v->zcj S h P v (.fn n)
 |lfn {a o c}:h.get? a=some o->o.data=.func (S.lf.fd c)->zcS h c->zcj S h P (.ref a) .lfn
 |rng {r x b k t u v ds} {n:Nat}:h.get? r=some {cls:=.type "range",dict:=none,data:=.fields #[.int x t,.int b u,.int k v],slots:=#[]}->¬P r->(n:Int)=Builtin.Range.rangeSize x b k->Builtin.Range.small x b k=true->ds=zre x k n->zcj S h P (.ref r) (.rng ds)
 |exc {e t c m o tk}:h.get? e=some {cls:=S.cls c,data:=.fields #[.ref t,.none,.none,.none,.bool false,.none]}->¬P e->h.get? t=some o->o.cls=.type "tuple"->(∃n,o.data=.seq #[.str (mk m) tk] n)->zcj S h P (.ref e) (.exc c m)
 |err {e t c m o oe vs tk}:h.get? e=some oe->oe.cls=S.cls c->oe.data=.fields vs->vs[0]?=some (.ref t)->¬P e->h.get? t=some o->o.cls=.type "tuple"->(∃n,o.data=.seq #[.str (mk m) tk] n)->zcj S h P (.ref e) (.err c m)
 |dct {a o kvs l}:h.get? a=some o->o.IsDictOf (strKind S.prog S.w) kvs->¬P a->(a==sysModules)=false->zjw kvs l->zcj S h P (.ref a) (.dct l)
 |tstr {l t b}:0<t->t<b->zcj S h P (.str (mk l) t) (.tstr l b)
inductive zaO(S:St0)(h:Heap)(P:Addr->Prop):List Value->List D->Prop
 |nil:zaO S h P [] []
 |cons {v d vs ds}:zcj S h P v d->zaO S h P vs ds->zaO S h P (v::vs) (d::ds)
end
inductive zn8(S:St0)(h:Heap)(P:Addr->Prop)(T:String)(v:Value)(ds:List D)(b:Addr)(o:Obj)(vs:Array Value)(n:Nat):Prop
 |mk (qa:v=.ref b) (qb:h.get? b=some o) (qc:o.cls=.type T) (qd:o.data=.seq vs n) (qe:zaO S h P vs.toList ds)
inductive zxZ(S:St0)(h:Heap)(l:List (List Nat))(v:Value)(a:Addr)(d:zc3):Prop
 |mk (qa:v=.ref a) (qb:h.get? a=some (zan d)) (qc:S.base.get? a=some (zan d)) (qd:zao S.prog S.w d (l.map mk))
inductive zyl(S:St0)(h:Heap)(P:Addr->Prop)(c:EC)(m:List Nat)(v:Value)(e t:Addr)(o:Obj)(tk:Tok):Prop
 |mk (qa:v=.ref e) (qb:h.get? e=some {cls:=S.cls c,data:=.fields #[.ref t,.none,.none,.none,.bool false,.none]}) (qc:¬P e) (qd:h.get? t=some o) (qe:o.cls=.type "tuple") (qf:∃n,o.data=.seq #[.str (mk m) tk] n)
noncomputable def zA2(S:St0)(h:Heap)(P:Addr->Prop)(v:Value):D->Prop
 |.none=>v=.none
 |.bool b=>v=.bool b
 |.int i=>∃t,v=.int i t
 |.str l=>∃t,v=.str (mk l) t
 |.tup ds=>∃b o vs n,zn8 S h P "tuple" v ds b o vs n
 |.lst ds=>∃b o vs n,zn8 S h P "list" v ds b o vs n
 |.fset l=>∃a d,zxZ S h l v a d
 |.fn n=>S.mg n=some v
 |.exc c m=>∃e t o tk,zyl S h P c m v e t o tk
 |.tstr l b=>∃t,0<t∧t<b∧v=.str (mk l) t
 |_=>True
theorem zcj.inv{S:St0}{h:Heap}{P:Addr->Prop}{v:Value}{d:D}(x:zcj S h P v d):zA2 S h P v d:=by
 cases x with
 |none=>exact rfl
 |bool b=>exact rfl
 |int i t=>exact⟨t,rfl⟩
 |str l t=>exact⟨t,rfl⟩
 |tup h1 h2 h3 h4=>exact⟨_,_,_,_,rfl,h1,h2,h3,h4⟩
 |lst h1 _ h2 h3 h4=>exact⟨_,_,_,_,rfl,h1,h2,h3,h4⟩
 |fset h1 h2 h3=>exact⟨_,_,rfl,h1,h2,h3⟩
 |fn h1=>exact h1
 |lfn _ _ _=>exact trivial
 |rng _ _ _ _ _=>exact trivial
 |exc h1 h2 h3 h4 h5=>exact⟨_,_,_,_,rfl,h1,h2,h3,h4,h5⟩
 |err _ _ _ _ _ _ _ _=>exact trivial
 |dct _ _ _ _ _=>exact trivial
 |tstr h1 h2=>exact⟨_,h1,h2,rfl⟩
noncomputable def ziN(o:Obj):Prop:=o.cls=.none∧∃vs,o.data=.fields vs
theorem zaL{o:Obj}{T:String}(h:o.cls=.type T):¬ziN o:=λq=>by have:=q.1;rw[h]at this;cases this
theorem zcU{o:Obj}(h:∀vs,o.data≠.fields vs):¬ziN o:=λq=>q.2.elim λvs e=>h vs e
theorem zfS{o:Obj}(h:(o.cls=.type "code"∧∃vs,o.data=.fields vs)∨∃fd,o.data=.func fd):¬ziN o:=by
 rcases h with⟨h,_⟩|⟨fd,h⟩
 ·exact zaL h
 ·exact zcU λvs e=>by rw[h]at e;cases e
inductive zk2(h:Heap):List Value->Prop
 |nil:zk2 h []
 |cons {x t y u c rest}:zcS h c->zk2 h rest->zk2 h (.int x t::.int y u::.ref c::rest)
theorem zk2.mono{h h':Heap}(k:∀c,zcS h c->zcS h' c){l:List Value}(q:zk2 h l):zk2 h' l:=by
 induction q with
 |nil=>exact .nil
 |cons a _ ih=>exact .cons (k _ a) ih
theorem zk2.append{h:Heap}{m:List Value}(y:zk2 h m){l:List Value}(q:zk2 h l):zk2 h (l++m):=by
 induction q with
 |nil=>exact y
 |cons a _ ih=>exact .cons a ih
theorem zk2.ok{h:Heap}(l:List Value)(q:zk2 h l):TriplesOk l:=by
 induction q with
 |nil=>exact trivial
 |cons a _ ih=>exact ih
theorem zk2.among{h:Heap}{pos:Pos}{c:Value}{l:List Value}(q:zk2 h l):codeAmong pos l=some c->∃c',c=.ref c'∧zcS h c':=by
 induction q with
 |nil=>intro e;simp[codeAmong]at e
 |cons a _ ih=>
  intro e;unfold codeAmong at e
  split at e
  ·obtain rfl:=yi e;exact⟨_,rfl,a⟩
  ·exact ih e
noncomputable def zoU(h':Heap)(o o':Obj):Prop:=(¬ziN o->∃sl,o'={o with slots:=sl}) ∧
 (∀vs,o.cls=.none->o.data=.fields vs->∃more,o'={o with data:=.fields (vs++more)}∧zk2 h' more.toList)
theorem zoU.refl(h':Heap)(o:Obj):zoU h' o o:=⟨λ_=>⟨o.slots,rfl⟩,λvs _ e=>⟨#[],by rw[Array.append_empty,←e],.nil⟩⟩
noncomputable def zbQ(F:List Addr)(g:Addr->Option Obj)(h':Heap):Prop:=∀b o,g b=some o->(b∉F->h'.get? b=some o)∧∃o',h'.get? b=some o'∧zoU h' o o'
noncomputable def zdQ(F:List Addr)(h h':Heap):Prop:=zbQ F h.get? h'
theorem zbQ.weakD{F:List Addr}{g:Addr->Option Obj}{h':Heap}(x:zbQ F g h'){b:Addr}{o:Obj}(e:g b=some o)(n:¬ziN o):∃o',h'.get? b=some o'∧o'.cls=o.cls∧o'.data=o.data∧o'.dict=o.dict:=by
 refine zcN ((x b o e).2) λo' q s _=>?_;left;obtain⟨sl,rfl⟩:=s n;exact⟨_,q,rfl,rfl,rfl⟩
theorem zbQ.weak{F:List Addr}{g:Addr->Option Obj}{h':Heap}(x:zbQ F g h'){b:Addr}{o:Obj}(e:g b=some o)(n:¬ziN o):∃o',h'.get? b=some o'∧o'.cls=o.cls∧o'.data=o.data:=let ⟨o',a,b,c,_⟩:=x.weakD e n;⟨o',a,b,c⟩
theorem zcS.keep{F:List Addr}{h h':Heap}{c:Addr}(q:zcS h c)(x:zdQ F h h'):zcS h' c:=by
 obtain⟨o,vs,t,h1,h2,h3,h4⟩:=q;obtain⟨o',k1,k2,k3⟩:=zbQ.weak x h1 (zaL h2);exact⟨o',vs,t,k1,k2.trans h2,k3.trans h3,h4⟩
theorem zoU.trans{F:List Addr}{h2 h3:Heap}{o1 o2 o3:Obj}(y:zdQ F h2 h3)(s:zoU h2 o1 o2)(t:zoU h3 o2 o3):zoU h3 o1 o3:=by
 refine⟨λn=>?_,λvs hc hd=>?_⟩
 ·refine zfh (s.1 n) λsl hzz=>?_
  subst hzz;obtain⟨sl',rfl⟩:=t.1 λq=>n q;exact⟨sl',rfl⟩
 ·refine za1 (s.2 vs hc hd) λm1 hzz a1=>?_
  subst hzz;refine za1 (t.2 (vs++m1) hc rfl) λm2 hzz a2=>?_;subst hzz;exact⟨m1++m2,by rw[Array.append_assoc],by rw[Array.toList_append];exact zk2.append a2 (a1.mono λc q=>q.keep y)⟩
theorem zbQ.transL{F:List Addr}{L:Addr}{g:Addr->Option Obj}{h2 h3:Heap}(x:zbQ F g h2)(y:zdQ (L::F) h2 h3)(n:g L=none):zbQ F g h3:=λb o e=>by
 left;obtain⟨x1,o',x2,s⟩:=x b o e;obtain⟨_,o'',y2,t⟩:=y b _ x2;refine⟨λhb=>(y b o (x1 hb)).1 λq=>?_,o'',y2,s.trans y t⟩;rcases yx.mp q with q|q
 ·rw[q,n]at e;exact zad e
 ·exact hb q
theorem zbQ.trans{F:List Addr}{g:Addr->Option Obj}{h2 h3:Heap}(x:zbQ F g h2)(y:zdQ F h2 h3):zbQ F g h3:=λb o e=>by
 left;obtain⟨x1,o',x2,s⟩:=x b o e;obtain⟨_,o'',y2,t⟩:=y b _ x2;exact⟨λhb=>(y b o (x1 hb)).1 hb,o'',y2,s.trans y t⟩
theorem zbQ.of_keeps{F:List Addr}{g:Addr->Option Obj}{h':Heap}(k:∀b o,g b=some o->h'.get? b=some o):zbQ F g h':=λb o e=>⟨λ_=>k b o e,o,k b o e,.refl _ _⟩
theorem zbQ.there{F:List Addr}{g:Addr->Option Obj}{h':Heap}(x:zbQ F g h'){b:Addr}{o:Obj}(e:g b=some o):(h'.get? b).isSome=true:=by
 obtain⟨o',q,_⟩:=(x b o e).2;rw[q];rfl
theorem zbQ.new{F:List Addr}{g:Addr->Option Obj}{h':Heap}(x:zbQ F g h'){b:Addr}(e:h'.get? b=none):g b=none:=by
 cases q:g b with
 |none=>rfl
 |some o=>have:=x.there q;rw[e]at this;exact zaD this
theorem zbQ.mono{F G:List Addr}{g:Addr->Option Obj}{h':Heap}(x:zbQ F g h')(s:∀b,b∈F->b∈G):zbQ G g h':=λb o e=>⟨λhb=>(x b o e).1 λq=>hb (s b q),(x b o e).2⟩
theorem zdQ.refl(F:List Addr)(h:Heap):zdQ F h h:=zbQ.of_keeps λ_ _ e=>e
theorem zdQ.trans{F:List Addr}{h1 h2 h3:Heap}(x:zdQ F h1 h2)(y:zdQ F h2 h3):zdQ F h1 h3:=zbQ.trans x y
theorem zdQ.mono{F G:List Addr}{h h':Heap}(x:zdQ F h h')(s:∀b,b∈F->b∈G):zdQ G h h':=zbQ.mono x s
theorem zdQ.of_keeps{F:List Addr}{h h':Heap}(k:∀b o,h.get? b=some o->h'.get? b=some o):zdQ F h h':=zbQ.of_keeps k
theorem zdQ.weak{F:List Addr}{h h':Heap}(x:zdQ F h h'){b:Addr}{o:Obj}(e:h.get? b=some o)(n:¬ziN o):∃o',h'.get? b=some o'∧o'.cls=o.cls∧o'.data=o.data:=zbQ.weak x e n
theorem zdQ.weakD{F:List Addr}{h h':Heap}(x:zdQ F h h'){b:Addr}{o:Obj}(e:h.get? b=some o)(n:¬ziN o):∃o',h'.get? b=some o'∧o'.cls=o.cls∧o'.data=o.data∧o'.dict=o.dict:=zbQ.weakD x e n
theorem zdQ.push{F:List Addr}(h:Heap)(o:Obj):zdQ F h (h.push o):=.of_keeps λ_ _ e=>yB _ e
theorem zdQ.new{F:List Addr}{h h':Heap}(x:zdQ F h h'){b:Addr}(e:h'.get? b=none):h.get? b=none:=zbQ.new x e
theorem zdQ.there{F:List Addr}{h h':Heap}(x:zdQ F h h'){b:Addr}{o:Obj}(e:h.get? b=some o):(h'.get? b).isSome=true:=zbQ.there x e
theorem zdQ.ns{F:List Addr}{h h':Heap}(x:zdQ F h h'){a:Addr}{m}(n:h.Ns a m):h'.Ns a m:=by
 refine zra n λo es ep ho hd r=>?_;obtain⟨o',h1,_,h2⟩:=x.weak ho (zcU λvs e=>by cases hd.symm.trans e);exact⟨o',es,ep,h1,h2.trans hd,r⟩
theorem zfg{h h' base:Heap}{l:List Env}(f:h.FunFrames base l)(k:∀b∈l.filterMap (·.frame),∀o,h.get? b=some o->(∀vs,o.data≠.fields vs)->∃o',h'.get? b=some o'∧∀vs,o'.data≠.fields vs):h'.FunFrames base l:=by
 induction l with
 |nil=>exact trivial
 |cons env rest ih=>
  left;obtain⟨hk,⟨L,o,hf,hn,ho,hd⟩,hr⟩:=f;rw[List.filterMap_cons,hf]at k;refine za1 (k L yp o ho hd) λo' q1 q2=>?_;exact⟨hk,⟨L,o',hf,hn,q1,q2⟩,ih hr λb hb=>k b (ym _ hb)⟩
theorem zdQ.funFrames{F:List Addr}{h h' base:Heap}(x:zdQ F h h'){l:List Env}(f:h.FunFrames base l):h'.FunFrames base l:=
 f.of_keeps λb o e hd=>let ⟨o',h1,_,h2⟩:=x.weak e (zcU hd);⟨o',h1,h2⟩
noncomputable def zeO(F:List Addr)(p:zrP)(h':Heap):Prop:=zbQ F p.get? h'
theorem zeO.transL{F:List Addr}{L:Addr}{p:zrP}{h2 h3:Heap}(x:zeO F p h2)(y:zdQ (L::F) h2 h3)(n:p.get? L=none):zeO F p h3:=zbQ.transL x y n
theorem zeO.new{F:List Addr}{p:zrP}{h':Heap}(x:zeO F p h'){b:Addr}(e:h'.get? b=none):p.get? b=none:=zbQ.new x e
theorem zeO.there{F:List Addr}{p:zrP}{h':Heap}(x:zeO F p h'){b:Addr}{o:Obj}(e:p.get? b=some o):(h'.get? b).isSome=true:=zbQ.there x e
theorem zeO.stays{F:List Addr}{p:zrP}{h' base:Heap}(x:zeO F p h')(f:∀b∈F,base.get? b=none)(s:∀b o,base.get? b=some o->p.get? b=some o):base.StaysIn h':=λb o e=>
 (x b o (s b o e)).1 λq=>by rw[f b q]at e;exact zad e
theorem zeO.of_keeps{F:List Addr}{p:zrP}{h':Heap}(k:∀b o,p.get? b=some o->h'.get? b=some o):zeO F p h':=zbQ.of_keeps k
noncomputable def TabAt(S:St0)(h:Heap):Prop:=∃ps,h.get? S.tab=some {cls:=.none,data:=.fields ps}∧zk2 h ps.toList
theorem TabAt.keep{S:St0}{F:List Addr}{h h':Heap}(t:TabAt S h)(x:zdQ F h h'):TabAt S h':=by
 refine za1 t λps h1 h2=>?_;obtain⟨_,o',k1,_,k2⟩:=x _ _ h1;refine za1 (k2 ps rfl rfl) λmore hzz k3=>?_;subst hzz;exact⟨ps++more,k1,by rw[Array.toList_append];exact zk2.append k3 (h2.mono λc q=>q.keep x)⟩
theorem TabAt.same{S:St0}{h h':Heap}(t:TabAt S h)(e:h'.get? S.tab=h.get? S.tab)(k:∀c o,h.get? c=some o->o.cls=.type "code"->(∃vs,o.data=.fields vs)->∃o',h'.get? c=some o'∧o'.cls=o.cls∧o'.data=o.data):TabAt S h':=by
 refine za1 t λps h1 h2=>?_;refine⟨ps,e.trans h1,h2.mono λc q=>?_⟩;obtain⟨o,vs,t,q1,q2,q3,q4⟩:=q;refine zcN (k c o q1 q2 ⟨vs,q3⟩) λo' k1 k2 k3=>?_;exact⟨o',vs,t,k1,k2.trans q2,k3.trans q3,q4⟩
structure zfi(S:St0)(h h':Heap)(P P':Addr->Prop):Prop where
 obj:∀b o,h.get? b=some o->¬P b->h'.get? b=some o
 sets:∀b o,S.base.get? b=some o->h.get? b=some o->h'.get? b=some o
 tup:∀b o vs n,h.get? b=some o->o.cls=.type "tuple"->o.data=.seq vs n->∃o',h'.get? b=some o'∧o'.cls=o.cls∧o'.data=o.data
 no:∀b,(h.get? b).isSome=true->P' b->P b
 code:∀b o,h.get? b=some o->((o.cls=.type "code"∧∃vs,o.data=.fields vs)∨∃fd,o.data=.func fd)->∃o',h'.get? b=some o'∧o'.cls=o.cls∧o'.data=o.data
theorem zfi.codeQ{S:St0}{h h':Heap}{P P':Addr->Prop}(k:zfi S h h' P P'){c:Addr}(q:zcS h c):zcS h' c:=by
 obtain⟨o,vs,t,q1,q2,q3,q4⟩:=q;obtain⟨o',k1,k2,k3⟩:=k.code c o q1 (.inl ⟨q2,vs,q3⟩);exact⟨o',vs,t,k1,k2.trans q2,k3.trans q3,q4⟩
theorem zfi.obj'{S:St0}{h h':Heap}{P P':Addr->Prop}(k:zfi S h h' P P'){b:Addr}{o:Obj}(e:h.get? b=some o)(n:¬P b):∃o',h'.get? b=some o'∧o'.cls=o.cls∧o'.data=o.data:=⟨o,k.obj b o e n,rfl,rfl⟩
theorem zfi.fields{S:St0}{h h':Heap}{P P':Addr->Prop}(k:zfi S h h' P P'){b:Addr}{o:Obj}{vs}(e:h.get? b=some o)(n:¬P b)(d:o.data=.fields vs):h'.get? b=some o:=k.obj b o e n
section
variable{S:St0}{h h':Heap}{P P':Addr->Prop}
theorem zcj.goes(k:zfi S h h' P P'){v:Value}{d:D}(x:zcj S h P v d):zcj S h' P' v d:=by
 refine zcj.rec (motive_1:=λv d _=>zcj S h' P' v d) (motive_2:=λvs ds _=>zaO S h' P' vs ds) ?_ ?_ ?_ ?_ ?_ ?_ ?_ ?_ ?_ ?_ ?_ ?_ ?_ ?_ ?_ ?_ x
 ·exact .none
 ·exact λb=>.bool b
 ·exact λi t=>.int i t
 ·exact λl t=>.str l t
 ·exact λa b c _ r=>let ⟨_,e,f,g⟩:=k.tup _ _ _ _ a b c;.tup e (f.trans b) (g.trans c) r
 ·exact λa n b c _ r=>let ⟨_,e,f,g⟩:=k.obj' a n;.lst e (λq=>n (k.no _ (ya _ a) q)) (f.trans b) (g.trans c) r
 ·exact λa b c=>.fset (k.sets _ _ b a) b c
 ·exact λa=>.fn a
 ·exact λa b c=>let ⟨_,e,_,g⟩:=k.code _ _ a (.inr ⟨_,b⟩);.lfn e (g.trans b) (k.codeQ c)
 ·exact λa n b c e=>.rng (k.fields a n rfl) (λq=>n (k.no _ (ya _ a) q)) b c e
 ·exact λa n b c d=>let ⟨_,d⟩:=d;let ⟨_,e,f,g⟩:=k.tup _ _ _ _ b c d;.exc (k.fields a n rfl) (λq=>n (k.no _ (ya _ a) q)) e (f.trans c) ⟨_,g.trans d⟩
 ·exact λa b c d n x y z=>let ⟨_,z⟩:=z;let ⟨_,e,f,g⟩:=k.tup _ _ _ _ x y z;.err (k.fields a n c) b c d (λq=>n (k.no _ (ya _ a) q)) e (f.trans y) ⟨_,g.trans z⟩
 ·exact λa b n c d=>.dct (k.obj _ _ a n) b (λq=>n (k.no _ (ya _ a) q)) c d
 ·exact λa b=>.tstr a b
 ·exact .nil
 ·exact λ_ _ a b=>.cons a b
theorem zaO.goes(k:zfi S h h' P P'):∀{vs ds},zaO S h P vs ds->zaO S h' P' vs ds
 |_,_,.nil=>.nil
 |_,_,.cons a b=>.cons (a.goes k) (b.goes k)
end
theorem zfi.less{S:St0}{h:Heap}{P P':Addr->Prop}(p:∀b,(h.get? b).isSome=true->P' b->P b):zfi S h h P P':=⟨λ_ _ e _=>e,λ_ _ _ e=>e,λ_ o _ _ e _ _=>⟨o,e,rfl,rfl⟩,p,λ_ o e _=>⟨o,e,rfl,rfl⟩⟩
theorem zfi.keep{S:St0}{F:List Addr}{h h':Heap}{P P':Addr->Prop}(x:zdQ F h h')(f:∀b∈F,S.base.get? b=none)(g:∀b∈F,P b)(p:∀b,(h.get? b).isSome=true->P' b->P b):zfi S h h' P P':=
 ⟨λb o e n=>(x b o e).1 λq=>n (g b q),λb o e1 e2=>(x b o e2).1 (λq=>(by rw[f b q]at e1;exact zad e1)),λb o _ _ e c _=>x.weak e (zaL c),p,λb o e c=>x.weak e (zfS c)⟩
theorem zaO.length{S:St0}{h:Heap}{P:Addr->Prop}:∀{vs:List Value}{ds:List D},zaO S h P vs ds->vs.length=ds.length
 |_,_,.nil=>rfl
 |_,_,.cons _ b=>ya Nat.succ b.length
theorem zaO.get{S:St0}{h:Heap}{P:Addr->Prop}:∀{vs:List Value}{ds:List D}{i:Nat}{d:D},zaO S h P vs ds->ds[i]?=some d->∃v,vs[i]?=some v∧zcj S h P v d
 |vs,ds,i,d,x,e=>by
  induction i generalizing vs ds with
  |zero=>
   cases x with
   |nil=>exact zad e
   |cons a b=>exact⟨_,rfl,yi e▸a⟩
  |succ i ih=>
   cases x with
   |nil=>exact zad e
   |cons a b=>exact ih _ _ b e
theorem zaO.append{S:St0}{h:Heap}{P:Addr->Prop}{vs' ds'}(b:zaO S h P vs' ds'):∀{vs:List Value}{ds:List D},zaO S h P vs ds->zaO S h P (vs++vs') (ds++ds')
 |vs,[],x=>by cases x;exact b
 |vs,d::ds,x=>by
  cases x with
  |cons a r=>exact .cons a (zaO.append b r)
inductive Slot where
 |unb
 |val (d:D)
 |own (ds:List D)
 |cel (o:Option D)
noncomputable abbrev Sl:=List Slot
inductive Res where
 |pl (d:D)
 |fr (ds:List D)
 |bo (i:Nat) (ds:List D)
noncomputable def Res.d:Res->D
 |.pl d=>d
 |.fr ds=>.lst ds
 |.bo _ ds=>.lst ds
noncomputable def Res.seal:Res->Sl->Sl
 |.bo i ds,st=>st.set i (.val (.lst ds))
 |_,st=>st
noncomputable abbrev Err:=EC×List Nat
@[reducible]noncomputable def oM{α:Type}(o:Option α)(Q:α->Prop):Prop:=match o with
 |some a=>Q a
 |none=>False
theorem oM_inv{α:Type}{o:Option α}{Q:α->Prop}(h:oM o Q):∃a,o=some a∧Q a:=by
 induction o with
 |none=>exact h.elim
 |some a=>exact⟨a,rfl,h⟩
@[irreducible]noncomputable def ifB(c:Bool)(P Q:Prop):Prop:=match c with
 |true=>P
 |false=>Q
theorem za4{c:Bool}{P Q:Prop}(h:c=true)(k:P):ifB c P Q:=by subst h;unfold ifB;exact k
theorem zaY{c:Bool}{P Q:Prop}(h:c=false)(k:Q):ifB c P Q:=by subst h;unfold ifB;exact k
theorem zhm{P Q:Prop}(h:ifB true P Q):P:=by unfold ifB at h;exact h
theorem zht{P Q:Prop}(h:ifB false P Q):Q:=by unfold ifB at h;exact h
@[reducible]noncomputable def zvF(c:Bool)(P:Prop):Prop:=match c with
 |true=>P
 |false=>False
@[reducible]noncomputable def zy9(c:Bool)(P:Prop):Prop:=match c with
 |true=>False
 |false=>P
theorem zn2{c:Bool}{P:Prop}(h:zy9 c P):c=false∧P:=by
 cases c with
 |true=>exact h.elim
 |false=>exact⟨rfl,h⟩
theorem zet{c:Bool}{P:Prop}(h:zvF c P):c=true∧P:=by
 cases c with
 |false=>exact h.elim
 |true=>exact⟨rfl,h⟩
noncomputable def D.str?:D->Option (List Nat)
 |.str l=>Option.some l
 |_=>Option.none
noncomputable def D.int?:D->Option Int
 |.int l=>Option.some l
 |_=>Option.none
noncomputable def D.bool?:D->Option Bool
 |.bool l=>Option.some l
 |_=>Option.none
noncomputable def D.tup?:D->Option (List D)
 |.tup l=>Option.some l
 |_=>Option.none
noncomputable def D.fset?:D->Option (List (List Nat))
 |.fset l=>Option.some l
 |_=>Option.none
noncomputable def D.lfn?:D->Option Unit
 |.lfn=>Option.some ()
 |_=>Option.none
noncomputable def D.exc?:D->Option (EC×List Nat)
 |.exc k m=>Option.some (k,m)
 |_=>Option.none
theorem D.str?_inv{d:D}{l}(h:d.str?=some l):d=.str l:=by cases d<;>(first|exact zad h|obtain rfl:=yi h);rfl
theorem D.int?_inv{d:D}{l}(h:d.int?=some l):d=.int l:=by cases d<;>(first|exact zad h|obtain rfl:=yi h);rfl
theorem D.bool?_inv{d:D}{l}(h:d.bool?=some l):d=.bool l:=by cases d<;>(first|exact zad h|obtain rfl:=yi h);rfl
theorem D.tup?_inv{d:D}{l}(h:d.tup?=some l):d=.tup l:=by cases d<;>(first|exact zad h|obtain rfl:=yi h);rfl
theorem D.fset?_inv{d:D}{l}(h:d.fset?=some l):d=.fset l:=by cases d<;>(first|exact zad h|obtain rfl:=yi h);rfl
theorem D.lfn?_inv{d:D}{l}(h:d.lfn?=some l):d=.lfn:=by cases d<;>(first|exact zad h|obtain rfl:=yi h);rfl
theorem D.exc?_inv{d:D}{l}(h:d.exc?=some l):d=.exc l.1 l.2:=by cases d<;>(first|exact zad h|obtain rfl:=yi h);rfl
@[reducible]noncomputable def zw8(d₁ d₂:D)(k:Int->Int->Prop):Prop:=oM d₁.int? λx=>oM d₂.int? λy=>k x y
theorem zdi{d₁ d₂:D}{k:Int->Int->Prop}(h:zw8 d₁ d₂ k):∃x y,d₁=.int x∧d₂=.int y∧k x y:=
 let ⟨x,h1,h⟩:=oM_inv h
 let ⟨y,h2,h⟩:=oM_inv h
 (zlk x y (D.int?_inv h1) (D.int?_inv h2) h)
@[reducible]noncomputable def zxj(l:List D)(P:Prop):Prop:=match l with
 |[]=>P
 |_::_=>False
structure Dc(α:Type) where
 of:D->Option α
 to:α->D
 inv:∀{d x},of d=some x->d=to x
@[reducible]noncomputable def cS:Dc (List Nat):=⟨D.str?,.str,D.str?_inv⟩
@[reducible]noncomputable def cI:Dc Int:=⟨D.int?,.int,D.int?_inv⟩
@[reducible]noncomputable def cB:Dc Bool:=⟨D.bool?,.bool,D.bool?_inv⟩
@[reducible]noncomputable def cF:Dc (List (List Nat)):=⟨D.fset?,.fset,D.fset?_inv⟩
noncomputable def D.lst?:D->Option (List D)
 |.lst l=>Option.some l
 |_=>Option.none
theorem D.lst?_inv{d:D}{l}(h:d.lst?=some l):d=.lst l:=by cases d<;>(first|exact zad h|obtain rfl:=yi h);rfl
@[reducible]noncomputable def ztu{α:Type}(A:Dc α)(l:List D)(k:α->List D->Prop):Prop:=match l with
 |[]=>False
 |d::l=>oM (A.of d) λx=>k x l
theorem zhM{l:List D}{P:Prop}(h:zxj l P):l=[]∧P:=by
 cases l with
 |nil=>exact⟨rfl,h⟩
 |cons _ _=>exact h.elim
theorem zik{α:Type}{A:Dc α}{l:List D}{k:α->List D->Prop}(h:ztu A l k):∃x r,l=A.to x::r∧k x r:=by
 induction l with
 |nil=>exact h.elim
 |cons d r=>
  refine za1 (oM_inv h) λx e h=>?_;exact zlq x r (by rw[A.inv e]) h
@[reducible]noncomputable def one{α:Type}(A:Dc α)(l:List D)(k:α->Prop):Prop:=ztu A l λx l=>zxj l (k x)
theorem ze2{α:Type}{A:Dc α}{l:List D}{k:α->Prop}(h:one A l k):∃x,l=[A.to x]∧k x:=by
 left;obtain⟨x,r1,e1,h⟩:=zik h;obtain⟨e2,h⟩:=zhM h;exact⟨x,by rw[e1,e2],h⟩
@[reducible]noncomputable def zwH{α β:Type}(A:Dc α)(B:Dc β)(l:List D)(k:α->Prop)(k2:α->β->Prop):Prop:=ztu A l λx l=>match l with
 |[]=>k x
 |d::l=>oM (B.of d) λy=>zxj l (k2 x y)
theorem zmj{α β:Type}{A:Dc α}{B:Dc β}{l:List D}{k:α->Prop}{k2:α->β->Prop}(h:zwH A B l k k2):(∃x,l=[A.to x]∧k x)∨∃x y,l=[A.to x,B.to y]∧k2 x y:=by
 left;refine zfA (zik h) λx r1 e1 h=>?_
 induction r1 with
 |nil=>exact .inl (zbO x e1 h)
 |cons d r=>
  refine za1 (oM_inv h) λy e2 h=>?_;refine zbP (zhM h) λe3 h=>?_;exact .inr (zlq x y (by simp only[e1,B.inv e2,e3]) h)
noncomputable def Res.pl?:Res->Option D
 |.pl d=>some d
 |_=>none
theorem Res.pl?_inv{r:Res}{d:D}(h:r.pl?=some d):r=.pl d:=by induction r<;>(first|exact zad h|cases h);rfl
@[reducible]noncomputable def Res.oM{α:Type}(r:Res)(g:D->Option α)(Q:α->Prop):Prop:=Mine.Internal.oM r.pl? λd=>Mine.Internal.oM (g d) Q
theorem Res.oM_inv{α:Type}{r:Res}{g:D->Option α}{Q:α->Prop}(h:r.oM g Q):∃d a,r=.pl d∧g d=some a∧Q a:=
 let ⟨d,h1,h⟩:=Mine.Internal.oM_inv h
 let ⟨a,h2,h⟩:=Mine.Internal.oM_inv h
 (zlk d a (Res.pl?_inv h1) h2 h)
theorem Res.str_inv{r:Res}{Q:List Nat->Prop}(h:r.oM D.str? Q):∃l,r=.pl (.str l)∧Q l:=let ⟨_,l,h1,h2,h⟩:=Res.oM_inv h;(zbO l (h1.trans (ya _ (D.str?_inv h2))) h)
theorem Res.int_inv{r:Res}{Q:Int->Prop}(h:r.oM D.int? Q):∃l,r=.pl (.int l)∧Q l:=let ⟨_,l,h1,h2,h⟩:=Res.oM_inv h;⟨l,h1.trans (ya _ (D.int?_inv h2)),h⟩
theorem Res.bool_inv{r:Res}{Q:Bool->Prop}(h:r.oM D.bool? Q):∃l,r=.pl (.bool l)∧Q l:=let ⟨_,l,h1,h2,h⟩:=Res.oM_inv h;(zbO l (h1.trans (ya _ (D.bool?_inv h2))) h)
theorem Res.tup_inv{r:Res}{Q:List D->Prop}(h:r.oM D.tup? Q):∃l,r=.pl (.tup l)∧Q l:=let ⟨_,l,h1,h2,h⟩:=Res.oM_inv h;(zbO l (h1.trans (ya _ (D.tup?_inv h2))) h)
theorem Res.fset_inv{r:Res}{Q:List (List Nat)->Prop}(h:r.oM D.fset? Q):∃l,r=.pl (.fset l)∧Q l:=let ⟨_,l,h1,h2,h⟩:=Res.oM_inv h;(zbO l (h1.trans (ya _ (D.fset?_inv h2))) h)
theorem Res.lfn_inv{r:Res}{Q:Unit->Prop}(h:r.oM D.lfn? Q):r=.pl .lfn∧Q ():=let ⟨_,_,h1,h2,h⟩:=Res.oM_inv h;⟨h1.trans (ya _ (D.lfn?_inv h2)),h⟩
theorem Res.exc_inv{r:Res}{Q:EC×List Nat->Prop}(h:r.oM D.exc? Q):∃k m,r=.pl (.exc k m)∧Q (k,m):=let ⟨_,l,h1,h2,h⟩:=Res.oM_inv h;(zlq l.1 l.2 (h1.trans (ya _ (D.exc?_inv h2))) h)
noncomputable def Slot.val?:Slot->Option D
 |.val d=>some d
 |_=>none
noncomputable def Slot.own?:Slot->Option (List D)
 |.own d=>some d
 |_=>none
theorem Slot.val?_inv{d:Slot}{l}(h:d.val?=some l):d=.val l:=by induction d<;>(first|exact zad h|cases h);rfl
theorem Slot.own?_inv{d:Slot}{l}(h:d.own?=some l):d=.own l:=by induction d<;>(first|exact zad h|cases h);rfl
@[reducible]noncomputable def atV(st:Sl)(i:Nat)(Q:D->Prop):Prop:=oM st[i]? λx=>oM x.val? Q
@[reducible]noncomputable def atO(st:Sl)(i:Nat)(Q:List D->Prop):Prop:=oM st[i]? λx=>oM x.own? Q
theorem zv0{st:Sl}{i:Nat}{Q:D->Prop}(h:atV st i Q):∃d,st[i]?=some (.val d)∧Q d:=
 let ⟨_,h1,h⟩:=oM_inv h
 let ⟨d,h2,h⟩:=oM_inv h
 (zbO d (h1.trans (ya _ (Slot.val?_inv h2))) h)
theorem zkU{st:Sl}{i:Nat}{Q:List D->Prop}(h:atO st i Q):∃d,st[i]?=some (.own d)∧Q d:=
 let ⟨_,h1,h⟩:=oM_inv h
 let ⟨d,h2,h⟩:=oM_inv h
 (zbO d (h1.trans (ya _ (Slot.own?_inv h2))) h)
noncomputable abbrev PE:=(Res->Sl->Prop)->(Err->Sl->Prop)->Sl->Prop
inductive Fl where
 |next
 |brk
 |cont
 |ret (d:D)
noncomputable abbrev PS:=(Fl->Sl->Prop)->(Err->Sl->Prop)->Sl->Prop
structure zai where
 scope:Scope
 names:List Str
 rank:Nat
 calm:Bool
 inner:Bool:=false
 cells:List Str:=[]
noncomputable def zai.all(sh:zai):List Str:=sh.names++sh.cells
theorem zai.all_of{sh:zai}{i:Nat}{x:Str}(h:sh.names[i]?=some x):sh.all[i]?=some x:=(List.getElem?_append_left (yo.mp h).1).trans h
inductive zAf(S:St0)(cd:Value)(c:Addr)(o:Obj)(vs:Array Value)(file:Str)(tf:Tok)(flags:Int)(tg:Tok)(inF:Bool)(text:Int)(tt:Tok):Prop
 |mk (qa:cd=.ref c) (qb:S.base.get? c=some o) (qc:o.cls=.type "code") (qd:o.data=.fields vs) (qe:vs[11]?=some (.ref S.tab)) (qf:vs.getD 18 .none=.str file tf) (qg:vs.getD 7 .none=.int flags tg) (qh:vs.getD 9 .none=.bool inF) (qi:vs.getD 10 .none=.int text tt)
noncomputable def zd1(S:St0)(cd:Value):Prop:=∃c o vs file tf flags tg inF text tt,zAf S cd c o vs file tf flags tg inF text tt
structure Act where
 A:Around
 env:Env
 outer:List Env
 L:Addr
 h₀:zrP
 P:Addr->Prop
 os:OsState
 hands:List Value
 T:Addr
 fr:List Env
noncomputable def Act.F(a:Act):List Addr:=a.T::a.outer.filterMap (·.frame)
structure Act.Fits(S:St0)(a:Act)(sh:zai):Prop where
 scope:a.env.scope=sh.scope
 kind:sh.scope.kind=.function
 loc:∀x∈sh.names,sh.scope.names.lookup x=some .local
 nodup:sh.all.Nodup
 cellk:∀x∈sh.cells,sh.scope.names.lookup x=some .cell
 celld:∀x∈sh.cells,∃c,a.env.cells.lookup x=some c
 nocell:∀x∈sh.names,a.env.cells.lookup x=none
 glob:a.env.globals=mainGlobals
 blt:a.env.builtins=builtinsNs
 locals:a.env.locals=a.L
 fronts:a.A.frames=some a.fr
 LFsub:∀b∈a.fr.filterMap (·.frame),b∈a.L::a.F
 outs:∀e∈a.outer,e∈a.fr
 FP:∀b∈a.F,a.P b
 nobase:S.base.get? a.L=none
 noh₀:a.h₀.get? a.L=none
 stays:∀b o,S.base.get? b=some o->a.h₀.get? b=some o
 depth:a.A.depth+sh.rank≤900
 units:a.A.units+sh.rank≤9000
 guards:a.A.guards=some []
 hand:a.A.handled=none∨∃b,Value.ref b∈a.hands∧a.A.handled=some (.ref b)
 calm:sh.calm=true->a.A.handled=none∧a.hands=[]
 Pdom:∀b,a.P b->(a.h₀.get? b).isSome=true
 outer:∀b∈a.F,(a.h₀.get? b).isSome=true
 tab:a.T=S.tab
 tabP:a.P a.T
 tabB:S.base.get? a.T=none
 code:sh.inner=true->zd1 S a.env.code∧a.env.qual=ofString "suffixed_err.<locals>."
 codeA:sh.calm=true->∃c o vs,a.env.code=.ref c∧S.base.get? c=some o∧o.data=.fields vs
inductive Act.FitsS(S:St0)(a:Act)(sh:zai):Prop
 |mk (qa:a.Fits S sh) (qb:a.env.frame=some a.L) (qc:a.fr=a.env::a.outer)
theorem Act.FitsS.f{S:St0}{a:Act}{sh:zai}(g:a.FitsS S sh):a.Fits S sh:=by cases g;assumption
theorem Act.FitsS.frame{S:St0}{a:Act}{sh:zai}(g:a.FitsS S sh):a.env.frame=some a.L:=by cases g;assumption
theorem Act.FitsS.fr{S:St0}{a:Act}{sh:zai}(g:a.FitsS S sh):a.fr=a.env::a.outer:=by cases g;assumption
theorem Act.FitsS.sub{S:St0}{a:Act}{sh:zai}(g:a.FitsS S sh):∀b∈(a.env::a.outer).filterMap (·.frame),b∈a.L::a.F:=g.fr▸g.f.LFsub
theorem Act.FitsS.frames{S:St0}{a:Act}{sh:zai}(g:a.FitsS S sh):a.A.frames=some (a.env::a.outer):=g.fr▸g.f.fronts
inductive zeE(h:Heap)(X:Addr->Prop):Value->Prop
 |nil:zeE h X .none
 |cons {b o vs c}:h.get? b=some o->¬X b->o.cls≠.none->o.data=.fields vs->vs[2]?=some c->zeE h X c->zeE h X (.ref b)
noncomputable def Pv(a:Act)(X:Addr->Prop)(ow:Nat->Option Addr)(b:Addr):Prop:=a.P b∨b=a.L∨X b∨∃i,ow i=some b
inductive zAE(S:St0)(h:Heap)(P:Addr->Prop)(v:Option Value)(ow:Option Addr)(ds:List D)(b:Addr)(o:Obj)(vs:Array Value)(n:Nat):Prop
 |mk (qa:ow=some b) (qb:v=some (.ref b)) (qc:h.get? b=some o) (qd:o.cls=.type "list") (qe:o.data=.seq vs n) (qf:zaO S h P vs.toList ds) (qg:o.dict=none)
theorem zh9{o:Obj}{w:Option Value}(h:o.data=.cell w):¬ziN o:=zcU λvs e=>nomatch h.symm.trans e
noncomputable def zzf(S:St0)(h:Heap)(P:Addr->Prop)(w:Option Value):Option D->Prop
 |none=>w=none
 |some d=>∃x,w=some x∧zcj S h P x d
theorem zzf.goes{S:St0}{h h':Heap}{P P':Addr->Prop}(k:zfi S h h' P P'){w:Option Value}:∀{o:Option D},zzf S h P w o->zzf S h' P' w o
 |none,q=>q
 |some _,q=>q.elim λx q=>⟨x,q.1,q.2.goes k⟩
inductive zAy(S:St0)(h:Heap)(P:Addr->Prop)(v:Option Value)(ow:Option Addr)(d:Option D)(b:Addr)(o:Obj)(w:Option Value):Prop
 |mk (qa:ow=some b) (qb:v=some (.ref b)) (qc:h.get? b=some o) (qd:o.data=.cell w) (qe:zzf S h P w d)
noncomputable def zfT(S:St0)(h:Heap)(P:Addr->Prop)(v:Option Value)(ow:Option Addr):Slot->Prop
 |.unb=>ow=none
 |.val d=>ow=none∧∃x,v=some x∧zcj S h P x d
 |.own ds=>∃b o vs n,zAE S h P v ow ds b o vs n
 |.cel d=>∃b o w,zAy S h P v ow d b o w
noncomputable def Act.ov(a:Act)(m:Str->Option Value)(x:Str):Option Value:=match a.env.cells.lookup x with
 |some c=>some (.ref c)
 |none=>m x
theorem Act.Fits.ovn{S:St0}{a:Act}{sh:zai}(f:a.Fits S sh){x:Str}(hx:x∈sh.names)(m:Str->Option Value):a.ov m x=m x:=by
 unfold Act.ov;rw[f.nocell x hx]
theorem zzq{a:Act}{m:Str->Option Value}{x y:Str}{u:Option Value}(h:x≠y):a.ov (λz=>if z=y then u else m z) x=a.ov m x:=by
 unfold Act.ov;cases a.env.cells.lookup x with
 |some c=>rfl
 |none=>exact if_neg h
noncomputable def zy7(S:St0)(sh:zai)(h:Heap)(P:Addr->Prop)(ow:Nat->Option Addr)(m:Str->Option Value)(st:Sl):Prop:=
 st.length=sh.all.length∧∀i x sl,sh.all[i]?=some x->st[i]?=some sl->zfT S h P (m x) (ow i) sl
structure Rel(S:St0)(sh:zai)(a:Act)(X:Addr->Prop)(ow:Nat->Option Addr)(st:Sl)(s:Shared):Prop where
 slots:∃m,s.heap.Ns a.L m∧zy7 S sh s.heap (Pv a X ow) ow (a.ov m) st
 keep:zeO a.F a.h₀ s.heap
 frames:s.heap.FunFrames S.base a.fr
 own:∀i b,ow i=some b->i<sh.all.length∧a.h₀.get? b=none∧¬X b∧b≠a.L
 inj:∀i j b,ow i=some b->ow j=some b->i=j
 gens:s.gens=#[]
 os:s.os=a.os
 hands:∀v∈a.hands,zeE s.heap X v
 tab:TabAt S s.heap
noncomputable def noX:Addr->Prop:=λ_=>False
inductive zAB(h:Heap)(tp:Value)(m:List Nat)(t:Addr)(tk:Tok)(o:Obj)(n:Nat):Prop
 |mk (qa:tp=.ref t) (qb:h.get? t=some o) (qc:o.cls=.type "tuple") (qd:o.data=.seq #[.str (mk m) tk] n)
noncomputable def zy8(h:Heap)(tp:Value)(x:Err):Prop:=x.1=.toml->∃t tk o n,zAB h tp x.2 t tk o n
theorem zy8.mono{h h':Heap}{tp:Value}{x:Err}(A:zy8 h tp x)(k:∀t o vs n,h.get? t=some o->o.cls=.type "tuple"->o.data=.seq vs n->∃o',h'.get? t=some o'∧o'.cls=o.cls∧o'.data=o.data):zy8 h' tp x:=λhx=>
 let ⟨t,tk,o,n,e,h1,h2,h3⟩:=A hx
 let ⟨o',k1,k2,k3⟩:=k t o _ n h1 h2 h3
 ⟨t,tk,o',n,e,k1,k2.trans h2,k3.trans h3⟩
inductive TbA(h:Heap)(L b:Addr)(oT:Obj)(ts:Array Value)(fl:Value):Prop
 |mk (qa:h.get? b=some oT) (qb:oT.cls=.type "traceback") (qc:oT.data=.fields ts) (qd:ts[3]?=some fl) (qe:fl=.none∨fl=rawInt L)
inductive zAW(S:St0)(h:Heap)(L:Addr)(e:Addr)(T:Option Addr)(x:Err)(oe:Obj)(vs:Array Value)(tp c:Value):Prop
 |mk (qa:h.get? e=some oe) (qb:oe.cls=S.cls x.1) (qc:oe.data=.fields vs) (qd:vs[0]?=some tp) (qe:vs[2]?=some c) (qf:zeE h (λb=>b=e∨T=some b) c) (qg:zy8 h tp x) (qh:match T with|none=>vs[1]?=some .none|some b=>vs[1]?=some (.ref b)∧b≠e∧∃oT ts fl,TbA h L b oT ts fl)
structure zjD(S:St0)(h:Heap)(L:Addr)(e:Addr)(T:Option Addr)(x:Err):Prop where
 obj:∃oe vs tp c,zAW S h L e T x oe vs tp c
noncomputable def zjm(e:Addr)(T:Option Addr):Addr->Prop:=λb=>b=e∨T=some b
noncomputable def Frz(st st':Sl):Prop:=st'.length=st.length∧∀i:Nat,st'[i]?=st[i]?∨∃ds,st[i]?=some (.own ds)∧st'[i]?=some (.val (.lst ds))
noncomputable def restr(ow:Nat->Option Addr)(st:Sl)(i:Nat):Option Addr:=match st[i]? with
 |some (.own _)=>ow i
 |some (.cel _)=>ow i
 |_=>none
structure Step(a:Act)(st st':Sl)(s s':Shared):Prop where
 frz:Frz st st'
 keep:zdQ (a.L::a.F) s.heap s'.heap
 gens:s'.gens=s.gens
 os:s'.os=s.os
inductive FrA(S:St0)(a:Act)(ow:Nat->Option Addr)(hs h:Heap)(v:Value)(ds:List D)(b:Addr)(o:Obj)(vs:Array Value)(n:Nat):Prop
 |mk (qa:v=.ref b) (qb:hs.get? b=none) (qc:h.get? b=some o) (qd:o.cls=.type "list") (qe:o.data=.seq vs n) (qf:zaO S h (Pv a (λc=>c=b) ow) vs.toList ds) (qg:o.dict=none)
inductive BoA(S:St0)(a:Act)(ow:Nat->Option Addr)(st:Sl)(h:Heap)(v:Value)(i:Nat)(ds:List D)(b:Addr)(o:Obj)(vs:Array Value)(n:Nat):Prop
 |mk (qa:v=.ref b) (qb:h.get? b=some o) (qc:o.cls=.type "list") (qd:o.data=.seq vs n) (qe:zaO S h (Pv a noX ow) vs.toList ds) (qf:(ow i=some b∧st[i]?=some (.own ds))∨(¬Pv a noX ow b∧st[i]?=some (.val (.lst ds))))
noncomputable def zg8(S:St0)(a:Act)(ow:Nat->Option Addr)(st:Sl)(hs h:Heap)(v:Value):Res->Prop
 |.pl d=>zcj S h (Pv a noX ow) v d∧New hs v d
 |.fr ds=>∃b o vs n,FrA S a ow hs h v ds b o vs n
 |.bo i ds=>∃b o vs n,BoA S a ow st h v i ds b o vs n
inductive zxI(S:St0)(a:Act)(hs:Heap)(s':Shared)(ev:Value)(x:Err)(e:Addr)(T:Option Addr):Prop
 |mk (qa:ev=.ref e) (qb:hs.get? e=none) (qc:∀b,T=some b->hs.get? b=none) (qd:zjD S s'.heap a.L e T x)
noncomputable def zyD(S:St0)(a:Act)(hs:Heap)(s':Shared)(ev:Value)(x:Err):Prop:=
 ∃e T,zxI S a hs s' ev x e T
inductive zAG(S:St0)(a:Act)(ow:Nat->Option Addr)(st:Sl)(s:Shared)(Q:Res->Sl->Prop)(v:Value)(s':Shared)(r:Res)(st':Sl):Prop
 |mk (qa:Q r st') (qb:Step a st st' s s') (qc:zg8 S a (restr ow st') st' s.heap s'.heap v r)
noncomputable def OkE(S:St0)(a:Act)(ow:Nat->Option Addr)(st:Sl)(s:Shared)(Q:Res->Sl->Prop):Value->Shared->Prop:=λv s'=>
 ∃r st',zAG S a ow st s Q v s' r st'
inductive zz3(S:St0)(a:Act)(st:Sl)(s:Shared)(X:Err->Sl->Prop)(ev:Value)(s':Shared)(x:Err)(st':Sl):Prop
 |mk (qa:X x st') (qb:Step a st st' s s') (qc:zyD S a s.heap s' ev x)
noncomputable def zfN(S:St0)(a:Act)(st:Sl)(s:Shared)(X:Err->Sl->Prop):Value->Shared->Prop:=λev s'=>
 ∃x st',zz3 S a st s X ev s' x st'
noncomputable def zat(S:St0)(sh:zai)(e:Expr)(c:PE):Prop:=
 ∀(a:Act)(ow:Nat->Option Addr)(st:Sl)(s:Shared)(Q:Res->Sl->Prop)(X:Err->Sl->Prop),a.Fits S sh->Rel S sh a noX ow st s->c Q X st ->
  wpAny (model S.prog S.w) a.A (eval e a.env) (OkE S a ow st s Q) (zfN S a st s X) s
noncomputable def zdp(S:St0)(sh:zai)(e:Expr)(c:(Bool->Sl->Prop)->(Err->Sl->Prop)->Sl->Prop):Prop:=
 ∀(a:Act)(ow:Nat->Option Addr)(st:Sl)(s:Shared)(Q:Bool->Sl->Prop)(X:Err->Sl->Prop),a.Fits S sh->Rel S sh a noX ow st s->c Q X st ->
  wpAny (model S.prog S.w) a.A (isTrue e a.env (eval e a.env)) (λb s'=>∃st',Q b st'∧Step a st st' s s') (zfN S a st s X) s
noncomputable def zxM(S:St0)(h₀:zrP)(h:Heap)(P:Addr->Prop):Flow->Fl->Prop
 |.next,.next=>True
 |.brk,.brk=>True
 |.cont,.cont=>True
 |.ret v,.ret d=>zcj S h P v d∧zAP h₀ v d
 |_,_=>False
inductive zAT(S:St0)(sh:zai)(a:Act)(Q:Fl->Sl->Prop)(f:Flow)(s':Shared)(fl:Fl)(ow':Nat->Option Addr)(st':Sl):Prop
 |mk (qa:Q fl st') (qb:Rel S sh a noX ow' st' s') (qc:zxM S a.h₀ s'.heap (Pv a noX ow') f fl)
noncomputable def OkS(S:St0)(sh:zai)(a:Act)(Q:Fl->Sl->Prop):Flow->Shared->Prop:=λf s'=>
 ∃fl ow' st',zAT S sh a Q f s' fl ow' st'
inductive zAS(S:St0)(sh:zai)(a:Act)(X:Err->Sl->Prop)(ev:Value)(s':Shared)(x:Err)(ow':Nat->Option Addr)(st':Sl)(e:Addr)(T:Option Addr):Prop
 |mk (qa:X x st') (qb:Rel S sh a (zjm e T) ow' st' s') (qc:ev=.ref e) (qd:a.h₀.get? e=none) (qe:∀b,T=some b->a.h₀.get? b=none) (qf:zjD S s'.heap a.L e T x)
noncomputable def zi2(S:St0)(sh:zai)(a:Act)(X:Err->Sl->Prop):Value->Shared->Prop:=λev s'=>
 ∃x ow' st' e T,zAS S sh a X ev s' x ow' st' e T
noncomputable def zba(S:St0)(sh:zai)(t:Stmt)(c:PS):Prop:=
 ∀(a:Act)(ow:Nat->Option Addr)(st:Sl)(s:Shared)(Q:Fl->Sl->Prop)(X:Err->Sl->Prop),a.FitsS S sh->Rel S sh a noX ow st s->c Q X st ->
  wpAny (model S.prog S.w) a.A (exec t a.env) (OkS S sh a Q) (zi2 S sh a X) s
noncomputable def zaV(S:St0)(sh:zai)(t:List Stmt)(c:PS):Prop:=
 ∀(a:Act)(ow:Nat->Option Addr)(st:Sl)(s:Shared)(Q:Fl->Sl->Prop)(X:Err->Sl->Prop),a.FitsS S sh->Rel S sh a noX ow st s->c Q X st ->
  wpAny (model S.prog S.w) a.A (execs t a.env) (OkS S sh a Q) (zi2 S sh a X) s
noncomputable def zdI(n:Nat)(S:St0)(sh:zai)(e:Expr)(c:PE):Prop:=
 ∀(a:Act)(ow:Nat->Option Addr)(st:Sl)(s:Shared)(Q:Res->Sl->Prop)(X:Err->Sl->Prop),n≤s.toks->a.Fits S sh->Rel S sh a noX ow st s->c Q X st ->
  wpAny (model S.prog S.w) a.A (eval e a.env) (OkE S a ow st s Q) (zfN S a st s X) s
noncomputable def zqa(n:Nat)(S:St0)(sh:zai)(e:Expr)(c:(Bool->Sl->Prop)->(Err->Sl->Prop)->Sl->Prop):Prop:=
 ∀(a:Act)(ow:Nat->Option Addr)(st:Sl)(s:Shared)(Q:Bool->Sl->Prop)(X:Err->Sl->Prop),n≤s.toks->a.Fits S sh->Rel S sh a noX ow st s->c Q X st ->
  wpAny (model S.prog S.w) a.A (isTrue e a.env (eval e a.env)) (λb s'=>∃st',Q b st'∧Step a st st' s s') (zfN S a st s X) s
noncomputable def ziB(n:Nat)(S:St0)(sh:zai)(t:Stmt)(c:PS):Prop:=
 ∀(a:Act)(ow:Nat->Option Addr)(st:Sl)(s:Shared)(Q:Fl->Sl->Prop)(X:Err->Sl->Prop),n≤s.toks->a.FitsS S sh->Rel S sh a noX ow st s->c Q X st ->
  wpAny (model S.prog S.w) a.A (exec t a.env) (OkS S sh a Q) (zi2 S sh a X) s
noncomputable def zc2(n:Nat)(S:St0)(sh:zai)(t:List Stmt)(c:PS):Prop:=
 ∀(a:Act)(ow:Nat->Option Addr)(st:Sl)(s:Shared)(Q:Fl->Sl->Prop)(X:Err->Sl->Prop),n≤s.toks->a.FitsS S sh->Rel S sh a noX ow st s->c Q X st ->
  wpAny (model S.prog S.w) a.A (execs t a.env) (OkS S sh a Q) (zi2 S sh a X) s
section
variable{S:St0}{sh:zai}{n:Nat}
theorem zat.t{e:Expr}{c:PE}(H:zat S sh e c):zdI n S sh e c:=λa ow st s Q X _ f R q=>H a ow st s Q X f R q
theorem zdI.s{e:Expr}{c:PE}(H:zdI 0 S sh e c):zat S sh e c:=λa ow st s Q X f R q=>H a ow st s Q X (yb _) f R q
theorem zdp.t{e:Expr}{c}(H:zdp S sh e c):zqa n S sh e c:=λa ow st s Q X _ f R q=>H a ow st s Q X f R q
theorem zqa.s{e:Expr}{c}(H:zqa 0 S sh e c):zdp S sh e c:=λa ow st s Q X f R q=>H a ow st s Q X (yb _) f R q
theorem zba.t{e:Stmt}{c:PS}(H:zba S sh e c):ziB n S sh e c:=λa ow st s Q X _ f R q=>H a ow st s Q X f R q
theorem ziB.s{e:Stmt}{c:PS}(H:ziB 0 S sh e c):zba S sh e c:=λa ow st s Q X f R q=>H a ow st s Q X (yb _) f R q
theorem zaV.t{e:List Stmt}{c:PS}(H:zaV S sh e c):zc2 n S sh e c:=λa ow st s Q X _ f R q=>H a ow st s Q X f R q
theorem zc2.s{e:List Stmt}{c:PS}(H:zc2 0 S sh e c):zaV S sh e c:=λa ow st s Q X f R q=>H a ow st s Q X (yb _) f R q
end
section
theorem Frz.refl(st:Sl):Frz st st:=⟨rfl,λ_=>.inl rfl⟩
theorem Frz.trans{a b c:Sl}(x:Frz a b)(y:Frz b c):Frz a c:=⟨y.1.trans x.1,λi=>by
 left;rcases x.2 i with p|⟨ds,p,p'⟩
 ·rcases y.2 i with q|⟨ds,q,q'⟩
  ·exact .inl (q.trans p)
  ·exact .inr (zbO ds (p▸q) q')
 ·rcases y.2 i with q|⟨ds',q,q'⟩
  ·exact .inr (zbO ds p (q.trans p'))
  ·cases p'.symm.trans q⟩
theorem Frz.own{st st':Sl}(x:Frz st st'){i:Nat}{ds}(e:st'[i]?=some (.own ds)):st[i]?=some (.own ds):=by
 rcases x.2 i with p|⟨_,_,p⟩
 ·exact p▸e
 ·rw[p]at e;cases e
theorem Frz.cel{st st':Sl}(x:Frz st st'){i:Nat}{o}(e:st'[i]?=some (.cel o)):st[i]?=some (.cel o):=by
 rcases x.2 i with p|⟨_,_,p⟩
 ·exact p▸e
 ·rw[p]at e;cases e
theorem zaq{ow:Nat->Option Addr}{st st':Sl}(x:Frz st st'):restr (restr ow st) st'=restr ow st':=by
 funext i
 unfold restr;rcases e:st'[i]? with _|sl
 ·rfl
 ·induction sl with
  |own ds=>simp[x.own e]
  |cel o=>simp[x.cel e]
  |_=>rfl
theorem zbt{ow:Nat->Option Addr}{st:Sl}{i:Nat}{b:Addr}(h:restr ow st i=some b):ow i=some b:=by
 unfold restr at h
 split at h
 ·exact h
 ·exact h
 ·exact zad h
theorem Pv.restr{a:Act}{X:Addr->Prop}{ow:Nat->Option Addr}{st:Sl}{b:Addr}(h:Pv a X (restr ow st) b):Pv a X ow b:=by
 rcases h with h|h|h|⟨i,h⟩
 ·exact .inl h
 ·exact .inr (.inl h)
 ·exact .inr (.inr (.inl h))
 ·exact .inr (.inr (.inr ⟨i,zbt h⟩))
theorem Step.refl(a:Act)(st:Sl)(s:Shared):Step a st st s s:=⟨.refl _,.refl _ _,rfl,rfl⟩
theorem Step.trans{a:Act}{st st₁ st₂:Sl}{s s₁ s₂:Shared}(x:Step a st st₁ s s₁)(y:Step a st₁ st₂ s₁ s₂):Step a st st₂ s s₂:=
 ⟨x.frz.trans y.frz,x.keep.trans y.keep,y.gens.trans x.gens,y.os.trans x.os⟩
theorem zeu{h base:Heap}:∀{l:List Env},h.FunFrames base l->∀b∈l.filterMap (·.frame),base.get? b=none∧∀o vs,h.get? b=some o->o.data≠.fields vs:=λf b hb=>by
 left;obtain⟨h1,o,h2,h3⟩:=f.mem hb;exact⟨h1,λo' vs e=>by rw[h2]at e;obtain rfl:=yi e;exact h3 vs⟩
theorem Act.Fits.inP{S:St0}{a:Act}{sh:zai}(f:a.Fits S sh){X:Addr->Prop}{ow:Nat->Option Addr}:∀b∈a.L::a.F,Pv a X ow b:=λb hb=>by
 rcases yx.mp hb with q|q
 ·exact .inr (.inl q)
 ·exact .inl (f.FP b q)
theorem Act.Fits.inF{S:St0}{a:Act}{sh:zai}(f:a.Fits S sh){b:Addr}(h:b∈a.outer.filterMap (·.frame)):b∈a.fr.filterMap (·.frame):=by
 obtain⟨e,h1,h2⟩:=List.mem_filterMap.mp h;exact List.mem_filterMap.mpr ⟨e,f.outs e h1,h2⟩
section
variable{S:St0}{sh:zai}{a:Act}{X:Addr->Prop}{ow:Nat->Option Addr}{st:Sl}{s:Shared}
theorem Rel.nobT(f:a.Fits S sh)(r:Rel S sh a X ow st s):∀b∈a.L::a.F,b≠a.T->∀o vs,s.heap.get? b=some o->o.data≠.fields vs:=λb hb hT o vs e=>by
 rcases yx.mp hb with q|q
 ·obtain⟨m,⟨o',es,ep,w1,w2,_⟩,_⟩:=r.slots
  rw[q,w1]at e;obtain rfl:=yi e;rw[w2];nofun
 ·rcases yx.mp q with q|q
  ·exact absurd q hT
  ·exact(zeu r.frames b (f.inF q)).2 o vs e
theorem Rel.nob(f:a.Fits S sh)(r:Rel S sh a X ow st s):∀b∈a.L::a.F,S.base.get? b=none∧∀o vs,s.heap.get? b=some o->o.cls≠.none->o.data≠.fields vs:=λb hb=>by
 by_cases hT:b=a.T
 ·refine⟨hT▸f.tabB,λo vs e hc=>absurd ?_ hc⟩
  refine za1 r.tab λps h1 _=>?_;simp only[hT,f.tab,h1]at e;obtain rfl:=yi e;rfl
 ·refine⟨?_,λo vs e _=>r.nobT f b hb hT o vs e⟩
  rcases yx.mp hb with q|q
  ·exact q▸f.nobase
  ·rcases yx.mp q with q|q
   ·exact absurd q hT
   ·exact(zeu r.frames b (f.inF q)).1
theorem Rel.goes(f:a.Fits S sh)(r:Rel S sh a X ow st s){h':Heap}{P P':Addr->Prop}(k:zdQ (a.L::a.F) s.heap h')(p:∀b,(s.heap.get? b).isSome=true->P' b->P b)(hT:∀b∈a.L::a.F,P b:=by exact f.inP):zfi S s.heap h' P P':=
 .keep k (λb hb=>(r.nob f b hb).1) hT p
theorem zeE.keep{h h':Heap}{F:List Addr}(k:zdQ F h h')(g:∀b∈F,∀o vs,h.get? b=some o->o.cls≠.none->o.data≠.fields vs):∀{v},zeE h X v->zeE h' X v
 |v,x=>by
  induction x with
  |nil=>exact .nil
  |cons a n hc b c _ ih=>exact .cons ((k _ _ a).1 λq=>g _ q _ _ a hc b) n hc b c ih
theorem Rel.own_there(R:Rel S sh a X ow st s){i:Nat}{b:Addr}(q:ow i=some b):(s.heap.get? b).isSome=true:=by
 refine zcN R.slots λm _ hl hsl=>?_;left;refine zbP (R.own i b q) λhi _=>?_;have hi':i<st.length:=hl▸hi;have:=hsl i _ _ (ys hi) (ys hi');revert this;cases st[i]with
 |unb=>intro z;have z:ow i=none:=z;exact zad (z.symm.trans q)
 |val d=>intro z;cases z.1.symm.trans q
 |own ds=>
  rintro⟨b',o,vs,n,z1,_,z3,_⟩;rw[z1]at q;obtain rfl:=yi q;exact ya _ z3
 |cel o=>
  rintro⟨b',o,w,z1,_,z3,_⟩;rw[z1]at q;obtain rfl:=yi q;exact ya _ z3
theorem zeE.less{h:Heap}{X X':Addr->Prop}(k:∀b,(h.get? b).isSome=true->X' b->X b):∀{v},zeE h X v->zeE h X' v
 |v,x=>by
  induction x with
  |nil=>exact .nil
  |cons a n hc b c _ ih=>exact .cons a (λq=>n (k _ (by rw[a];rfl) q)) hc b c ih
theorem Rel.stepX(f:a.Fits S sh)(r:Rel S sh a X ow st s){st':Sl}{s':Shared}(x:Step a st st' s s'){X':Addr->Prop}(hX:∀b,(s.heap.get? b).isSome=true->X' b->X b):Rel S sh a X' (restr ow st') st' s':=by
 refine zcN r.slots λm hn hl hs=>?_;have hP:∀b,(s.heap.get? b).isSome=true->Pv a X' (restr ow st') b->Pv a X ow b:=λb hb q=>by
  rcases q with q|q|q|⟨i,q⟩
  ·exact .inl q
  ·exact .inr (.inl q)
  ·exact .inr (.inr (.inl (hX b hb q)))
  ·exact .inr (.inr (.inr ⟨i,zbt q⟩))
 have gs:=r.goes f (P:=Pv a X ow) (P':=Pv a X' (restr ow st')) x.keep hP;refine⟨(zf8 m (x.keep.ns hn) (x.frz.1.trans hl) (λi y sl hi hsl=>?_)),?_,x.keep.funFrames r.frames,λi b h=>?_,λi j b h1 h2=>r.inj i j b (zbt h1) (zbt h2),x.gens.trans r.gens,x.os.trans r.os,
  λv hv=>((r.hands v hv).less hX).keep x.keep λb hb o vs e=>(r.nob f b hb).2 o vs e,r.tab.keep x.keep⟩
 ·have hlt:i<st.length:=x.frz.1.symm▸((yo.mp hsl).1)
  have h0:=hs i y _ hi (ys hlt);rcases x.frz.2 i with p|⟨ds,p,p'⟩
  ·simp only[p,List.getElem?_eq_getElem hlt]at hsl
   obtain rfl:=yi hsl;have hr:restr ow st' i=match st[i]with|.own _=>ow i|.cel _=>ow i|_=>none:=by
    unfold restr;rw[p,List.getElem?_eq_getElem hlt];cases st[i]<;>rfl
   revert h0 hr;cases st[i]with
   |unb=>intro h0 hr;exact hr
   |val d=>intro h0 hr;obtain⟨_,v,h1,h2⟩:=h0;exact⟨hr,v,h1,h2.goes gs⟩
   |own ds=>
    intro h0 hr;left;obtain⟨b,o,vs,n,h1,h2,h3,h4,h5,h6,h7⟩:=h0;refine zu8 (x.keep.weakD h3 (zaL h4)) λo' h3' h4' h5' h7'=>?_;exact⟨b,o',vs,n,hr.trans h1,h2,h3',h4'.trans h4,h5'.trans h5,h6.goes gs,h7'.trans h7⟩
   |cel o=>
    intro h0 hr;left;obtain⟨b,o,w,h1,h2,h3,h5,h6⟩:=h0;refine zcN (x.keep.weak h3 (zh9 h5)) λo' h3' _ h5'=>?_;exact⟨b,o',w,hr.trans h1,h2,h3',h5'.trans h5,h6.goes gs⟩
  ·rw[List.getElem?_eq_getElem hlt]at p
   have hp:=yi p;rw[hp]at h0;rw[hsl]at p';obtain rfl:=yi p';obtain⟨b,o,vs,n,h1,h2,h3,h4,h5,h6,_⟩:=h0;refine zcN (x.keep.weak h3 (zaL h4)) λo' h3' h4' h5'=>?_;have hr:restr ow st' i=none:=by unfold restr;rw[hsl]
   refine⟨hr,_,h2,.lst h3' ?_ (h4'.trans h4) (h5'.trans h5) (h6.goes gs)⟩;rintro(q|q|q|⟨j,q⟩)
   ·have:=f.Pdom b q
    rw[(r.own i b h1).2.1]at this;exact zaD this
   ·exact(r.own i b h1).2.2.2 q
   ·exact(r.own i b h1).2.2.1 (hX b (r.own_there h1) q)
   ·have e:=r.inj j i b (zbt q) h1
    obtain rfl:=e.symm;cases hr.symm.trans q
 ·exact r.keep.transL x.keep f.noh₀
 ·refine zvH (r.own i b (zbt h)) λh1 h2 h3 h4=>?_
  exact⟨h1,h2,λq=>h3 (hX b (r.own_there (zbt h)) q),h4⟩
theorem Rel.step(f:a.Fits S sh)(r:Rel S sh a X ow st s){st':Sl}{s':Shared}(x:Step a st st' s s'):Rel S sh a X (restr ow st') st' s':=r.stepX f x λ_ _ q=>q
end
end
section
variable{S:St0}{sh:zai}{a:Act}{X:Addr->Prop}{ow:Nat->Option Addr}{st st' st₁ st₂:Sl}{s s' s₁ s₂:Shared}{hs h h':Heap}{v:Value}{r:Res}
theorem Rel.fresh(f:a.Fits S sh)(R:Rel S sh a X ow st s)(hX:∀b,X b->(s.heap.get? b).isSome=true){b:Addr}(hb:s.heap.get? b=none):¬Pv a X ow b:=by
 rintro(q|q|q|⟨i,q⟩)
 ·have:=f.Pdom b q
  obtain⟨o,ho⟩:=yI.mp this;have k:=R.keep.there ho;rw[hb]at k;exact zaD k
 ·obtain⟨m,⟨o,_,_,ho,_⟩,_⟩:=R.slots
  rw[←q,hb]at ho;exact zad ho
 ·have:=hX b q;rw[hb]at this;exact zaD this
 ·have:=R.own_there q;rw[hb]at this;exact zaD this
theorem Rel.fresh0(f:a.Fits S sh)(R:Rel S sh a noX ow st s){b:Addr}(hb:s.heap.get? b=none):¬Pv a noX ow b:=R.fresh f (λ_ q=>q.elim) hb
inductive CA(S:St0)(h:Heap)(P:Addr->Prop)(v:Value)(d:D)(b:Addr)(o:Obj)(vs:Array Value)(n:Nat)(ds:List D):Prop
 |mk (qa:v=.ref b) (qb:d=.lst ds) (qc:h.get? b=some o) (qd:o.cls=.type "list") (qe:o.data=.seq vs n) (qf:zaO S h P vs.toList ds)
noncomputable def zdH(S:St0)(h:Heap)(P:Addr->Prop)(v:Value)(d:D):Prop:=
 zcj S h P v d∨∃b o vs n ds,CA S h P v d b o vs n ds
theorem Pv.noX_le{a:Act}{X:Addr->Prop}{ow:Nat->Option Addr}{b:Addr}(q:Pv a noX ow b):Pv a X ow b:=by
 rcases q with q|q|q|q
 ·exact .inl q
 ·exact .inr (.inl q)
 ·exact q.elim
 ·exact .inr (.inr (.inr q))
theorem zg8.c(x:zg8 S a ow st hs h v r):zdH S h (Pv a noX ow) v r.d:=by
 left
 induction r with
 |pl d=>exact .inl x.1
 |fr ds=>obtain⟨b,o,vs,n,e,_,h1,h2,h3,h4,_⟩:=x;exact .inr ⟨b,o,vs,n,ds,e,rfl,h1,h2,h3,h4.goes (.less λ_ _ q=>q.noX_le)⟩
 |bo i ds=>obtain⟨b,o,vs,n,e,h1,h2,h3,h4,_⟩:=x;exact .inr ⟨b,o,vs,n,ds,e,rfl,h1,h2,h3,h4⟩
theorem zg8.step(f:a.Fits S sh)(R:Rel S sh a noX ow st s)(K:Step a st st' s s')(x:zg8 S a ow st hs s.heap v r):zg8 S a (restr ow st') st' hs s'.heap v r:=by
 have g:=R.goes f (P:=Pv a noX ow) (P':=Pv a noX (restr ow st')) K.keep λb _ q=>q.restr
 induction r with
 |pl d=>exact⟨x.1.goes g,x.2⟩
 |fr ds=>
  left;obtain⟨b,o,vs,n,e,h0,h1,h2,h3,h4,h5⟩:=x;refine zu8 (K.keep.weakD h1 (zaL h2)) λo' q1 q2 q3 q4=>?_;refine⟨b,o',vs,n,e,h0,q1,q2.trans h2,q3.trans h3,?_,q4.trans h5⟩;exact(h4.goes (R.goes f (P:=Pv a (λc=>c=b) ow) (P':=Pv a (λc=>c=b) (restr ow st')) K.keep λb _ q=>q.restr))
 |bo i ds=>
  left;obtain⟨b,o,vs,n,e,h1,h2,h3,h4,h5⟩:=x;refine zcN (K.keep.weak h1 (zaL h2)) λo' q1 q2 q3=>?_;refine⟨b,o',vs,n,e,q1,q2.trans h2,q3.trans h3,h4.goes g,?_⟩;left;rcases h5 with⟨p1,p2⟩|⟨p1,p2⟩
  ·rcases K.frz.2 i with z|⟨ds',z,z'⟩
   ·refine .inl ?_
    rw[p2]at z;exact⟨by unfold restr;exact z▸p1,z⟩
   ·refine .inr ?_
    rw[p2]at z;cases z;refine⟨?_,z'⟩;rintro(q|q|q|⟨j,q⟩)
    ·have:=f.Pdom b q
     rw[(R.own i b p1).2.1]at this;exact zaD this
    ·exact(R.own i b p1).2.2.2 q
    ·exact q
    ·have:=R.inj j i b (zbt q) p1
     obtain rfl:=this.symm;unfold restr at q;rw[z']at q;exact zad q
  ·refine .inr ?_
   refine⟨λq=>p1 q.restr,?_⟩;rcases K.frz.2 i with z|⟨ds',z,_⟩
   ·exact z.trans p2
   ·rw[p2]at z;cases z
theorem zg8.early(k:∀b o,hs.get? b=some o->(h.get? b).isSome=true)(x:zg8 S a ow st h h' v r):zg8 S a ow st hs h' v r:=by
 induction r with
 |pl d=>
  refine⟨x.1,λq=>?_⟩;refine za1 (x.2 q) λe h1 h2=>?_;refine zbO e h1 ?_;cases q:hs.get? e with
  |none=>rfl
  |some o=>have:=k e o q;rw[h2]at this;exact zaD this
 |fr ds=>
  left;obtain⟨b,o,vs,n,e,h0,r1,r2,r3,r4,r5⟩:=x;refine⟨b,o,vs,n,e,?_,r1,r2,r3,r4,r5⟩;cases q:hs.get? b with
  |none=>rfl
  |some o=>have:=k b o q;rw[h0]at this;exact zaD this
 |bo i ds=>exact x
theorem Step.ext(K:Step a st st' s s'):∀b o,s.heap.get? b=some o->(s'.heap.get? b).isSome=true:=λb o e=>K.keep.there e
theorem zf3(f:a.Fits S sh)(R:Rel S sh a noX ow st s)(K:Step a st st' s s')(x:zg8 S a (restr ow st') st' s.heap s'.heap v r) :
  Step a st (r.seal st') s s'∧zcj S s'.heap (Pv a noX (restr ow (r.seal st'))) v r.d:=by
 induction r with
 |pl d=>exact⟨K,x.1⟩
 |fr ds=>
  left;obtain⟨b,o,vs,n,rfl,h0,h1,h2,h3,h4,_⟩:=x;exact⟨K,.lst h1 (λq=>R.fresh0 f h0 q.restr) h2 h3 (h4.goes (.less λ_ _ q=>q.noX_le))⟩
 |bo i ds=>
  left;obtain⟨b,o,vs,n,rfl,h1,h2,h3,h4,h5⟩:=x;have R':=R.step f K;have fz:Frz st' ((Res.bo i ds).seal st'):=by
   refine⟨(show(st'.set i (.val (.lst ds))).length=st'.length from List.length_set),λj=>?_⟩;show(st'.set i _)[j]?=_∨_;by_cases e:i=j
   ·subst e
    rcases h5 with⟨_,p⟩|⟨_,p⟩
    ·have hlt:=(yo.mp p).1
     exact .inr ⟨ds,p,by show(st'.set i _)[i]?=_;rw[List.getElem?_set_self hlt]⟩
    ·have hlt:=(yo.mp p).1
     refine .inl ?_;rw[List.getElem?_set_self hlt,p]
   ·refine .inl ?_;rw[List.getElem?_set_ne e]
  have K2:Step a st' ((Res.bo i ds).seal st') s' s':=⟨fz,.refl _ _,rfl,rfl⟩;have hi:i<st'.length:=by rcases h5 with⟨_,p⟩|⟨_,p⟩<;>exact(yo.mp p).1
  have x':zg8 S a (restr (restr ow st') ((Res.bo i ds).seal st')) ((Res.bo i ds).seal st') s.heap s'.heap (.ref b) (.bo i ds):=zg8.step f R' K2 ⟨b,o,vs,n,rfl,h1,h2,h3,h4,h5⟩;rw[zaq fz]at x';obtain⟨b',o',vs',n',e,g1,g2,g3,g4,g5⟩:=x';cases e;refine⟨K.trans K2,.lst g1 ?_ g2 g3 g4⟩;rcases g5 with⟨_,p⟩|⟨p,_⟩
  ·have:((Res.bo i ds).seal st')[i]?=some (.val (.lst ds)):=by show(st'.set i _)[i]?=_;rw[List.getElem?_set_self hi]
   exact nomatch (this.symm.trans p)
  ·exact p
theorem zr4{Q:Res->Sl->Prop}{d:D}(K:Step a st st s s')(x:zcj S s'.heap (Pv a noX (restr ow st)) v d)(q:Q (.pl d) st)(hd:d.isExc=false:=by rfl):OkE S a ow st s Q v s':=⟨_,st,q,K,x,λz=>by rw[hd]at z;exact zaD z⟩
theorem zg8.new{a:Act}{ow:Nat->Option Addr}{st:Sl}{hs h:Heap}{v:Value}{r:Res}(x:zg8 S a ow st hs h v r):New hs v r.d:=by
 induction r with
 |pl d=>exact x.2
 |_=>exact λz=>zaD z
end
section nodes
variable{S:St0}{sh:zai}
theorem zdr{a:Act}{X:Addr->Prop}{ow:Nat->Option Addr}{st:Sl}{s:Shared}(R:Rel S sh a X ow st s):restr ow st=ow:=by
 funext i
 refine zcN R.slots λm _ hl hs=>?_;unfold restr;cases e:st[i]? with
 |none=>
  cases q:ow i with
  |none=>rfl
  |some b=>
   have:=(R.own i b q).1;rw[List.getElem?_eq_none_iff]at e;lia
 |some sl=>
  have hlt:=(yo.mp e).1;have:=hs i _ _ (ys (hl▸hlt)) e;clear e
  induction sl with
  |unb=>exact(show ow i=none from this).symm
  |val d=>exact this.1.symm
  |own ds=>rfl
  |cel o=>rfl
theorem zwt{b k pos}:zat S sh (.Constant (.bool b) k pos) λQ _ st=>Q (.pl (.bool b)) st:=λa ow st s Q X f R q=>Constant_bool (zr4 (.refl ..) (.bool b) q)
theorem zyE{i k pos}:zat S sh (.Constant (.int i) k pos) λQ _ st=>Q (.pl (.int i)) st:=λa ow st s Q X f R q=>wpAny_Constant_int (zr4 ⟨.refl _,.refl _ _,rfl,rfl⟩ (.int i _) q)
theorem zxm{x:Str}{k pos}:zat S sh (.Constant (.str x) k pos) λQ _ st=>Q (.pl (.str x.cps.toList)) st:=λa ow st s Q X f R q=>
 wpAny_Constant_str (zr4 ⟨.refl _,.refl _ _,rfl,rfl⟩ (by have:=zcj.str (S:=S) (h:=s.heap) (P:=Pv a noX (restr ow st)) x.cps.toList s.toks;rwa[zdx]at this) q)
@[reducible]noncomputable def zae(i:Nat):PE:=λQ _ st=>match st[i]? with
 |some (.val d)=>zy9 d.isExc (Q (.pl d) st)
 |some (.own ds)=>Q (.bo i ds) st
 |_=>False
set_option tactic.hygienic true in
theorem zaa{i:Nat}{x:Str}{pos}(hi:sh.names[i]?=some x)(hd:(x==("__debug__":Str))=false:=by decide):zat S sh (.Name x pos) (zae i):=λa ow st s Q X f R q=>by
 have R0:=zdr R;left;refine zcN R.slots λm hn hl hs=>?_;have hm:x∈sh.names:=yw hi;have hk:a.env.kindOf x=some .local:=by unfold Env.kindOf;exact f.scope▸(f.loc x hm)
 have hkk:a.env.scope.kind=.function:=f.scope▸f.kind;unfold zae at q
 split at q
 ·rename_i d e
  obtain⟨_,v,h1,h2⟩:=hs i x _ (zai.all_of hi) e;rw[f.ovn hm]at h1;exact wpAny_Name (wpAny_loadName_local hkk hk (f.locals▸hn) h1 (zr4 (.refl ..) (R0.symm▸h2) (zn2 q).2 (zn2 q).1)) hd
 ·rename_i ds e
  obtain⟨b,o,vs,n,h1,h2,h3,h4,h5,h6,_⟩:=hs i x _ (zai.all_of hi) e;rw[f.ovn hm]at h2;exact wpAny_Name (wpAny_loadName_local hkk hk (f.locals▸hn) h2 ⟨_,st,q,.refl ..,b,o,vs,n,rfl,h3,h4,h5,R0.symm▸h6,.inl ⟨R0.symm▸h1,e⟩⟩) hd
 ·exact q.elim
theorem zaF{a:Act}{st st₁:Sl}{s s₁:Shared}{X:Err->Sl->Prop}(K:Step a st st₁ s s₁){ev:Value}{s':Shared}(x:zfN S a st₁ s₁ X ev s'):zfN S a st s X ev s':=by
 left;obtain⟨x,st',h1,h2,e,T,h3,h4,h5,h6⟩:=x;exact⟨x,st',h1,K.trans h2,e,T,h3,K.keep.new h4,λb hb=>K.keep.new (h5 b hb),h6⟩
theorem zhN{a:Act}{ow:Nat->Option Addr}{st st₁:Sl}{s s₁:Shared}{Q:Res->Sl->Prop}(K:Step a st st₁ s s₁){v:Value}{s':Shared}(x:OkE S a (restr ow st₁) st₁ s₁ Q v s'):OkE S a ow st s Q v s':=by
 left;obtain⟨r,st',h1,h2,h3⟩:=x;rw[zaq h2.frz]at h3;exact⟨r,st',h1,K.trans h2,h3.early K.ext⟩
end nodes
noncomputable abbrev PV:=(Res->Prop)->(Err->Prop)->Prop
noncomputable def OkP(S:St0)(a:Act)(ow:Nat->Option Addr)(st:Sl)(s:Shared)(Q:Res->Prop):Value->Shared->Prop:=λv s'=>∃r,Q r∧Step a st st s s'∧zg8 S a ow st s.heap s'.heap v r
noncomputable def zsB(S:St0)(a:Act)(st:Sl)(s:Shared)(X:Err->Prop):Value->Shared->Prop:=λev s'=>∃x,X x∧Step a st st s s'∧zyD S a s.heap s' ev x
noncomputable def zm5(S:St0)(sh:zai)(m:Value->Sem Value)(p:D->PV):Prop:=
 ∀(a:Act)(ow:Nat->Option Addr)(st:Sl)(s:Shared)(v:Value)(d:D)(Q:Res->Prop)(X:Err->Prop),a.Fits S sh->Rel S sh a noX ow st s->zdH S s.heap (Pv a noX ow) v d->p d Q X ->
  wpAny (model S.prog S.w) a.A (m v) (OkP S a ow st s Q) (zsB S a st s X) s
noncomputable def zcK(S:St0)(sh:zai)(m:Value->Value->Sem Value)(p:D->D->PV):Prop:=
 ∀(a:Act)(ow:Nat->Option Addr)(st:Sl)(s:Shared)(v1a v2a:Value)(d₁ d₂:D)(Q:Res->Prop)(X:Err->Prop),a.Fits S sh->Rel S sh a noX ow st s->zdH S s.heap (Pv a noX ow) v1a d₁->zdH S s.heap (Pv a noX ow) v2a d₂->p d₁ d₂ Q X ->
  wpAny (model S.prog S.w) a.A (m v1a v2a) (OkP S a ow st s Q) (zsB S a st s X) s
noncomputable def zjs:D->Option Bool
 |.none=>some false
 |.bool b=>some b
 |.int i=>some (i != 0)
 |.str l=>if l.length≤1000000 then some (!l.isEmpty)else none
 |.lst l=>if l.length≤1000000 then some (!l.isEmpty)else none
 |.tup l=>if l.length≤1000000 then some (!l.isEmpty)else none
 |_=>none
noncomputable def zh5(S:St0)(sh:zai):Prop:=
 ∀(a:Act)(ow:Nat->Option Addr)(st:Sl)(s:Shared)(v:Value)(d:D)(b:Bool),a.Fits S sh->Rel S sh a noX ow st s->zdH S s.heap (Pv a noX ow) v d->zjs d=some b ->
  ∀(Q:Bool->Shared->Prop)(E:Value->Shared->Prop),(∀s',Step a st st s s'->Q b s')->wpAny (model S.prog S.w) a.A (truthy v) Q E s
section
variable{S:St0}{sh:zai}
theorem OkP.toE{a:Act}{ow:Nat->Option Addr}{st0 st:Sl}{s₀ s s':Shared}{v:Value}{Q:Res->Sl->Prop}(K:Step a st0 st s₀ s)(x:OkP S a (restr ow st) st s (λr=>Q r st) v s'):OkE S a ow st0 s₀ Q v s':=by
 refine zcN x λr h1 h2 h3=>?_;exact⟨r,st,h1,K.trans h2,h3.early K.ext⟩
theorem zsB.toE{a:Act}{st0 st:Sl}{s₀ s s':Shared}{v:Value}{X:Err->Sl->Prop}(K:Step a st0 st s₀ s)(x:zsB S a st s (λr=>X r st) v s'):zfN S a st0 s₀ X v s':=by
 left;obtain⟨x,h1,h2,e,T,h3,h4,h5,h6⟩:=x;exact⟨x,st,h1,K.trans h2,e,T,h3,K.keep.new h4,λb hb=>K.keep.new (h5 b hb),h6⟩
theorem zdH.step{a:Act}{ow:Nat->Option Addr}{st st':Sl}{s s':Shared}(f:a.Fits S sh)(R:Rel S sh a noX ow st s)(K:Step a st st' s s'){v:Value}{d:D}(x:zdH S s.heap (Pv a noX ow) v d):zdH S s'.heap (Pv a noX (restr ow st')) v d:=by
 have g:=R.goes f (P:=Pv a noX ow) (P':=Pv a noX (restr ow st')) K.keep λb _ q=>q.restr;left;rcases x with x|⟨b,o,vs,n,ds,e,e',h1,h2,h3,h4⟩
 ·exact .inl (x.goes g)
 ·refine zcN (K.keep.weak h1 (zaL h2)) λo' q1 q2 q3=>?_
  exact .inr ⟨b,o',vs,n,ds,e,e',q1,q2.trans h2,q3.trans h3,h4.goes g⟩
@[reducible]noncomputable def pe1(c:PE)(p:D->PV):PE:=λQ X st=>c (λr st₁=>p r.d (λr'=>Q r' st₁) (λx=>X x st₁)) X st
@[reducible]noncomputable def pe2(c₁ c₂:PE)(p:D->D->PV):PE:=λQ X st=>c₁ (λr1 st₁=>c₂ (λr2 st₂=>p r1.d r2.d (λr'=>Q r' st₂) (λx=>X x st₂)) X st₁) X st
theorem ev1{e:Expr}{c:PE}{m:Value->Sem Value}{p:D->PV}(H:zat S sh e c)(P:zm5 S sh m p){a:Act}{ow:Nat->Option Addr}{st:Sl}{s:Shared}{Q:Res->Sl->Prop}{X:Err->Sl->Prop}(f:a.Fits S sh)(R:Rel S sh a noX ow st s)(q:pe1 c p Q X st) :
  wpAny (model S.prog S.w) a.A (eval e a.env) (λv s₁=>wpAny (model S.prog S.w) a.A (m v) (OkE S a ow st s Q) (zfN S a st s X) s₁) (zfN S a st s X) s:=by
 refine yr (H a ow st s _ X f R q) (λv s₁ h=>?_) λ_ _ x=>x;left;obtain⟨r,st₁,h1,h2,h3⟩:=h;exact yr (P a _ st₁ s₁ v r.d _ _ f (R.step f h2) h3.c h1) (λ_ _ x=>x.toE h2) λ_ _ x=>x.toE h2
theorem zzs{n:Nat}{e1 e2:Expr}{c₁ c₂:PE}{m:Value->Value->Sem Value}{p:D->D->PV}(H1a:zdI n S sh e1 c₁)(H2:zdI n S sh e2 c₂)(P:zcK S sh m p){a:Act}{ow:Nat->Option Addr}{st:Sl}{s:Shared}{Q:Res->Sl->Prop}{X:Err->Sl->Prop}(hn:n≤s.toks)(f:a.Fits S sh)(R:Rel S sh a noX ow st s)(q:pe2 c₁ c₂ p Q X st) :
  wpAny (model S.prog S.w) a.A (eval e1 a.env) (λv1a s₁=>wpAny (model S.prog S.w) a.A (eval e2 a.env) (λv2a s₂=>wpAny (model S.prog S.w) a.A (m v1a v2a) (OkE S a ow st s Q) (zfN S a st s X) s₂) (zfN S a st s X) s₁) (zfN S a st s X) s:=by
 refine yr (wpAny_toks_of hn (H1a a ow st s _ X hn f R q)) (λv s₁ h=>?_) λ_ _ x=>x.2;left;obtain⟨hn1,r,st₁,h1,h2,h3⟩:=h;have R1:=R.step f h2;refine yr (H2 a _ st₁ s₁ _ X hn1 f R1 h1) (λv2a s₂ h=>?_) λ_ _ x=>zaF h2 x;left;obtain⟨r2,st₂,g1,g2,g3⟩:=h;have K:=h2.trans g2;have c1:=h3.c.step f R1 g2;have c2:=g3.c;rw[zaq g2.frz]at c1 c2;exact yr (P a _ st₂ s₂ _ _ r.d r2.d _ _ f (R.step f K) c1 c2 g1) (λ_ _ x=>x.toE K) λ_ _ x=>x.toE K
theorem ev2{e1 e2:Expr}{c₁ c₂:PE}{m:Value->Value->Sem Value}{p:D->D->PV}(H1a:zat S sh e1 c₁)(H2:zat S sh e2 c₂)(P:zcK S sh m p){a:Act}{ow:Nat->Option Addr}{st:Sl}{s:Shared}{Q:Res->Sl->Prop}{X:Err->Sl->Prop}(f:a.Fits S sh)(R:Rel S sh a noX ow st s)(q:pe2 c₁ c₂ p Q X st) :
  wpAny (model S.prog S.w) a.A (eval e1 a.env) (λv1a s₁=>wpAny (model S.prog S.w) a.A (eval e2 a.env) (λv2a s₂=>wpAny (model S.prog S.w) a.A (m v1a v2a) (OkE S a ow st s Q) (zfN S a st s X) s₂) (zfN S a st s X) s₁) (zfN S a st s X) s:=zzs H1a.t H2.t P (yb _) f R q
theorem zp0{n:Nat}{l r:Expr}{op pos}{c₁ c₂:PE}{p:D->D->PV}(H1a:zdI n S sh l c₁)(H2:zdI n S sh r c₂)(P:zcK S sh (binaryOp op) p):zdI n S sh (.BinOp l op r pos) (pe2 c₁ c₂ p):=
 λ_ _ _ _ _ _ hn f R q=>wpAny_BinOp (zzs H1a H2 P hn f R q)
theorem zas{l r:Expr}{op pos}{c₁ c₂:PE}{p:D->D->PV}(H1a:zat S sh l c₁)(H2:zat S sh r c₂)(P:zcK S sh (binaryOp op) p):zat S sh (.BinOp l op r pos) (pe2 c₁ c₂ p):=
 λ_ _ _ _ _ _ f R q=>wpAny_BinOp (ev2 H1a H2 P f R q)
noncomputable abbrev PT:=(Bool->Sl->Prop)->(Err->Sl->Prop)->Sl->Prop
@[reducible]noncomputable def zcO(c:PE):PT:=λQ X st=>c (λr st₁=>oM (zjs r.d) λb=>Q b st₁) X st
theorem zbh(T:zh5 S sh){e:Expr}{c:PE}(H:zat S sh e c)(he:∀env whole,isTrue e env whole=(do let v ←whole;standAt e.pos;holding [v] (truthy v)):=by intros;rfl):zdp S sh e (zcO c):=λa ow st s Q X f R q=>by
 refine isTrue_plain (yr (H a ow st s _ X f R q) (λv s₁ h=>?_) λ_ _ x=>x) (he _ _);left;obtain⟨r,st₁,h1,h2,h3⟩:=h;refine za1 (oM_inv h1) λb h0 h1=>?_;exact T a _ st₁ s₁ v r.d b f (R.step f h2) h3.c h0 _ _ λs' K=>(zbO st₁ h1 (h2.trans K))
theorem zlJ{n:Nat}(T:zh5 S sh){l r:Expr}{op pos}{c₁ c₂:PE}{p:D->D->PV}(H1a:zdI n S sh l c₁)(H2:zdI n S sh r c₂)(P:zcK S sh (compareOp op) p)(hm:behindInMarks op r=false) :
  zqa n S sh (.Compare l [op] [r] pos) (zcO (pe2 c₁ c₂ p)):=λa ow st s Q X hn f R q=>by
 refine wpAny_isTrue_Compare1 ?_ hm;refine yr (zzs H1a H2 P (Q:=λr st₁=>oM (zjs r.d) λb=>Q b st₁) hn f R q) (λv s₁ h=>yr h (λv2a s₂ h=>yr h (λv3 s3a h=>?_) λ_ _ x=>x) λ_ _ x=>x) λ_ _ x=>x;left;obtain⟨r,st₁,h1,h2,h3⟩:=h;refine za1 (oM_inv h1) λb h0 h1=>?_;exact T a _ st₁ s3a v3 r.d b f (R.step f h2) h3.c h0 _ _ λs' K=>(zbO st₁ h1 (h2.trans K))
theorem zaI(T:zh5 S sh){l r:Expr}{op pos}{c₁ c₂:PE}{p:D->D->PV}(H1a:zat S sh l c₁)(H2:zat S sh r c₂)(P:zcK S sh (compareOp op) p)(hm:behindInMarks op r=false:=by with_unfolding_all rfl) :
  zdp S sh (.Compare l [op] [r] pos) (zcO (pe2 c₁ c₂ p)):=(zlJ T H1a.t H2.t P hm).s
@[reducible]noncomputable def zl5(c:PT):PT:=λQ X st=>c (λb st₁=>Q (!b) st₁) X st
theorem zgc{x:Expr}{pos}{c:PT}(H:zdp S sh x c):zdp S sh (.UnaryOp .Not x pos) (zl5 c):=λa ow st s Q X f R q=>isTrue_not (H a ow st s _ X f R q)
@[reducible]noncomputable def zfY(c₁ c₂:PT):PT:=λQ X st=>c₁ (λb st₁=>ifB b (c₂ Q X st₁) (Q false st₁)) X st
@[reducible]noncomputable def zzE(c₁ c₂:PT):PT:=λQ X st=>c₁ (λb st₁=>ifB b (Q true st₁) (c₂ Q X st₁)) X st
theorem zlL{pos}:zdp S sh (.BoolOp .And [] pos) λQ _ st=>Q true st:=λa ow st s Q X f R q=>isTrue_and_nil ⟨st,q,.refl ..⟩
theorem zmQ{pos}:zdp S sh (.BoolOp .Or [] pos) λQ _ st=>Q false st:=λa ow st s Q X f R q=>isTrue_or_nil ⟨st,q,.refl ..⟩
theorem zco{x:Expr}{rest pos}{c₁ c₂:PT}(H1a:zdp S sh x c₁)(H2:zdp S sh (.BoolOp .And rest pos) c₂):zdp S sh (.BoolOp .And (x::rest) pos) (zfY c₁ c₂):=λa ow st s Q X f R q=>by
 refine isTrue_and (yr (H1a a ow st s _ X f R q) (λb s₁ h=>?_) λ_ _ x=>x);refine za1 h λst₁ h1 h2=>?_
 induction b with
 |false=>exact zbO st₁ (zht h1) h2
 |true=>exact yr (H2 a _ st₁ s₁ Q X f (R.step f h2) (zhm h1)) (λb s₂ ⟨st₂,g1,g2⟩=>(zbO st₂ g1 (h2.trans g2))) λ_ _ x=>zaF h2 x
theorem zp2{x:Expr}{rest pos}{c₁ c₂:PT}(H1a:zdp S sh x c₁)(H2:zdp S sh (.BoolOp .Or rest pos) c₂):zdp S sh (.BoolOp .Or (x::rest) pos) (zzE c₁ c₂):=λa ow st s Q X f R q=>by
 refine isTrue_or (yr (H1a a ow st s _ X f R q) (λb s₁ h=>?_) λ_ _ x=>x);refine za1 h λst₁ h1 h2=>?_
 induction b with
 |true=>exact zbO st₁ (zhm h1) h2
 |false=>exact yr (H2 a _ st₁ s₁ Q X f (R.step f h2) (zht h1)) (λb s₂ ⟨st₂,g1,g2⟩=>(zbO st₂ g1 (h2.trans g2))) λ_ _ x=>zaF h2 x
@[reducible]noncomputable def zyi(t:PT)(c₁ c₂:PE):PE:=λQ X st=>t (λb st₁=>ifB b (c₁ Q X st₁) (c₂ Q X st₁)) X st
theorem zsS{t b o:Expr}{pos}{ct:PT}{cb co:PE}(Ht:zdp S sh t ct)(Hb:zat S sh b cb)(Ho:zat S sh o co):zat S sh (.IfExp t b o pos) (zyi ct cb co):=λa ow st s Q X f R q=>by
 refine IfExp_ (yr (Ht a ow st s _ X f R q) (λc s₁ h=>?_) λ_ _ x=>x);refine za1 h λst₁ h1 h2=>?_
 induction c with
 |true=>exact yr (Hb a _ st₁ s₁ Q X f (R.step f h2) (zhm h1)) (λ_ _ x=>zhN h2 x) λ_ _ x=>zaF h2 x
 |false=>exact yr (Ho a _ st₁ s₁ Q X f (R.step f h2) (zht h1)) (λ_ _ x=>zhN h2 x) λ_ _ x=>zaF h2 x
@[reducible]noncomputable def zzW(c₁ c₂:PE):PE:=λQ X st=>c₁ (λr st₁=>oM (zjs r.d) λb=>ifB b (Q r st₁) (c₂ Q X st₁)) X st
theorem zve{op}{e:Expr}{pos}{c:PE}(H:zat S sh e c):zat S sh (.BoolOp op [e] pos) c:=λa ow st s Q X f R q=>BoolOp_one (H a ow st s Q X f R q)
theorem zxw(T:zh5 S sh){e1 e2:Expr}{rest pos}{c₁ c₂:PE}(H1a:zat S sh e1 c₁)(H2:zat S sh (.BoolOp .Or (e2::rest) pos) c₂):zat S sh (.BoolOp .Or (e1::e2::rest) pos) (zzW c₁ c₂):=λa ow st s Q X f R q=>by
 refine BoolOp_or (yr (H1a a ow st s _ X f R q) (λv s₁ h=>?_) λ_ _ x=>x);left;obtain⟨r,st₁,h1,h2,h3⟩:=h;refine za1 (oM_inv h1) λb h0 h1=>?_;have R1:=R.step f h2;refine T a _ st₁ s₁ v r.d b f R1 h3.c h0 _ _ λs' K=>?_;have K':=h2.trans K
 induction b with
 |false=>exact yr (H2 a _ st₁ s' Q X f (R.step f K') (zht h1)) (λ_ _ x=>zhN K' x) λ_ _ x=>zaF K' x
 |true=>
  have:=zg8.step f R1 K h3;rw[zaq (Frz.refl st₁)]at this;exact⟨r,st₁,(zhm h1),K',this⟩
noncomputable abbrev PEs:=(List Res->Sl->Prop)->(Err->Sl->Prop)->Sl->Prop
noncomputable def zcL(S:St0)(a:Act)(ow:Nat->Option Addr)(st:Sl)(hs h:Heap):List Value->List Res->Prop
 |[],[]=>True
 |v::vs,r::rs=>zg8 S a ow st hs h v r∧zcL S a ow st hs h vs rs
 |_,_=>False
theorem zcL.early{a:Act}{ow:Nat->Option Addr}{st:Sl}{hs h h':Heap}(k:∀b o,hs.get? b=some o->(h.get? b).isSome=true):∀{vs rs},zcL S a ow st h h' vs rs->zcL S a ow st hs h' vs rs
 |[],[],_=>trivial
 |[],_::_,x=>x.elim
 |_::_,[],x=>x.elim
 |_::_,_::_,x=>⟨x.1.early k,zcL.early k x.2⟩
theorem zcL.step{a:Act}{ow:Nat->Option Addr}{st st':Sl}{s s':Shared}{hs:Heap}(f:a.Fits S sh)(R:Rel S sh a noX ow st s)(K:Step a st st' s s'):∀{vs rs},zcL S a ow st hs s.heap vs rs->zcL S a (restr ow st') st' hs s'.heap vs rs
 |[],[],_=>trivial
 |[],_::_,x=>x.elim
 |_::_,[],x=>x.elim
 |_::_,_::_,x=>⟨zg8.step f R K x.1,zcL.step f R K x.2⟩
theorem zcL.length{a:Act}{ow:Nat->Option Addr}{st:Sl}{hs h:Heap}:∀{vs rs},zcL S a ow st hs h vs rs->vs.length=rs.length
 |[],[],_=>rfl
 |[],_::_,x=>x.elim
 |_::_,[],x=>x.elim
 |_::_,_::_,x=>ya Nat.succ (zcL.length x.2)
noncomputable def zz9(S:St0)(a:Act)(ow:Nat->Option Addr)(st:Sl)(s:Shared)(Q:List Res->Sl->Prop):List Value->Shared->Prop:=λvs s'=>
 ∃rs st',Q rs st'∧Step a st st' s s'∧zcL S a (restr ow st') st' s.heap s'.heap vs rs
noncomputable def zb0(S:St0)(sh:zai)(es:List Expr)(c:PEs):Prop:=
 ∀(pos:Pos)(a:Act)(ow:Nat->Option Addr)(st:Sl)(s:Shared)(Q:List Res->Sl->Prop)(X:Err->Sl->Prop),a.Fits S sh->Rel S sh a noX ow st s->c Q X st ->
  wpAny (model S.prog S.w) a.A (spliced (backTo pos (starEach es a.env))) (zz9 S a ow st s Q) (zfN S a st s X) s
@[reducible]noncomputable def zab(c:PE)(cs:PEs):PEs:=λQ X st=>c (λr st₁=>cs (λrs st₂=>Q (r::rs) st₂) X st₁) X st
theorem zw0:zb0 S sh [] λQ _ st=>Q [] st:=λpos a ow st s Q X f R q=>wpAny_items_nil ⟨[],st,q,.refl ..,trivial⟩
noncomputable def zgj(n:Nat)(S:St0)(sh:zai)(es:List Expr)(c:PEs):Prop:=
 ∀(pos:Pos)(a:Act)(ow:Nat->Option Addr)(st:Sl)(s:Shared)(Q:List Res->Sl->Prop)(X:Err->Sl->Prop),n≤s.toks->a.Fits S sh->Rel S sh a noX ow st s->c Q X st ->
  wpAny (model S.prog S.w) a.A (spliced (backTo pos (starEach es a.env))) (zz9 S a ow st s Q) (zfN S a st s X) s
theorem zb0.t{n:Nat}{es:List Expr}{c:PEs}(H:zb0 S sh es c):zgj n S sh es c:=λpos a ow st s Q X _ f R q=>H pos a ow st s Q X f R q
theorem zgj.s{es:List Expr}{c:PEs}(H:zgj 0 S sh es c):zb0 S sh es c:=λpos a ow st s Q X f R q=>H pos a ow st s Q X (yb _) f R q
theorem ziv{n:Nat}{e:Expr}{es:List Expr}{c:PE}{cs:PEs}(H:zdI n S sh e c)(Hs:zgj n S sh es cs)(he:∀env,starEach (e::es) env=(false,eval e env)::starEach es env):zgj n S sh (e::es) (zab c cs):=λpos a ow st s Q X hn f R q=>by
 refine wpAny_items_cons (yr (wpAny_toks_of hn (H a ow st s _ X hn f R q)) (λv s₁ h=>?_) λ_ _ x=>x.2) (he _);left;obtain⟨hn1,r,st₁,h1,h2,h3⟩:=h;have R1:=R.step f h2;refine yr (Hs pos a _ st₁ s₁ _ X hn1 f R1 h1) (λvs s₂ h=>?_) λ_ _ x=>zaF h2 x;refine zfQ h λrs st₂ g1 g2 g3=>?_;have:=zg8.step f R1 g2 h3;rw[zaq g2.frz]at this g3;exact⟨r::rs,st₂,g1,h2.trans g2,this,g3.early h2.ext⟩
theorem zuv{e:Expr}{es:List Expr}{c:PE}{cs:PEs}(H:zat S sh e c)(Hs:zb0 S sh es cs)(he:∀env,starEach (e::es) env=(false,eval e env)::starEach es env):zb0 S sh (e::es) (zab c cs):=(ziv H.t Hs.t he).s
noncomputable def zbf:List Res->Sl->Sl
 |[],st=>st
 |r::rs,st=>zbf rs (r.seal st)
theorem zog{a:Act}{ow:Nat->Option Addr}{st:Sl}{hs h:Heap}{v:Value}{r:Res}(x:zg8 S a ow st hs h v r):Frz st (r.seal st):=by
 induction r with
 |bo i ds=>
  left;obtain⟨b,o,vs',n,rfl,h1,h2,h3,h4,h5⟩:=x;refine⟨by simp[Res.seal],λj=>?_⟩;show(st.set i _)[j]?=_∨_;left;by_cases e:i=j
  ·subst e
   rcases h5 with⟨_,p⟩|⟨_,p⟩
   ·have hlt:=(yo.mp p).1
    exact .inr ⟨ds,p,by show(st.set i _)[i]?=_;rw[List.getElem?_set_self hlt]⟩
   ·have hlt:=(yo.mp p).1
    refine .inl ?_;rw[List.getElem?_set_self hlt,p]
  ·refine .inl ?_;rw[List.getElem?_set_ne e]
 |_=>exact Frz.refl _
theorem zmA{a:Act}{s:Shared}{hs:Heap}(f:a.Fits S sh)(rs:List Res):∀(vs:List Value)(ow:Nat->Option Addr)(st:Sl),Rel S sh a noX ow st s->zcL S a ow st hs s.heap vs rs->Frz st (zbf rs st):=by
 induction rs with
 |nil=>intro vs ow st _ _;exact Frz.refl st
 |cons r rs ih=>
  intro vs ow st R y
  induction vs with
  |nil=>exact y.elim
  |cons v vs=>
   obtain⟨x,y⟩:=y;have fz:=zog x;have K:Step a st (r.seal st) s s:=⟨fz,.refl _ _,rfl,rfl⟩;exact fz.trans (ih vs _ _ (R.step f K) (zcL.step f R K y))
theorem zhZ{a:Act}{ow:Nat->Option Addr}{s s':Shared}{st:Sl}(f:a.Fits S sh)(R:Rel S sh a noX ow st s)(rs:List Res):∀(vs:List Value)(st':Sl),Step a st st' s s'->zcL S a (restr ow st') st' s.heap s'.heap vs rs ->
  Step a st (zbf rs st') s s'∧zaO S s'.heap (Pv a noX (restr ow (zbf rs st'))) vs (rs.map Res.d):=by
 induction rs with
 |nil=>
  intro vs st' K y
  induction vs with
  |nil=>exact⟨K,.nil⟩
  |cons _ _=>exact y.elim
 |cons r rs ih=>
  intro vs st' K y
  induction vs with
  |nil=>exact y.elim
  |cons v vs=>
  obtain⟨x,y⟩:=y;refine zbP (zf3 f R K x) λK' hv=>?_;have R':=R.step f K;have fz:Frz st' (r.seal st'):=zog x;have K2:Step a st' (r.seal st') s' s':=⟨fz,.refl _ _,rfl,rfl⟩;have y':=zcL.step f R' K2 y;rw[zaq fz]at y';refine zbP (ih vs _ K' y') λKf hvs=>?_;have R'':=R.step f K';have fz2:Frz (r.seal st') (zbf rs (r.seal st')):=zmA f rs vs _ _ R'' y';refine⟨Kf,.cons ?_ hvs⟩;have K3:Step a (r.seal st') (zbf rs (r.seal st')) s' s':=⟨fz2,.refl _ _,rfl,rfl⟩;have:=hv.goes (R''.goes f (P:=Pv a noX (restr ow (r.seal st'))) (P':=Pv a noX (restr (restr ow (r.seal st')) (zbf rs (r.seal st')))) K3.keep λb _ q=>q.restr);rw[zaq fz2]at this;exact this
end
theorem zcS.same{h h':Heap}(k:∀c o,h.get? c=some o->o.cls=.type "code"->(∃vs,o.data=.fields vs)->∃o',h'.get? c=some o'∧o'.cls=o.cls∧o'.data=o.data){c:Addr}(q:zcS h c):zcS h' c:=by
 obtain⟨o,vs,t,q1,q2,q3,q4⟩:=q;refine zcN (k c o q1 q2 ⟨vs,q3⟩) λo' k1 k2 k3=>?_;exact⟨o',vs,t,k1,k2.trans q2,k3.trans q3,q4⟩
theorem zoU.same{h h':Heap}(k:∀c,zcS h c->zcS h' c){o o':Obj}(s:zoU h o o'):zoU h' o o':=
 ⟨s.1,λvs a b=>let ⟨more,e,p⟩:=s.2 vs a b;(zbO more e (p.mono k))⟩
theorem zeO.same{F:List Addr}{p:zrP}{h h':Heap}(x:zeO F p h)(e:∀b o,p.get? b=some o->h'.get? b=h.get? b)(k:∀c,zcS h c->zcS h' c):zeO F p h':=λb o ho=>by
 left;obtain⟨x1,o',x2,s⟩:=x b o ho;exact⟨λhb=>(e b o ho).trans (x1 hb),o',(e b o ho).trans x2,s.same k⟩
section
variable{S:St0}{sh:zai}{a:Act}
theorem zje{h h' base:Heap}{l:List Env}(f:h.FunFrames base l)(k:∀b∈l.filterMap (·.frame),h'.get? b=h.get? b):h'.FunFrames base l:=
 zfg f λb hb o e n=>⟨o,(k b hb).trans e,n⟩
theorem zkZ{h h' base:Heap}{L:Addr}{oL:Obj}(hL:h'.get? L=some oL)(hd:∀vs,oL.data≠.fields vs)(k:∀b,b≠L->h'.get? b=h.get? b){l:List Env}(f:h.FunFrames base l):h'.FunFrames base l:=
 zfg f λb hb o e n=>by
  by_cases q:b=L
  ·exact⟨oL,q▸hL,hd⟩
  ·exact⟨o,(k b q).trans e,n⟩
theorem Act.Fits.notL(f:a.Fits S sh){b:Addr}(hb:b∈a.F):b≠a.L:=λe=>by
 have:=f.outer b hb;rw[e,f.noh₀]at this;exact zaD this
theorem zeE.same{h h':Heap}{X X':Addr->Prop}(k:∀b o vs,h.get? b=some o->¬X b->o.cls≠.none->o.data=.fields vs->h'.get? b=some o)(kX:∀b,(h.get? b).isSome=true->X' b->X b):∀{v},zeE h X v->zeE h' X' v
 |v,x=>by
  induction x with
  |nil=>exact .nil
  |cons z1 z2 zc z3 z4 _ ih=>exact .cons (k _ _ _ z1 z2 zc z3) (λq=>z2 (kX _ (by rw[z1];rfl) q)) zc z3 z4 ih
theorem Rel.goesL(f:a.Fits S sh){X X':Addr->Prop}{ow ow':Nat->Option Addr}{st:Sl}{s:Shared}(R:Rel S sh a X ow st s){h':Heap}(hsb:Heap.SameBut a.L s.heap h')(hP:∀b,(s.heap.get? b).isSome=true->Pv a X' ow' b->Pv a X ow b):zfi S s.heap h' (Pv a X ow) (Pv a X' ow'):=by
 refine za1 R.slots λm hn _=>?_;exact⟨λb o e q=>(hsb.2 b λz=>q (.inr (.inl z))).trans e,λb o e1 e2=>(hsb.2 b λz=>by rw[z,f.nobase]at e1;exact zad e1).trans e2,λb o vs n e c d=>⟨o,(hsb.2 b λz=>by
   refine zra hn λo' es ep w1 w2 _=>?_;rw[z,w1]at e;left;cases e;rw[w2]at d;cases d).trans e,rfl,rfl⟩,hP,λb o e c=>⟨o,(hsb.2 b λz=>by
   refine zra hn λo' es ep w1 w2 _=>?_;rw[z,w1]at e;left;cases e;rcases c with⟨_,vs,d⟩|⟨fd,d⟩<;>(rw[w2]at d;cases d)).trans e,rfl,rfl⟩⟩
theorem Rel.setH(f:a.Fits S sh){X X':Addr->Prop}{ow ow':Nat->Option Addr}{st:Sl}{s:Shared}(R:Rel S sh a X ow st s){i:Nat}{y:Str}{u:Option Value}{sl:Slot}{m:Str->Option Value}(hn:s.heap.Ns a.L m)(hL:zy7 S sh s.heap (Pv a X ow) ow (a.ov m) st)(hi:sh.names[i]?=some y)
  (ho:∀j,j≠i->ow' j=ow j)(hP:∀b,(s.heap.get? b).isSome=true->Pv a X' ow' b->Pv a X ow b){h':Heap}{tk:Nat}(hn':h'.Ns a.L (λx=>if x=y then u else m x))(hsb:Heap.SameBut a.L s.heap h')
  (hs:∀h',zfi S s.heap h' (Pv a X ow) (Pv a X' ow')->Heap.SameBut a.L s.heap h'->zfT S h' (Pv a X' ow') u (ow' i) sl)
  (hown:∀b,ow' i=some b->a.h₀.get? b=none∧b≠a.L∧∀j,ow j≠some b)(hX:∀j b,ow' j=some b->¬X' b)(hXh:∀b,(s.heap.get? b).isSome=true->X' b->X b):Rel S sh a X' ow' (st.set i sl) {s with heap:=h',toks:=tk}:=by
 have G:zfi S s.heap h' (Pv a X ow) (Pv a X' ow'):=R.goesL f hsb hP;refine zbP hL λhl hsl=>?_;have hcode:∀c o,s.heap.get? c=some o->o.cls=.type "code"->(∃vs,o.data=.fields vs)->∃o',h'.get? c=some o'∧o'.cls=o.cls∧o'.data=o.data:=λc o e _ ⟨vs,d⟩=>⟨o,(hsb.2 c λz=>by
   refine zra hn λo' es ep w1 w2 _=>?_;rw[z,w1]at e;left;cases e;rw[w2]at d;cases d).trans e,rfl,rfl⟩
 refine⟨(zf8 _ hn' (List.length_set.trans hl) (λj x sl' hj hsl'=>?_)),?_,?_,λj b e=>?_,λj j' b e e'=>?_,R.gens,R.os,λv hv=>?_,?_⟩
 ·by_cases e:j=i
  ·subst e
   rw[zai.all_of hi]at hj;cases hj;have hlt:j<st.length:=by
    have:=(yo.mp hsl').1;rwa[List.length_set]at this
   rw[List.getElem?_set_self hlt]at hsl';cases hsl';rw[f.ovn (List.mem_of_getElem? hi)];show zfT S h' (Pv a X' ow') (if y=y then u else m y) (ow' j) sl;rw[if_pos rfl];exact hs h' G hsb
  ·rw[List.getElem?_set_ne (Ne.symm e)]at hsl'
   have hne:x≠y:=λz=>by
    subst z;have hj':=(yo.mp hj);have hi':=(yo.mp (zai.all_of hi));obtain⟨j1,j2⟩:=hj';obtain⟨i1,i2⟩:=hi';exact e ((List.getElem_inj f.nodup).mp (j2.trans i2.symm))
   rw[zzq hne];have:=hsl j x sl' hj hsl';rw[ho j e]
   induction sl' with
   |unb=>exact this
   |val d=>obtain⟨h1,w,h2,h3⟩:=this;exact⟨h1,w,h2,h3.goes G⟩
   |own ds=>
    obtain⟨b,o,vs,n,h1,h2,h3,h4,h5,h6,h7⟩:=this;exact⟨b,o,vs,n,h1,h2,(hsb.2 b (R.own j b h1).2.2.2).trans h3,h4,h5,h6.goes G,h7⟩
   |cel o=>
    obtain⟨b,o,w,h1,h2,h3,h4,h5⟩:=this;exact⟨b,o,w,h1,h2,(hsb.2 b (R.own j b h1).2.2.2).trans h3,h4,h5.goes G⟩
 ·exact R.keep.same (λb o e=>hsb.2 b λz=>by rw[z,f.noh₀]at e;exact zad e) λc=>zcS.same hcode
 ·refine zra hn' λo' es ep z1 z2 _=>?_
  exact zkZ z1 (λvs z=>nomatch z2.symm.trans z) hsb.2 R.frames
 ·left
  by_cases q:j=i
  ·left
   subst q;refine zmO (hown b e) λz1 z2 _=>?_;exact⟨(yo.mp (zai.all_of hi)).1,z1,hX j b e,z2⟩
  ·refine zvH (R.own j b (ho j q▸e)) λz1 z2 _ z4=>?_
   exact⟨z1,z2,hX j b e,z4⟩
 ·by_cases q:j=i
  ·by_cases q':j'=i
   ·exact q.trans q'.symm
   ·subst q
    exact absurd (ho j' q'▸e') ((hown b e).2.2 j')
  ·by_cases q':j'=i
   ·subst q'
    exact absurd (ho j q▸e) ((hown b e').2.2 j)
   ·exact R.inj j j' b (ho j q▸e) (ho j' q'▸e')
 ·exact(R.hands v hv).same (λb o vs e _ _ d=>(hsb.2 b λz=>by
   refine zra hn λo' es ep w1 w2 _=>?_;rw[z,w1]at e;left;cases e;rw[w2]at d;cases d).trans e) hXh
 ·exact R.tab.same (hsb.2 _ (f.tab▸f.notL yp)) hcode
theorem Rel.put(f:a.Fits S sh){X X':Addr->Prop}{ow ow':Nat->Option Addr}{st:Sl}{s:Shared}(R:Rel S sh a X ow st s){i:Nat}{y:Str}{v:Value}{sl:Slot}(hi:sh.names[i]?=some y)
  (ho:∀j,j≠i->ow' j=ow j)(hP:∀b,(s.heap.get? b).isSome=true->Pv a X' ow' b->Pv a X ow b)(hs:∀h',zfi S s.heap h' (Pv a X ow) (Pv a X' ow')->Heap.SameBut a.L s.heap h'->zfT S h' (Pv a X' ow') (some v) (ow' i) sl)
  (hown:∀b,ow' i=some b->a.h₀.get? b=none∧b≠a.L∧∀j,ow j≠some b)(hX:∀j b,ow' j=some b->¬X' b)(hXh:∀b,(s.heap.get? b).isSome=true->X' b->X b)
  {Q:Unit->Shared->Prop}{E:Value->Shared->Prop}{A:Around}(k:∀s',Rel S sh a X' ow' (st.set i sl) s'->zfi S s.heap s'.heap (Pv a X ow) (Pv a X' ow')->Q () s'):wpAny (model S.prog S.w) A (storeName a.env y v) Q E s:=by
 refine za1 R.slots λm hn hL=>?_;have hm:y∈sh.names:=yw hi;have hk:a.env.kindOf y=some .local:=by unfold Env.kindOf;exact f.scope▸(f.loc y hm)
 refine wpAny_storeName_local hk (f.locals▸hn) (λh' hn' hsb=>?_) (by rw[f.scope,f.kind];rfl);rw[f.locals]at hn' hsb;exact k _ (R.setH f hn hL hi ho hP hn' hsb hs hown hX hXh) (R.goesL f hsb hP)
end
section
variable{S:St0}{sh:zai}{a:Act}
noncomputable def zqt:Res->Slot
 |.pl d=>.val d
 |.fr ds=>.own ds
 |.bo _ ds=>.val (.lst ds)
noncomputable def zyz(i:Nat)(r:Res)(st:Sl):Sl:=(r.seal st).set i (zqt r)
theorem ze4(f:a.Fits S sh){X:Addr->Prop}{ow:Nat->Option Addr}{st:Sl}{s:Shared}(R:Rel S sh a X ow st s){i:Nat}{y:Str}{v:Value}{d:D}(hi:sh.names[i]?=some y)(x:zcj S s.heap (Pv a X ow) v d)
  {Q:Unit->Shared->Prop}{E:Value->Shared->Prop}{A:Around}(k:∀s',Rel S sh a X (λj=>if j=i then none else ow j) (st.set i (.val d)) s'->zfi S s.heap s'.heap (Pv a X ow) (Pv a X (λj=>if j=i then none else ow j))->Q () s') :
  wpAny (model S.prog S.w) A (storeName a.env y v) Q E s:=by
 have hle:∀b,Pv a X (λj=>if j=i then none else ow j) b->Pv a X ow b:=λb q=>by
  rcases q with q|q|q|⟨j,q⟩
  ·exact .inl q
  ·exact .inr (.inl q)
  ·exact .inr (.inr (.inl q))
  ·by_cases e:j=i
   ·simp[e]at q
   ·simp[e]at q;exact .inr (.inr (.inr ⟨j,q⟩))
 refine Rel.put f R (v:=v) (sl:=.val d) hi (λj hj=>if_neg hj) (λb _ q=>hle b q) (λh' G _=>⟨if_pos rfl,v,rfl,x.goes G⟩) (λb e=>by simp at e) (λj b e q=>?_) (λb _ q=>q) k;by_cases e':j=i
 ·simp[e']at e
 ·simp[e']at e
  exact(R.own j b e).2.2.1 q
theorem zld(f:a.Fits S sh){ow:Nat->Option Addr}{st st₁:Sl}{s s₁:Shared}(R:Rel S sh a noX ow st s)(K:Step a st st₁ s s₁){i:Nat}{y:Str}{v:Value}{r:Res}(hi:sh.names[i]?=some y)(x:zg8 S a (restr ow st₁) st₁ s.heap s₁.heap v r)
  {Q:Unit->Shared->Prop}{E:Value->Shared->Prop}{A:Around}(k:∀s' ow',Rel S sh a noX ow' (zyz i r st₁) s'->Q () s'):wpAny (model S.prog S.w) A (storeName a.env y v) Q E s₁:=by
 have pl:∀(r:Res),zg8 S a (restr ow st₁) st₁ s.heap s₁.heap v r->zqt r=.val r.d->(∀s' ow',Rel S sh a noX ow' (zyz i r st₁) s'->Q () s')->wpAny (model S.prog S.w) A (storeName a.env y v) Q E s₁:=λr x e k=>by
  refine zbP (zf3 f R K x) λK' hv=>?_;refine ze4 f (R.step f K') hi hv λs' R' _=>k s' (λj=>if j=i then none else restr ow (r.seal st₁) j) ?_;unfold zyz;exact e▸R'
 left
 induction r with
 |pl d=>exact pl _ x rfl k
 |bo j ds=>exact pl _ x rfl k
 |fr ds=>
  clear pl;obtain⟨b,o,vs,n,rfl,h0,h1,h2,h3,h4,h5⟩:=x;have R1:=R.stepX f K (X':=λc=>c=b) λc hc q=>by rw[q,h0]at hc;exact zaD hc
  have hbL:b≠a.L:=λz=>by
   obtain⟨m,⟨o,_,_,ho,_⟩,_⟩:=R.slots;rw[←z,h0]at ho;exact zad ho
  have hno:∀j,restr ow st₁ j≠some b:=λj q=>by
   have:=R.own_there (zbt q);rw[h0]at this;exact zaD this
  have hle:∀c,Pv a noX (λj=>if j=i then some b else restr ow st₁ j) c->Pv a (λc=>c=b) (restr ow st₁) c:=λc q=>by
   rcases q with q|q|q|⟨j,q⟩
   ·exact .inl q
   ·exact .inr (.inl q)
   ·exact q.elim
   ·by_cases e:j=i
    ·simp[e]at q;exact .inr (.inr (.inl q.symm))
    ·simp[e]at q;exact .inr (.inr (.inr ⟨j,q⟩))
  refine Rel.put f R1 (X':=noX) (ow':=λj=>if j=i then some b else restr ow st₁ j) (sl:=.own ds) hi (λj hj=>if_neg hj) (λc _ q=>hle c q) (λh' G hsb=>⟨b,o,vs,n,if_pos rfl,rfl,(hsb.2 b hbL).trans h1,h2,h3,h4.goes G,h5⟩) (λc e=>?_) (λ_ _ _ q=>q) (λ_ _ q=>q.elim) λs' R' _=>k s' _ R';simp at e;subst e;exact⟨R.keep.new h0,hbL,hno⟩
theorem zcJ(f:a.Fits S sh){ow:Nat->Option Addr}{st:Sl}{s:Shared}{X:Err->Sl->Prop}(R:Rel S sh a noX ow st s){ev:Value}{s':Shared}(x:zfN S a st s X ev s'):zi2 S sh a X ev s':=by
 left;obtain⟨x,st',h1,h2,e,T,rfl,h4,h5,h6⟩:=x;refine⟨x,restr ow st',st',e,T,h1,R.stepX f h2 λb hb q=>?_,rfl,R.keep.new h4,λb hb=>R.keep.new (h5 b hb),h6⟩;rcases q with q|q
 ·rw[q,h4]at hb;exact zaD hb
 ·rw[h5 b q]at hb;exact zaD hb
@[reducible]noncomputable def zay(i:Nat)(c:PE):PS:=λQ X st=>c (λr st₁=>Q .next (zyz i r st₁)) X st
theorem zax{i:Nat}{x:Str}{p' value pos}{c:PE}(hi:sh.names[i]?=some x)(H:zat S sh value c)(hs:∀env,swapsWith value (some (.Name x p')) pos.line env=pure false:=by intro;rfl) :
  zba S sh (.Assign [.Name x p'] value pos) (zay i c):=λa ow st s Q X g R q=>by
 have f:=g.f;refine wpAny_Assign_Name (yr (H a ow st s _ X f R q) (λv s₁ h=>?_) λ_ _ x=>zcJ f R x) (hs _);left;obtain⟨r,st₁,h1,h2,h3⟩:=h;exact zld f R h2 hi h3 λs' ow' R'=>⟨.next,ow',_,h1,R',trivial⟩
@[reducible]noncomputable def zbT(c:PE):PS:=λQ X st=>c (λr st₁=>Q (.ret r.d) (r.seal st₁)) X st
theorem zrA{n:Nat}{e pos}{c:PE}(H:zdI n S sh e c):ziB n S sh (.Return (some e) pos) (zbT c):=λa ow st s Q X hn g R q=>by
 have f:=g.f;refine wpAny_Return_some (yr (H a ow st s _ X hn f R q) (λv s₁ h=>?_) λ_ _ x=>zcJ f R x);left;obtain⟨r,st₁,h1,h2,h3⟩:=h;refine zbP (zf3 f R h2 h3) λK hv=>?_;exact⟨_,_,_,h1,R.step f K,hv,λz=>let ⟨e,e1,e2⟩:=h3.new z;(zbO e e1 (R.keep.new e2))⟩
theorem zbD{e pos}{c:PE}(H:zat S sh e c):zba S sh (.Return (some e) pos) (zbT c):=(zrA H.t).s
theorem zvx{pos}:zba S sh (.Pass pos) λQ _ st=>Q .next st:=λa ow st s Q X f R q=>wpAny_Pass ⟨.next,ow,st,q,R,trivial⟩
theorem zwT{pos}:zba S sh (.Continue pos) λQ _ st=>Q .cont st:=λa ow st s Q X f R q=>yk (yT (yn ⟨.cont,ow,st,q,R,trivial⟩))
@[reducible]noncomputable def zeR(t:PT)(c₁ c₂:PS):PS:=λQ X st=>t (λb st₁=>ifB b (c₁ Q X st₁) (c₂ Q X st₁)) X st
theorem zpQ{n:Nat}{t:Expr}{b o:List Stmt}{pos}{ct:PT}{cb co:PS}(Ht:zqa n S sh t ct)(Hb:zc2 n S sh b cb)(Ho:zc2 n S sh o co):ziB n S sh (.If t b o pos) (zeR ct cb co):=λa ow st s Q X hn g R q=>by
 have f:=g.f;refine wpAny_If (yr (wpAny_toks_of hn (Ht a ow st s _ X hn f R q)) (λc s₁ h=>?_) λ_ _ x=>zcJ f R x.2);refine za1 h.2 λst₁ h1 h2=>?_
 induction c with
 |true=>exact Hb a _ st₁ s₁ Q X h.1 g (R.step f h2) (zhm h1)
 |false=>exact Ho a _ st₁ s₁ Q X h.1 g (R.step f h2) (zht h1)
theorem zde{t:Expr}{b o:List Stmt}{pos}{ct:PT}{cb co:PS}(Ht:zdp S sh t ct)(Hb:zaV S sh b cb)(Ho:zaV S sh o co):zba S sh (.If t b o pos) (zeR ct cb co):=(zpQ Ht.t Hb.t Ho.t).s
@[reducible]noncomputable def sqK(c₂:PS)(Q:Fl->Sl->Prop)(X:Err->Sl->Prop):Fl->Sl->Prop:=λfl st₁=>match fl with
 |.next=>c₂ Q X st₁
 |.brk=>Q .brk st₁
 |.cont=>Q .cont st₁
 |.ret d=>Q (.ret d) st₁
@[reducible]noncomputable def zaf(c₁ c₂:PS):PS:=λQ X st=>c₁ (sqK c₂ Q X) X st
theorem zwU:zaV S sh [] λQ _ st=>Q .next st:=λa ow st s Q X f R q=>wpAny_execs_nil ⟨.next,ow,st,q,R,trivial⟩
theorem zaW{n:Nat}{t:Stmt}{ts:List Stmt}{c cs:PS}(H:ziB n S sh t c)(Hs:zc2 n S sh ts cs):zc2 n S sh (t::ts) (zaf c cs):=λa ow st s Q X hn g R q=>by
 refine wpAny_execs_cons (yr (wpAny_toks_of hn (H a ow st s _ X hn g R q)) (λfl s₁ h=>?_) λ_ _ x=>x.2);left;obtain⟨hn',fl',ow',st',h1,h2,h3⟩:=h
 induction fl<;>induction fl'<;>first|exact h3.elim|exact Hs a ow' st' s₁ Q X hn' g h2 h1|exact⟨_,ow',st',h1,h2,h3⟩
theorem zac{t:Stmt}{ts:List Stmt}{c cs:PS}(H:zba S sh t c)(Hs:zaV S sh ts cs):zaV S sh (t::ts) (zaf c cs):=(zaW H.t Hs.t).s
end
noncomputable def zpe(F:List Addr)(G:Addr->Prop)(h h':Heap):Prop:=∀b o,h.get? b=some o->¬G b->(b∉F->h'.get? b=some o)∧∃o',h'.get? b=some o'∧zoU h' o o'
theorem zdQ.toG{F:List Addr}{G:Addr->Prop}{h h':Heap}(k:zdQ F h h'):zpe F G h h':=λb o e _=>k b o e
theorem zpe.of_but{F:List Addr}{G:Addr->Prop}{h h':Heap}(k:∀b o,h.get? b=some o->¬G b->h'.get? b=some o):zpe F G h h':=λb o e n=>⟨λ_=>k b o e n,o,k b o e n,.refl _ _⟩
theorem zeO.transG{F:List Addr}{L:Addr}{G:Addr->Prop}{p:zrP}{h2 h3:Heap}(x:zeO F p h2)(y:zpe (L::F) G h2 h3)(n:p.get? L=none)(g:∀b o,p.get? b=some o->¬G b)(kc:∀c,zcS h2 c->zcS h3 c):zeO F p h3:=λb o e=>by
 left;obtain⟨x1,o',x2,s⟩:=x b o e;obtain⟨_,o'',y2,t⟩:=y b _ x2 (g b o e);refine⟨λhb=>(y b o (x1 hb) (g b o e)).1 λq=>?_,o'',y2,zoU.trans (zdQ.refl [] h3) (s.same kc) t⟩;rcases yx.mp q with q|q
 ·rw[q,n]at e;exact zad e
 ·exact hb q
section
variable{S:St0}{sh:zai}{a:Act}
theorem Rel.moveG(f:a.Fits S sh){X X' G:Addr->Prop}{ow:Nat->Option Addr}{st:Sl}{s s':Shared}(R:Rel S sh a X ow st s)(k:zpe (a.L::a.F) G s.heap s'.heap)(hg:s'.gens=s.gens)(ho:s'.os=s.os)
  (hG:∀b,G b->X b)(hG0:∀b,G b->a.h₀.get? b=none)(hGF:∀b,G b->b∉a.L::a.F)(hGd:∀b o,G b->s.heap.get? b=some o->∃vs,o.data=.fields vs)(hX:∀b,(s.heap.get? b).isSome=true->X' b->X b)(hGc:∀b o,G b->s.heap.get? b=some o->o.cls≠.type "code"):Rel S sh a X' ow st s':=by
 refine zcN R.slots λm hn hl hs=>?_;have hP:∀b,(s.heap.get? b).isSome=true->Pv a X' ow b->Pv a X ow b:=λb hb q=>by
  rcases q with q|q|q|q
  ·exact .inl q
  ·exact .inr (.inl q)
  ·exact .inr (.inr (.inl (hX b hb q)))
  ·exact .inr (.inr (.inr q))
 have nob:=R.nob f;have GP:∀b,¬Pv a X ow b->¬G b:=λb n q=>n (.inr (.inr (.inl (hG b q))));have weak:∀b o,s.heap.get? b=some o->¬G b->¬ziN o->∃o',s'.heap.get? b=some o'∧o'.cls=o.cls∧o'.data=o.data:=λb o e n nt=>let ⟨_,o',q,t,_⟩:=k b o e n;let ⟨sl,e⟩:=t nt;(zf8 o' q (by rw[e]) (by rw[e]))
 have weakD:∀b o,s.heap.get? b=some o->¬G b->¬ziN o->∃o',s'.heap.get? b=some o'∧o'.cls=o.cls∧o'.data=o.data∧o'.dict=o.dict:=λb o e n nt=>let ⟨_,o',q,t,_⟩:=k b o e n;let ⟨sl,e⟩:=t nt;(zwj o' q (by rw[e]) (by rw[e]) (by rw[e]))
 have kc:∀c,zcS s.heap c->zcS s'.heap c:=λc=>zcS.same λc o e hc _=>weak c o e (λq=>hGc c o q e hc) (zaL hc);have hbase:∀b o,S.base.get? b=some o->¬G b:=λb o e q=>by
  have:=f.stays b o e;rw[hG0 b q]at this;exact zad this
 have GS:zfi S s.heap s'.heap (Pv a X ow) (Pv a X' ow):=⟨λb o e n=>(k b o e (GP b n)).1 λq=>n (f.inP b q),λb o e1 e2=>(k b o e2 (hbase b o e1)).1 λq=>(by rw[(nob b q).1]at e1;exact zad e1),λb o vs n e c d=>weak b o e (λq=>by obtain⟨ws,z⟩:=hGd b o q e;rw[d]at z;cases z) (zaL c),hP,λb o e c=>weak b o e (λq=>by
   rcases c with⟨c,_⟩|⟨fd,c⟩
   ·exact hGc b o q e c
   ·obtain⟨ws,z⟩:=hGd b o q e;rw[c]at z;cases z) (zfS c)⟩
 have hfr:∀b∈a.L::a.F,¬G b:=λb hb q=>hGF b q hb;refine⟨(zf8 m ?_ hl (λi y sl hi hsl=>?_)),R.keep.transG k f.noh₀ (λb o e q=>by rw[hG0 b q]at e;exact zad e) kc,?_,λi b h=>?_,R.inj,hg.trans R.gens,ho.trans R.os,λv hv=>(R.hands v hv).same (λb o vs e nX hc d=>?_) hX,?_⟩
 ·refine zra hn λo es ep h1 h2 h3=>?_
  refine zcN (weak a.L o h1 (hfr _ yp) (zcU λvs e=>by cases h2.symm.trans e)) λo' q1 _ q2=>?_;exact zxL o' es ep q1 (q2.trans h2) h3
 ·have:=hs i y sl hi hsl
  clear hsl
  induction sl with
  |unb=>exact this
  |val d=>obtain⟨h1,w,h2,h3⟩:=this;exact⟨h1,w,h2,h3.goes GS⟩
  |own ds=>
   left;obtain⟨b,o,vs,n,h1,h2,h3,h4,h5,h6,h7⟩:=this;refine zu8 (weakD b o h3 (λq=>(R.own i b h1).2.2.1 (hG b q)) (zaL h4)) λo' q1 q2 q3 q4=>?_;exact⟨b,o',vs,n,h1,h2,q1,q2.trans h4,q3.trans h5,h6.goes GS,q4.trans h7⟩
  |cel d=>
   left;obtain⟨b,o,w,h1,h2,h3,h4,h5⟩:=this;refine zcN (weak b o h3 (λq=>(R.own i b h1).2.2.1 (hG b q)) (zh9 h4)) λo' q1 _ q3=>?_;exact⟨b,o',w,h1,h2,q1,q3.trans h4,h5.goes GS⟩
 ·exact zfg R.frames λb hb o e n=>by
   refine zcN (weak b o e (hfr b (f.LFsub b hb)) (zcU n)) λo' q1 _ q2=>?_;exact zbO o' q1 (λvs=>q2▸n vs)
 ·refine zvH (R.own i b h) λh1 h2 h3 h4=>?_
  exact⟨h1,h2,λq=>h3 (hX b (R.own_there h) q),h4⟩
 ·have hb:b∉a.L::a.F:=λq=>(nob b q).2 o vs e hc d
  exact(k b o e λq=>nX (hG b q)).1 hb
 ·refine za1 R.tab λps h1 h2=>?_
  have nG:¬G S.tab:=λq=>hGF _ q (f.tab▸ym _ yp);left;obtain⟨_,o',k1,_,k2⟩:=k _ _ h1 nG;refine za1 (k2 ps rfl rfl) λmore hzz k3=>?_;subst hzz;exact zbO (ps++more) k1 (by rw[Array.toList_append];exact zk2.append k3 (h2.mono kc))
structure Fly(S:St0)(sh:zai)(a:Act)(ow:Nat->Option Addr)(st:Sl)(e:Addr)(T:Option Addr)(x:Err)(s:Shared):Prop where
 rel:Rel S sh a (zjm e T) ow st s
 newE:a.h₀.get? e=none
 newT:∀b,T=some b->a.h₀.get? b=none
 obj:zjD S s.heap a.L e T x
theorem Fly.err{X:Err->Sl->Prop}{ow:Nat->Option Addr}{st:Sl}{e:Addr}{T:Option Addr}{x:Err}{s:Shared}(F:Fly S sh a ow st e T x s)(q:X x st):zi2 S sh a X (.ref e) s:=
 ⟨x,ow,st,e,T,q,F.rel,rfl,F.newE,F.newT,F.obj⟩
theorem zi2.fly{X:Err->Sl->Prop}{ev:Value}{s:Shared}(q:zi2 S sh a X ev s):∃x ow st e T,X x st∧ev=.ref e∧Fly S sh a ow st e T x s:=by
 left;obtain⟨x,ow,st,e,T,h1,h2,h3,h4,h5,h6⟩:=q;exact⟨x,ow,st,e,T,h1,h3,h2,h4,h5,h6⟩
theorem Fly.off{ow:Nat->Option Addr}{st:Sl}{e:Addr}{T:Option Addr}{x:Err}{s:Shared}(f:a.Fits S sh)(F:Fly S sh a ow st e T x s):∀b,zjm e T b->b∉a.L::a.F:=λb hb hm=>by
 have nob:=(F.rel.nob f b hm).2;obtain⟨oe,vs,tp,c,h1,h2,h3,h4,h5,h6,h7,h10⟩:=F.obj.obj;clear F;rcases hb with rfl|hb
 ·exact nob oe vs h1 (h2▸(S.cls_ne x.1).1) h3
 ·left
  subst hb;obtain⟨_,_,oT,ts,fl,q1,qc,q2,_⟩:=h10;exact nob oT ts q1 (by rw[qc];simp) q2
theorem zgN(f:a.Fits S sh){ow:Nat->Option Addr}{st:Sl}{e:Addr}{T:Option Addr}{x:Err}{s:Shared}(F:Fly S sh a ow st e T x s){fr:Option Addr}(hfr:fr=none∨fr=some a.L)
  {Q:Unit->Shared->Prop}{E:Value->Shared->Prop}{A:Around}(k:∀s',Fly S sh a ow st e T x s'->(fr=none->∀L',zjD S s'.heap L' e T x)->Q () s'):wpAny (model S.prog S.w) A (setFlight (.ref e) fr) Q E s:=by
 obtain⟨oe,vs,tp,c,h1,h2,h3,h4,h5,h6,h7,h10⟩:=F.obj.obj;unfold setFlight;left
 induction T with
 |none=>
  refine yk (wpAny_field h1 h3 h10 ?_);refine zbW (by decide) ?_;exact yn (k s F λ_ L'=>⟨⟨oe,vs,tp,c,h1,h2,h3,h4,h5,h6,h7,h10⟩⟩)
 |some b=>
  obtain⟨q1,q2,oT,ts,fl,q3,qc,q4,q5,q6⟩:=h10;have hsz:3<ts.size:=(Array.getElem?_eq_some_iff.mp q5).1;refine yk (wpAny_field h1 h3 q1 ?_);refine zdu (show(Value.ref b != Value.none)=true from rfl) ?_;refine wpAny_setField q3 q4 hsz ?_;have other:∀c,c≠b->(s.heap.update b (Obj.mapFields (·.setIfInBounds 3 (fr.elim Value.none λf=>rawInt f)))).get? c=s.heap.get? c:=λc hc=>xf _ _ (Ne.symm hc);have self:=xe (Obj.mapFields (·.setIfInBounds 3 (fr.elim Value.none λf=>rawInt f))) q3 (Obj.isFreed_of_fields (Obj.data_mapFields q4 _));have hR:Rel S sh a (zjm e (some b)) ow st {s with heap:=s.heap.update b (Obj.mapFields (·.setIfInBounds 3 (fr.elim Value.none λf=>rawInt f)))}:=
   F.rel.moveG f (G:=λc=>c=b) (.of_but λc o e n=>(other c n).trans e) rfl rfl (λc q=>.inr (by rw[q])) (λc q=>q▸F.newT b rfl) (λc q=>q▸F.off f b (.inr rfl)) (λc o q e=>by subst q;rw[q3]at e;obtain rfl:=yi e;exact⟨_,q4⟩) (λ_ _ q=>q) (λc o q e z=>by subst q;rw[q3]at e;obtain rfl:=yi e;rw[qc]at z;simp at z)
  have hO:∀L':Addr,((fr.elim Value.none λf=>rawInt f)=.none∨(fr.elim Value.none λf=>rawInt f)=rawInt L')->zjD S (s.heap.update b (Obj.mapFields (·.setIfInBounds 3 (fr.elim Value.none λf=>rawInt f)))) L' e (some b) x:=λL' hL=>by
   refine⟨⟨oe,vs,tp,c,(other e (Ne.symm q2)).trans h1,h2,h3,h4,h5,h6.same (λd o vs h n _ _=>(other d λz=>n (.inr (by rw[z]))).trans h) (λ_ _ q=>q),h7.mono (λt o ws n e _ d=>(zf8 o ((other t λz=>?_).trans e) rfl rfl)),q1,q2,_,_,_,self,(Obj.cls_mapFields _ _).trans qc,Obj.data_mapFields q4 _,by simp[hsz],hL⟩⟩;obtain rfl:=z.symm;rw[q3]at e;obtain rfl:=yi e;cases q4.symm.trans d
  refine k _ ⟨hR,F.newE,F.newT,hO a.L ?_⟩ λz L'=>hO L' ?_
  ·clear hO hR self other k
   rcases hfr with rfl|rfl
   ·exact .inl rfl
   ·exact .inr rfl
  ·clear hO hR self other G k hfr
   subst z;exact .inl rfl
end
section
variable{S:St0}{sh:zai}{a:Act}
theorem zml(g:a.FitsS S sh){ow:Nat->Option Addr}{st:Sl}{e:Addr}{T:Option Addr}{x:Err}{s:Shared}(F:Fly S sh a ow st e T x s){head:Value}{hadNext:Bool}
  {Q:Unit->Shared->Prop}{E:Value->Shared->Prop}{A:Around}(hA:A.frames=some (a.env::a.outer))(k:∀T' s',Fly S sh a ow st e (some T') x s'->Q () s') :
  wpAny (model S.prog S.w) A (do let fo ←frameOf a.env;let pl ←entryPlaceOf a.L hadNext;let b ←EntryCells.newEntry head fo .none (rawInt a.L) .none pl;setField (.ref e) 1 b) Q E s:=by
 have f:=g.f;left;obtain⟨oe,vs,tp,c,h1,h2,h3,h4,h5,h6,h7,h10⟩:=F.obj.obj;have hsz:1<vs.size:=by
  clear F
  induction T with
  |none=>exact(Array.getElem?_eq_some_iff.mp h10).1
  |some b=>exact(Array.getElem?_eq_some_iff.mp h10.1).1
 have hsz2:2<vs.size:=(Array.getElem?_eq_some_iff.mp h5).1;refine yk (wpAny_frameOf_fun hA (g.fr▸F.rel.frames) g.frame λh1a hs1=>?_);refine yk (wpAny_entryPlaceOf λpl hpl=>?_);unfold EntryCells.newEntry newFields;refine yk (wpAny_newObj_type ?_ (hpl.sizeOk5 _ _ _ _ _));have heF:e∉a.L::a.F:=F.off f e (.inl rfl);have he1:h1a.get? e=some oe:=(hs1.2.1 e λq=>heF (g.sub e q)).trans h1;generalize hnew:({cls:=.type "traceback",dict:=none,data:=.fields ([head,.ref a.L,.none,rawInt a.L,.none]++(if pl.isEmpty then List.replicate 6 Value.none else pl)).toArray}:Obj)=oT;have hTd:oT.data=.fields ([head,.ref a.L,.none,rawInt a.L,.none]++(if pl.isEmpty then List.replicate 6 Value.none else pl)).toArray:=ya _ hnew.symm;have hTf:oT.isFreed=false:=Obj.isFreed_of_fields hTd;have he2:=yB (h:=h1a) oT he1;refine wpAny_setField he2 h3 hsz ?_;have hTe:h1a.objs.size≠e:=Nat.ne_of_gt (Heap.lt_size he1);have hd3:=Obj.data_mapFields h3 (·.setIfInBounds 1 (Value.ref h1a.objs.size));have he3:=xe (Obj.mapFields (·.setIfInBounds 1 (Value.ref h1a.objs.size))) he2 (Obj.isFreed_of_fields hd3);have keep:∀b o,b≠e->h1a.get? b=some o->((h1a.push oT).update e (Obj.mapFields (·.setIfInBounds 1 (Value.ref h1a.objs.size)))).get? b=some o:=λb o hbe hb=>by
  rw[Heap.get?_update_other _ _ (Ne.symm hbe)];exact yB _ hb
 have hT3:((h1a.push oT).update e (Obj.mapFields (·.setIfInBounds 1 (Value.ref h1a.objs.size)))).get? h1a.objs.size=some oT:=by
  rw[Heap.get?_update_other _ _ (Ne.symm hTe)];exact yF h1a hTf
 have hTnew:s.heap.get? h1a.objs.size=none:=yP (hs1.1▸(yq _));have K:zpe (a.L::a.F) (λc=>c=e) s.heap ((h1a.push oT).update e (Obj.mapFields (·.setIfInBounds 1 (Value.ref h1a.objs.size)))):=λb o hb ne=>by
  refine⟨λhF=>keep b o ne ((hs1.2.1 b λq=>hF (g.sub b q)).trans hb),?_⟩;by_cases q:b∈(a.env::a.outer).filterMap (·.frame)
  ·left
   obtain⟨sl,hsl⟩:=hs1.2.2 b o hb;have nd:=(zeu (g.fr▸F.rel.frames) b q).2 o;exact⟨_,keep b _ ne hsl,λ_=>⟨sl,rfl⟩,λvs _ d=>absurd d (nd vs hb)⟩
  ·exact⟨o,keep b o ne ((hs1.2.1 b q).trans hb),.refl _ _⟩
 have hargs:=h7.mono (h':=(h1a.push oT).update e (Obj.mapFields (·.setIfInBounds 1 (Value.ref h1a.objs.size)))) λt o ws n ht hc hd=>by
  left;obtain⟨_,o',q,t1,_⟩:=K t o ht λz=>by
   rw[z,h1]at ht;obtain rfl:=yi ht;cases h3.symm.trans hd
  obtain⟨sl,rfl⟩:=t1 (zaL hc);exact zf8 _ q rfl rfl
 refine k h1a.objs.size _ ⟨F.rel.moveG f K rfl rfl (λb q=>.inl q) (λb q=>q▸F.newE) (λb q=>q▸heF) (λc o q e=>by subst q;rw[h1]at e;obtain rfl:=yi e;exact⟨_,h3⟩) (λb hb q=>?_) (λc o q e z=>by subst q;rw[h1]at e;obtain rfl:=yi e;exact(S.cls_ne x.1).2 (h2.symm.trans z)),F.newE,λb q=>?_,?_⟩
 ·rcases q with q|q
  ·exact .inl q
  ·injection q with q
   rw[←q,hTnew]at hb;exact zaD hb
 ·injection q with q
  subst q;cases z:a.h₀.get? h1a.objs.size with
  |none=>rfl
  |some oo=>have zz:=F.rel.keep.there z;rw[hTnew]at zz;exact zaD zz
 ·refine⟨_,_,tp,c,he3,(Obj.cls_mapFields _ _).trans h2,hd3,by rw[Array.getElem?_setIfInBounds_ne (by decide)];exact h4,by rw[Array.getElem?_setIfInBounds_ne (by decide)];exact h5,
   h6.same (λb oo ws hb nX hc hd=>?_) (λb hb q=>?_),hargs,by simp[hsz],hTe,oT,_,rawInt a.L,hT3,ya _ hnew.symm,hTd,rfl,.inr rfl⟩
  ·exact(K b oo hb λz=>nX (.inl z)).1 λz=>(F.rel.nob f b z).2 oo ws hb hc hd
  ·rcases q with q|q
   ·exact .inl q
   ·injection q with q
    rw[←q,hTnew]at hb;exact zaD hb
theorem zkf(g:a.FitsS S sh){ow:Nat->Option Addr}{st:Sl}{e:Addr}{T:Option Addr}{x:Err}{s:Shared}(F:Fly S sh a ow st e T x s)
  {Q:Unit->Shared->Prop}{E:Value->Shared->Prop}{A:Around}(hA:A.frames=some (a.env::a.outer))(k:∀T' s',Fly S sh a ow st e (some T') x s'->Q () s'):wpAny (model S.prog S.w) A (noteFrame (.ref e) a.env) Q E s:=by
 have f:=g.f;obtain⟨oe,vs,tp,c,h1,h2,h3,h4,h5,h6,h7,h10⟩:=F.obj.obj;unfold noteFrame;simp only[g.frame];left
 induction T with
 |none=>
  refine yk (wpAny_field h1 h3 h10 ?_);refine zbW (by decide) ?_;exact zml g F hA k
 |some b=>
  obtain⟨q1,q2,oT,ts,fl,q3,qc,q4,q5,q6⟩:=h10;have hsz:3<ts.size:=(Array.getElem?_eq_some_iff.mp q5).1;refine yk (wpAny_field h1 h3 q1 ?_);refine zdu (show(Value.ref b != Value.none)=true from rfl) ?_;refine yk (wpAny_field q3 q4 q5 ?_);clear q5;rcases q6 with rfl|rfl
  ·refine zbW (show ¬((Value.none==rawInt a.L)=true)from by simp[rawInt]) ?_
   -- the entry before is no more in flight
   have hst:setField (.ref b) 3 Value.none=setField (.ref b) 3 Value.none:=rfl;refine yk (wpAny_setField q3 q4 hsz ?_);have other:∀c,c≠b->(s.heap.update b (Obj.mapFields (·.setIfInBounds 3 Value.none))).get? c=s.heap.get? c:=λc hc=>xf _ _ (Ne.symm hc);have self:=xe (Obj.mapFields (·.setIfInBounds 3 Value.none)) q3 (Obj.isFreed_of_fields (Obj.data_mapFields q4 _));refine zml g (T:=some b) (s:={s with heap:=s.heap.update b (Obj.mapFields (·.setIfInBounds 3 Value.none))}) ⟨F.rel.moveG f (G:=λc=>c=b) (.of_but λc o e n=>(other c n).trans e) rfl rfl (λc q=>.inr (by rw[q])) (λc q=>q▸F.newT b rfl) (λc q=>q▸F.off f b (.inr rfl)) (λc o q e=>by subst q;rw[q3]at e;obtain rfl:=yi e;exact⟨_,q4⟩) (λ_ _ q=>q) (λc o q e z=>by subst q;rw[q3]at e;obtain rfl:=yi e;rw[qc]at z;simp at z),F.newE,F.newT,?_⟩ hA k;refine⟨oe,vs,tp,c,(other e (Ne.symm q2)).trans h1,h2,h3,h4,h5,h6.same (λd o vs h n _ _=>(other d λz=>n (.inr (by rw[z]))).trans h) (λ_ _ q=>q),h7.mono (λt o ws n e _ d=>(zf8 o ((other t λz=>?_).trans e) rfl rfl)),q1,q2,_,_,_,self,(Obj.cls_mapFields _ _).trans qc,Obj.data_mapFields q4 _,by simp[hsz],.inl rfl⟩;obtain rfl:=z.symm;rw[q3]at e;obtain rfl:=yi e;cases q4.symm.trans d
  ·refine zdu (show(rawInt a.L==rawInt a.L)=true from by simp) ?_
   exact yn (k b s F)
theorem zsM(g:a.FitsS S sh){A:Around}{X:Err->Sl->Prop}{ow:Nat->Option Addr}{st:Sl}{e b:Addr}{x:Err}{s:Shared}(F:Fly S sh a ow st e (some b) x s)(q:X x st):cameBackBy (model S.prog S.w) A a.env (zi2 S sh a X) (.ref e) s:=by
 obtain⟨oe,vs,tp,c,h1,h2,h3,h4,h5,h6,h7,q1,_⟩:=F.obj.obj;unfold cameBackBy;refine yk (wpAny_field h1 h3 q1 ?_);refine zbW (by simp) ?_;rw[g.frame];exact zgN g.f F (.inr rfl) λs' F' _=>F'.err q
theorem zc0(g:a.FitsS S sh){A A':Around}(hA:A.frames=some (a.env::a.outer)){X:Err->Sl->Prop}{ev:Value}{s:Shared}(q:zi2 S sh a X ev s):notedBy (model S.prog S.w) A a.env (cameBackBy (model S.prog S.w) A' a.env (zi2 S sh a X)) ev s:=by
 left;obtain⟨x,ow,st,e,T,h,rfl,F⟩:=q.fly;exact zkf g F hA λT' s' F'=>zsM g F' h
@[reducible]noncomputable def lpK(Q:Fl->Sl->Prop)(I:Sl->Prop):Fl->Sl->Prop:=λfl st₂=>match fl with
 |.next=>I st₂
 |.cont=>I st₂
 |.brk=>Q .next st₂
 |.ret d=>Q (.ret d) st₂
@[reducible]noncomputable def zyx(t:PT)(b:PS)(Q:Fl->Sl->Prop)(X:Err->Sl->Prop)(I:Sl->Prop):Sl->Prop:=t (λc st₁=>ifB c (b (lpK Q I) X st₁) (Q .next st₁)) X
@[irreducible]noncomputable def zdA(t:PT)(b:PS):PS:=λQ X st=>∃(n:Nat)(I:Nat->Sl->Prop),I n st∧∀n st,I n st->zyx t b Q X (λst'=>∃m,m<n∧I m st') st
theorem zfk{t:Expr}{b:List Stmt}{pos}{ct:PT}{cb:PS}(Ht:zdp S sh t ct)(Hb:zaV S sh b cb):zba S sh (.While t b [] pos) (zdA ct cb):=λa ow st s Q X g R q=>by
 have f:=g.f;unfold zdA at q;refine zfA q λn I h0 hI=>?_;refine wpAny_While (codeAny_whileLoop (λn s=>∃ow st,I n st∧Rel S sh a noX ow st s) (λn s hs=>?_) n (zlq ow st h0 R));refine zfA hs λow st h1 R=>?_;refine yr (Ht a ow st s _ X f R (hI n st h1)) (λc s₁ h=>?_) λ_ _ x=>zc0 g g.frames (zcJ f R x);refine za1 h λst₁ h2 h3=>?_;have R1:=R.step f h3
 induction c with
 |false=>exact wpAny_execs_nil ⟨.next,_,st₁,(zht h2),R1,trivial⟩
 |true=>
  refine yr (Hb a _ st₁ s₁ _ X g R1 (zhm h2)) (λfl s₂ h=>?_) λ_ _ x=>zc0 g g.frames x;left;obtain⟨fl',ow',st₂,g1,g2,g3⟩:=h
  induction fl<;>induction fl'<;>first
   |exact g3.elim
   |(obtain⟨m,hm,hi⟩:=g1;exact⟨m,hm,ow',st₂,hi,g2⟩)
   |exact⟨.next,ow',st₂,g1,g2,trivial⟩
   |exact⟨_,ow',st₂,g1,g2,g3⟩
end
noncomputable def bmV:List Value:=[.type "ValueError",.type "Exception",.type "BaseException",.type "object"]
structure Std(S:St0):Prop where
 g:S.base.Ns mainGlobals S.mg
 b:S.base.Ns builtinsNs S.mb
 nl:S.base.NoLimit
 nd:∃mc,S.base.Ns cStatics mc∧mc "sys.int_max_str_digits"=none
 blt:∀x:Str,x≠"__name__"->S.mb x=bootBuiltins x
 own:∃C,OwnClsQ "TOMLDecodeError" C bmV "ValueError.__new__" S.mg S.base
 tab:S.base.get? S.tab=none
structure zAn where
 bm:List Value
 N:Addr
 nm:Str
 q:Str
 bs:List Value
 hdct:Bool
 sn:List Str
 sub:List Value
 ab:Bool
 col:Option Bool
 dd:Option Addr
 k0:Option Value
 k1:Option Value
 k2:Option Value
 k3:Option Value
 k5:Option Value
 mN:Str->Option Value
structure zzx(C:Addr)(bmB:List Value)(newId:String)(h:Heap)(x:zAn):Prop where
 hC:h.get? C=some (excClassObj x.nm x.q C x.N x.bs x.bm x.hdct x.sn x.sub x.ab x.col x.dd x.k0 x.k1 x.k2 x.k3 x.k5 newId)
 hN:h.Ns x.N x.mN
 hq:∀n∈quietNames,x.mN n=none
 T:OwnTailQ h bmB x.bm
theorem zf2{X:Str}{C:Addr}{bmB:List Value}{newId:String}{mg:Str->Option Value}{h:Heap}(O:OwnClsQ X C bmB newId mg h):∃x,zzx C bmB newId h x:=by
 left;obtain⟨bm,N,nm,q,bs,hdct,sn,sub,ab,col,dd,k0,k1,k2,k3,k5,mN,hC,hN,hq,T⟩:=O.obj;exact⟨⟨bm,N,nm,q,bs,hdct,sn,sub,ab,col,dd,k0,k1,k2,k3,k5,mN⟩,hC,hN,hq,T⟩
section
variable{S:St0}{sh:zai}{a:Act}
theorem Rel.stays(f:a.Fits S sh){X:Addr->Prop}{ow:Nat->Option Addr}{st:Sl}{s:Shared}(R:Rel S sh a X ow st s):S.base.StaysIn s.heap:=
 R.keep.stays (λb hb=>(R.nob f b (ym _ hb)).1) f.stays
theorem zex(f:a.Fits S sh){x:Str}{pos:Pos}(hx:sh.scope.names.lookup x=some .globalImplicit){s:Shared}(g:s.heap.Ns mainGlobals S.mg){v:Value}(hv:S.mg x=some v){A:Around}{Q:Value->Shared->Prop}{E:Value->Shared->Prop}(q:Q v s)(hd:(x==("__debug__":Str))=false:=by decide) :
  wpAny (model S.prog S.w) A (eval (.Name x pos) a.env) Q E s:=by
 refine wpAny_Name ?_ hd;rw[loadName_read (env:=a.env) (f.scope▸f.kind) (by unfold Env.kindOf;exact f.scope▸hx)];exact loadGlobal_global (f.glob▸g) hv q
theorem zda(f:a.Fits S sh){x:Str}{pos:Pos}(hx:sh.scope.names.lookup x=some .globalImplicit){s:Shared}(g:s.heap.Ns mainGlobals S.mg)(b:s.heap.Ns builtinsNs S.mb)(hn:S.mg x=none){v:Value}(hv:S.mb x=some v){A:Around}{Q:Value->Shared->Prop}{E:Value->Shared->Prop}(q:Q v s)(hd:(x==("__debug__":Str))=false:=by decide) :
  wpAny (model S.prog S.w) A (eval (.Name x pos) a.env) Q E s:=by
 refine wpAny_Name ?_ hd;rw[loadName_read (env:=a.env) (f.scope▸f.kind) (by unfold Env.kindOf;exact f.scope▸hx)];exact loadGlobal_builtin (f.glob▸g) hn (f.blt▸b) hv q
theorem zv5{x:Str}{pos}{d:D}{v:Value}(D:Std S)(hx:sh.scope.names.lookup x=some .globalImplicit)(hv:S.mg x=some v)(hr:∀h P,S.base.StaysIn h->zcj S h P v d)(he:d.isExc=false:=by rfl)(hd:(x==("__debug__":Str))=false:=by decide):zat S sh (.Name x pos) λQ _ st=>Q (.pl d) st:=λa ow st s Q X f R q=>
 zex f hx (D.g.keeps (R.stays f)) hv (zr4 (.refl ..) (hr _ _ (R.stays f)) q he) hd
noncomputable def EC.name:EC->String
 |.toml=>"TOMLDecodeError"
 |.index=>"IndexError"
 |.value=>"ValueError"
 |.key=>"KeyError"
 |.recur=>"RecursionError"
noncomputable def zjQ:EC->EC->Option Bool
 |.index,.index=>some true
 |.value,.value=>some true
 |.key,.key=>some true
 |.recur,.recur=>some true
 |.toml,.toml=>some true
 |.toml,.value=>some true
 |.toml,.recur=>some false
 |.toml,.index=>some false
 |.toml,.key=>some false
 |_,_=>none
theorem zyy(T:EC):(Str.ofString T.name==("__debug__":Str))=false:=by induction T<;>decide
theorem zwl(T:EC):Str.ofString T.name≠"__name__":=by induction T<;>decide
theorem zxi(S:St0){X:EC}(h:X≠.toml):S.cls X=.type X.name:=by induction X<;>first|rfl|exact absurd rfl h
theorem zyA{T:EC}(h:T≠.toml):bootBuiltins (Str.ofString T.name)=some (.type T.name):=by induction T<;>first|exact absurd rfl h|decide +kernel
theorem zxA{T:EC}(h:T≠.toml):isSubtype (.type T.name) (.type "BaseException")=pure true:=by induction T<;>first|exact absurd rfl h|rfl
theorem zwa{T:EC}(h:T≠.toml):isSubtype (.type ((Manifest.find? T.name).elim "type" λx=>x.metatype)) (.type "tuple")=pure false:=by induction T<;>first|exact absurd rfl h|rfl
theorem zxG{c T:EC}{b:Bool}(h:zjQ c T=some b)(hc:c≠.toml)(hT:T≠.toml):isSubtype (.type c.name) (.type T.name)=pure b:=by
 induction c<;>induction T<;>(first|exact zad h|obtain rfl:=yi h)<;>first|exact absurd rfl hT|exact absurd rfl hc|rfl
theorem zwo{c:EC}{b:Bool}(h:zjQ c .toml=some b):c=.toml∧b=true:=by
 induction c<;>first|((first|exact zad h|cases h);done)|exact⟨rfl,(yi h).symm⟩
theorem zoB(D:Std S)(f:a.Fits S sh){s:Shared}(k:S.base.StaysIn s.heap){T c:EC}{pos:Pos}(hx:sh.scope.names.lookup (Str.ofString T.name)=some .globalImplicit)(hg:T≠.toml->S.mg (Str.ofString T.name)=none)
  {e:Addr}{oe:Obj}(he:s.heap.get? e=some oe)(hc:oe.cls=S.cls c){b:Bool}(hm:zjQ c T=some b){A:Around}{E:Value->Shared->Prop}{E':Value->Value->Shared->Prop}{Q:Bool->Shared->Prop}(q:Q b s) :
  wpAny (model S.prog S.w) A (eval (.Name (Str.ofString T.name) pos) a.env) (λcv s₁=>wpAny (model S.prog S.w) A (excMatches (.ref e) cv) Q (E' cv) s₁) E s:=by
 have g:=D.g.keeps k;have hb:=D.b.keeps k;have hd:=zyy T;by_cases hT:T=.toml
 ·subst hT
  obtain⟨rfl,rfl⟩:=zwo hm;obtain⟨C,O⟩:=D.own;refine zex f hx g O.bound ?_ hd;obtain⟨z,hC,hN,hq,OT⟩:=zf2 (O.keeps k);have hcls:oe.cls=.ref C:=hc.trans (St0.cls_toml O.bound);obtain⟨hp,gg,d,t,os⟩:=s;exact wpAny_excMatches_sub_self hC he hcls (by rw[OT.tail.hasType (X:="BaseException") (b:=true) (by decide)]) q
 ·have hv:S.mb (Str.ofString T.name)=some (.type T.name):=by
   rw[D.blt _ (zwl T)];exact zyA hT
  refine zda f hx g hb (hg hT) hv ?_ hd;have hexc:=zxA hT;have hnt:=zwa hT;clear hv hd hg hx;by_cases hct:c=.toml
  ·subst hct
   obtain⟨C,O⟩:=D.own;obtain⟨z,hC,hN,hq,OT⟩:=zf2 (O.keeps k);have hcls:oe.cls=.ref C:=hc.trans (St0.cls_toml O.bound);obtain⟨hp,gg,d,t,os⟩:=s;refine wpAny_excMatches_sub_type hC he hcls hexc hnt ?_;rw[OT.tail.hasType (X:=T.name) (b:=b) (by cases T<;>cases hm<;>first|exact absurd rfl hT|decide)];exact q
  ·have hTI:s.TypeIs (.ref e) c.name:=(zbO oe he (hc.trans (zxi S hct)))
   exact wpAny_excMatches_type hTI hexc hnt (zxG hm hct hT) q
end
structure Hd where
 T:EC
 nm:Option Nat
 c:PS
noncomputable def zai.un(sh:zai):zai:={sh with calm:=false}
noncomputable def Act.hand(a:Act)(e:Addr):Act:={a with A:=a.A.mark (some (.ref e)),hands:=.ref e::a.hands}
noncomputable def zsZ:List Hd->Err->(Fl->Sl->Prop)->(Err->Sl->Prop)->Sl->Prop
 |[],x,_,X,st=>X x st
 |H::Hs,x,Q,X,st=>match zjQ x.1 H.T with
  |some true=>match H.nm with
   |none=>H.c Q X st
   |some i=>x.1=.toml∧H.c (λfl st₁=>Q fl (st₁.set i .unb)) (λ_ _=>False) (st.set i (.val (.err x.1 x.2)))
  |some false=>zsZ Hs x Q X st
  |none=>False
inductive HdS(S:St0)(sh:zai):ExceptHandler->Hd->Prop
 |plain {T:EC} {p pos:Pos} {b0:Stmt} {body:List Stmt} {c:PS}:sh.scope.names.lookup (Str.ofString T.name)=some .globalImplicit->(T≠.toml->S.mg (Str.ofString T.name)=none)->zaV S sh.un (b0::body) c ->
   HdS S sh (.ExceptHandler (some (.Name (Str.ofString T.name) p)) none (b0::body) pos) ⟨T,none,c⟩
 |named {T:EC} {p pos:Pos} {b0:Stmt} {body:List Stmt} {c:PS} {n:Str} {i:Nat}:sh.scope.names.lookup (Str.ofString T.name)=some .globalImplicit->(T≠.toml->S.mg (Str.ofString T.name)=none)->sh.names[i]?=some n->zaV S sh.un (b0::body) c ->
   HdS S sh (.ExceptHandler (some (.Name (Str.ofString T.name) p)) (some n) (b0::body) pos) ⟨T,some i,c⟩
inductive zlN(S:St0)(sh:zai):List ExceptHandler->List Hd->Prop
 |nil:zlN S sh [] []
 |cons {h H hs Hs}:HdS S sh h H->zlN S sh hs Hs->zlN S sh (h::hs) (H::Hs)
section
variable{S:St0}{sh:zai}{a:Act}
theorem Act.Fits.handed(f:a.Fits S sh)(e:Addr):(a.hand e).Fits S sh.un:=
 ⟨f.scope,f.kind,f.loc,f.nodup,f.cellk,f.celld,f.nocell,f.glob,f.blt,f.locals,f.fronts,f.LFsub,f.outs,f.FP,f.nobase,f.noh₀,f.stays,f.depth,f.units,f.guards,.inr (zbO e yp rfl),(λh=>zaD h),f.Pdom,f.outer,f.tab,f.tabP,f.tabB,f.code,(λh=>zaD h)⟩
theorem Rel.lessX(f:a.Fits S sh){X X':Addr->Prop}{ow:Nat->Option Addr}{st:Sl}{s:Shared}(R:Rel S sh a X ow st s)(h:∀b,X' b->X b):Rel S sh a X' ow st s:=
 R.moveG f (G:=λ_=>False) (zdQ.refl _ _).toG rfl rfl (λ_ q=>q.elim) (λ_ q=>q.elim) (λ_ q=>q.elim) (λ_ _ q=>q.elim) (λb _ q=>h b q) λ_ _ q=>q.elim
theorem Act.FitsS.handed(g:a.FitsS S sh)(e:Addr):(a.hand e).FitsS S sh.un:=⟨g.f.handed e,g.frame,g.fr⟩
theorem Rel.hand{X:Addr->Prop}{ow:Nat->Option Addr}{st:Sl}{s:Shared}(R:Rel S sh a X ow st s){e:Addr}(h:zeE s.heap X (.ref e)):Rel S sh.un (a.hand e) X ow st s:=
 ⟨R.slots,R.keep,R.frames,R.own,R.inj,R.gens,R.os,λv hv=>by
  rcases yx.mp hv with rfl|hv
  ·exact h
  ·exact R.hands v hv,R.tab⟩
theorem Rel.unhand{X:Addr->Prop}{ow:Nat->Option Addr}{st:Sl}{s:Shared}{e:Addr}(R:Rel S sh.un (a.hand e) X ow st s):Rel S sh a X ow st s:=
 ⟨R.slots,R.keep,R.frames,R.own,R.inj,R.gens,R.os,λv hv=>R.hands v (ym _ hv),R.tab⟩
theorem zo6{Q:Fl->Sl->Prop}{e:Addr}{fl:Flow}{s:Shared}(h:OkS S sh.un (a.hand e) Q fl s):OkS S sh a Q fl s:=by
 left;obtain⟨fl',ow,st,h1,h2,h3⟩:=h;exact⟨fl',ow,st,h1,h2.unhand,h3⟩
theorem zm1{X:Err->Sl->Prop}{e:Addr}{ev:Value}{s:Shared}(h:zi2 S sh.un (a.hand e) X ev s):zi2 S sh a X ev s:=by
 left;obtain⟨x,ow,st,e',T,h1,h2,h3,h4,h5,h6⟩:=h;exact⟨x,ow,st,e',T,h1,h2.unhand,h3,h4,h5,h6⟩
theorem Fly.land(f:a.Fits S sh){ow:Nat->Option Addr}{st:Sl}{e:Addr}{T:Option Addr}{x:Err}{s:Shared}(F:Fly S sh a ow st e T x s):Rel S sh.un (a.hand e) noX ow st s:=by
 left;obtain⟨oe,vs,tp,c,h1,h2,h3,h4,h5,h6,_⟩:=F.obj.obj;exact(F.rel.lessX f λ_ q=>q.elim).hand (.cons h1 (λq=>q) (h2▸(S.cls_ne x.1).1) h3 h5 (h6.less λ_ _ q=>q.elim))
theorem Fly.val(f:a.Fits S sh){ow:Nat->Option Addr}{st:Sl}{e:Addr}{T:Option Addr}{x:Err}{s:Shared}(F:Fly S sh a ow st e T x s)(hx:x.1=.toml):zcj S s.heap (Pv a noX ow) (.ref e) (.err x.1 x.2):=by
 obtain⟨oe,vs,tp,c,h1,h2,h3,h4,h5,h6,hA,_⟩:=F.obj.obj;left;obtain⟨t,tk,o,n,rfl,h7,h8,h9⟩:=hA hx;refine .err h1 h2 h3 h4 ?_ h7 h8 ⟨n,h9⟩;rintro(q|q|q|⟨i,q⟩)
 ·have:=f.Pdom e q;rw[F.newE]at this;exact zaD this
 ·exact F.off f e (.inl rfl) (q▸yp)
 ·exact q
 ·exact(F.rel.own i e q).2.2.1 (.inl rfl)
theorem name_goes(f:a.Fits S sh){ow:Nat->Option Addr}{st:Sl}{s:Shared}(R:Rel S sh a noX ow st s){i:Nat}{n:Str}{pos:Pos}(hi:sh.names[i]?=some n){v:Flow}{fl:Fl}(hv:zxM S a.h₀ s.heap (Pv a noX ow) v fl){Q:Unit->Shared->Prop}{E:Value->Shared->Prop}{A:Around}
  (k:∀s' ow',Rel S sh a noX ow' (st.set i .unb) s'->zxM S a.h₀ s'.heap (Pv a noX ow') v fl->Q () s'):wpAny (model S.prog S.w) A (do bindName a.env n .none;unbindBehindTheSuite a.env n pos) Q E s:=by
 have fr:∀{h h':Heap}{P P':Addr->Prop},zfi S h h' P P'->zxM S a.h₀ h P v fl->zxM S a.h₀ h' P' v fl:=λG x=>by
  clear k hv
  induction v<;>induction fl<;>first|exact x|exact⟨x.1.goes G,x.2⟩
 refine yk (wpAny_bindName (ze4 f R hi .none λs₁ R1 G1=>?_));unfold unbindBehindTheSuite;refine wpAny_onRaise ?_;left;refine zcN R1.slots λm hn hl hsl=>?_;have hm:n∈sh.names:=yw hi;have hk:a.env.kindOf n=some .local:=by unfold Env.kindOf;exact f.scope▸(f.loc n hm)
 have hlt:i<st.length:=by
  refine zcN R.slots λ_ _ hl' _=>?_;rw[hl'];exact(yo.mp (zai.all_of hi)).1
 obtain⟨_,x,hx,_⟩:=hsl i n _ (zai.all_of hi) (List.getElem?_set_self hlt);have hpk:(a.env.scope.kind == .class||(a.env.scope.kind == .module&&a.env.locals != a.env.globals))=false:=by rw[f.scope,f.kind];rfl
 have hx':m n=some x:=(f.ovn hm m).symm.trans hx;refine wpAny_unbindName_local hk (f.locals▸hn) hx' hpk λh' u hn' hsb=>?_;rw[f.locals]at hn' hsb;have hP:∀b,(s₁.heap.get? b).isSome=true->Pv a noX (λj=>if j=i then none else(λj=>if j=i then none else ow j) j) b->Pv a noX (λj=>if j=i then none else ow j) b:=λb _ q=>by
  rcases q with q|q|q|⟨j,q⟩
  ·exact .inl q
  ·exact .inr (.inl q)
  ·exact q.elim
  ·by_cases e:j=i
   ·simp[e]at q
   ·simp[e]at q
    exact .inr (.inr (.inr ⟨j,by simp[e,q]⟩))
 have R2:=R1.setH f (u:=u) (sl:=.unb) (X':=noX) (ow':=λj=>if j=i then none else(λj=>if j=i then none else ow j) j) (tk:=s₁.toks) hn ⟨hl,hsl⟩ hi (λj hj=>if_neg hj) hP hn' hsb (λ_ _ _=>if_pos rfl) (λb e=>by simp at e) (λ_ _ _ q=>q) λ_ _ q=>q.elim;rw[List.set_set]at R2;exact k _ _ R2 (fr (R1.goesL f hsb hP) (fr G1 hv))
end
section
variable{S:St0}{sh:zai}{a:Act}
theorem zqT(D:Std S)(g:a.FitsS S sh){hs:List ExceptHandler}{Hs:List Hd}(HH:zlN S sh hs Hs):∀{ow:Nat->Option Addr}{st:Sl}{e b:Addr}{x:Err}{s:Shared}{Q:Fl->Sl->Prop}{X:Err->Sl->Prop},
  Fly S sh a ow st e (some b) x s->zsZ Hs x Q X st->wpAny (model S.prog S.w) a.A (handleBy (.ref e) a.env hs) (OkS S sh a Q) (zi2 S sh a X) s:=by
 have f:=g.f
 induction HH with
 |nil=>
  intro ow st e b x s Q X F q;obtain⟨oe,vs,tp,c,h1,h2,h3,h4,h5,h6,h7,q1,_⟩:=F.obj.obj;refine wpAny_handleBy_nil ?_;unfold PySem.passOn;refine yk (wpAny_field h1 h3 q1 ?_);refine zbW (by simp) ?_;rw[g.frame];exact yk (zgN f F (.inr rfl) λs' F' _=>wpAny_throw (F'.err q))
 |@cons h H hs Hs hd _ ih=>
  intro ow st e b x s Q X F q;obtain⟨oe,vs,tp,c,h1,h2,h3,h4,h5,h6,h7,q1,_⟩:=F.obj.obj;have hne:(Value.ref e)≠byPass:=by intro z;cases z
  have hM:(a.A.mark (some (.ref e))).frames=some (a.env::a.outer):=g.frames;have fh:=g.handed e;rw[zsZ]at q
  induction hd with
  |@plain T p pos b0 body c' g1 g2 g3=>
   refine wpAny_handleBy_cons (codeAny_handlers_test ?_) hne;left;cases hm:zjQ x.1 T with
   |none=>dsimp only at q;rw[hm]at q;exact q.elim
   |some bb=>
    dsimp only at q;rw[hm]at q;refine zoB D f (F.rel.stays f) g1 g2 h1 h2 hm ?_;clear hm
    induction bb with
    |false=>exact ih F q
    |true=>
     refine codeAny_handlers_suite (zgN f F (.inl rfl) λs₁ F1 _=>?_);exact yr (g3 (a.hand e) ow st s₁ Q X fh (F1.land f) q) (λ_ _ x=>zo6 x) λ_ _ x=>zc0 g hM (zm1 x)
  |@named T p pos b0 body c' n i g1 g2 gi g3=>
   refine wpAny_handleBy_cons (codeAny_handlers_test ?_) hne;cases hm:zjQ x.1 T with
   |none=>dsimp only at q;rw[hm]at q;exact q.elim
   |some bb=>
    dsimp only at q;rw[hm]at q;refine zoB D f (F.rel.stays f) g1 g2 h1 h2 hm ?_;clear hm
    induction bb with
    |false=>exact ih F q
    |true=>
     refine codeAny_handlers_suite_as (zgN f F (.inl rfl) λs₁ F1 _=>?_);refine ze4 fh.f (F1.land f) (d:=.err x.1 x.2) gi (F1.val f q.1) λs₂ R2 _=>?_;refine yr (g3 (a.hand e) _ _ s₂ _ (λ_ _=>False) fh R2 q.2) (λfl s3a h=>?_) λ_ _ x=>by obtain⟨_,_,_,_,_,x,_⟩:=x;exact x.elim
     left;obtain⟨fl',ow',st',k1,k2,k3⟩:=h;exact name_goes f k2.unhand gi (v:=fl) (fl:=fl') k3 λs4a ow'' R4 k4=>⟨fl',ow'',_,k1,R4,k4⟩
@[reducible]noncomputable def zl4(c:PS)(Hs:List Hd):PS:=λQ X st=>c Q (λx st₁=>zsZ Hs x Q X st₁) st
theorem zjA(D:Std S){body:List Stmt}{h₀:ExceptHandler}{hs:List ExceptHandler}{pos:Pos}{c:PS}{Hs:List Hd}(Hb:zaV S sh body c)(HH:zlN S sh (h₀::hs) Hs):zba S sh (.Try body (h₀::hs) [] [] pos) (zl4 c Hs):=λa ow st s Q X g R q=>by
 have f:=g.f;refine wpAny_Try_except (yr (Hb a ow st s _ _ g R q) (λfl s₁ h=>?_) λev s₁ h=>?_)
 ·left
  obtain⟨fl',ow',st',h1,h2,h3⟩:=h
  induction fl<;>first
   |exact⟨_,ow',st',h1,h2,h3⟩
   |(induction fl'<;>first|exact h3.elim|exact wpAny_execs_nil ⟨_,ow',st',h1,h2,trivial⟩)
 ·left
  obtain⟨x,ow',st',e,T,q1,rfl,F⟩:=h.fly;exact zkf g F g.frames λT' s₂ F2=>zgN f F2 (.inl rfl) λs3a F3 _=>zqT D g HH F3 q1
end
inductive Rch(h:Heap):Value->Value->Prop
 |refl {b}:Rch h (.ref b) (.ref b)
 |step {b o vs c t}:h.get? b=some o->o.data=.fields vs->vs[2]?=some (.ref c)->Rch h (.ref c) t->Rch h (.ref b) t
theorem Rch.snoc{h:Heap}{x y:Value}(r:Rch h x y){b c:Addr}{o:Obj}{vs:Array Value}(hy:y=.ref b)(h1:h.get? b=some o)(h2:o.data=.fields vs)(h3:vs[2]?=some (.ref c)):Rch h x (.ref c):=by
 induction r with
 |refl=>cases hy;exact .step h1 h2 h3 .refl
 |step a1 a2 a3 _ ih=>exact .step a1 a2 a3 (ih hy)
theorem zeD:plainId "proto.unchain"=true:=by kernel_rfl
theorem zk7:entryFor table "proto.unchain"=some Builtin.«proto.unchain»:=entryFor_of_tree (by kernel_rfl)
section
variable{prog:Program}{w:World}
theorem zjV{X:Addr->Prop}{e:Addr}(hX:X e){s:Shared}{o:Value}(C:zeE s.heap X o):∀{A:Around}{b:Addr}{slow:Value}{tog:Bool},o=.ref b->Rch s.heap slow o->∀(R:Result->Shared->Prop),R (.ok (.ret .none)) s ->
  codeAny (model prog w) A (.builtin "proto.unchain" ⟨[.ref e,o,slow,.bool tog],[]⟩) R s:=by
 induction C with
 |nil=>intro A b slow tog h;cases h
 |@cons b' ob vs c h1 h2 _ h3 h4 C' ih=>
  intro A b slow tog _ hr R hR;refine codeAny_builtin zk7 ?_;show wpAny _ _ (do
   let context ←field (.ref b') 2
   if context == .none then return ←ret .none
   if context == .ref e then
    rule "raise.context-cycle-cut"
    setField (.ref b') 2 .none
    return ←ret .none
   if context==slow then rule "raise.context-old-cycle";return ←ret .none
   let slow ←if tog then field slow 2 else pure slow
   again (.builtin "proto.unchain" ⟨[.ref e,context,slow,.bool !tog],[]⟩)) _ _ _
  refine yk (wpAny_field h1 h3 h4 ?_);cases C' with
  |nil=>refine zdu (by rfl) ?_;exact yn hR
  |@cons c' oc vc cc g1 g2 _ g3 g4 C''=>
   have hne:c'≠e:=λz=>g2 (z▸hX);rw[if_neg (by simp),if_neg (by simpa using hne)];by_cases hs:(Value.ref c'==slow)=true
   ·refine zdu hs ?_;exact yk (wpAny_rule (yn hR))
   ·refine zbW hs ?_
    have hr2:Rch s.heap slow (.ref c'):=hr.snoc rfl h1 h3 h4;clear hs
    induction tog with
    |false=>
     simp only[Bool.false_eq_true,if_false];exact yk (yn (yn ⟨plainId_quiet zeD _,ih rfl hr2 R hR⟩))
    |true=>
     simp only[if_true];clear hr2;cases hr with
     |refl=>exact yk (wpAny_field h1 h3 h4 (yn ⟨plainId_quiet zeD _,ih rfl .refl R hR⟩))
     |step k1 k2 k3 k4=>exact yk (wpAny_field k1 k2 k3 (yn ⟨plainId_quiet zeD _,ih rfl (k4.snoc rfl h1 h3 h4) R hR⟩))
end
section
variable{S:St0}{sh:zai}{a:Act}
section
variable{M:Model}{A:Around}{E:Value->Shared->Prop}
theorem zl3{T:String}(hexc:isSubtype (.type T) (.type "BaseException")=pure true)(hm:(Value.type ((Manifest.find? T).elim "type" λx=>x.metatype)==Value.type "type")=true){s:Shared}{e:Addr}{vs:Array Value}(he:s.heap.get? e=some {cls:=.type T,data:=.fields vs}){msg:String}{Q:Value->Shared->Prop}(q:Q (.ref e) s):wpAny M A (excFromValue (.ref e) msg) Q E s:=by
 obtain⟨hp,g,d,tk,os⟩:=s;unfold excFromValue
 repeat (first|(with_reducible refine wpAny_loadPart_at he ?_)|wp_step)
 all_goals first|exact q|skip
theorem zm9{T:String}(hm:(Value.type ((Manifest.find? T).elim "type" λx=>x.metatype)==Value.type "type")=true){s:Shared}{e:Addr}{vs:Array Value}(he:s.heap.get? e=some {cls:=.type T,data:=.fields vs}){Q:Value->Shared->Prop}(q:Q (.ref e) s):wpAny M A (raisedInstance (.ref e)) Q E s:=by
 obtain⟨hp,g,d,tk,os⟩:=s;unfold raisedInstance
 repeat (first|(with_reducible refine wpAny_loadPart_at he ?_)|wp_step)
 all_goals first|exact q|skip
theorem zgo{c:Value}{s:Shared}{e:Addr}{vs:Array Value}(he:s.heap.get? e=some {cls:=c,data:=.fields vs}){Q:Bool->Shared->Prop}(q:Q false s):wpAny M A (isType (.ref e)) Q E s:=by
 obtain⟨hp,g,d,tk,os⟩:=s
 repeat (first|(with_reducible refine wpAny_loadPart_at he ?_)|wp_step)
 all_goals first|exact q|skip
variable{nm q:Str}{C N:Addr}{bs bm:List Value}{hdct:Bool}{sn:List Str}{sub:List Value}{ab:Bool}{col:Option Bool}{dd:Option Addr}{k0 k1 k2 k3 k5:Option Value}{newId:String}
theorem znc{s:Shared}(hbase:bm.contains (.type "BaseException")=true)(hC:s.heap.get? C=some (excClassObj nm q C N bs bm hdct sn sub ab col dd k0 k1 k2 k3 k5 newId)){e:Addr}{vs:Array Value}(he:s.heap.get? e=some {cls:=.ref C,data:=.fields vs}){msg:String}{Q:Value->Shared->Prop}(q:Q (.ref e) s):wpAny M A (excFromValue (.ref e) msg) Q E s:=by
 have hcB:(Value.ref C::bm).contains (.type "BaseException")=true:=by rw[List.contains_cons,hbase,Bool.or_true]
 obtain⟨hp,g,d,tk,os⟩:=s;unfold excFromValue
 repeat (first|with_reducible refine wpAny_loadPart_at he ?_|with_reducible refine wpAny_loadPart_at hC ?_|(with_reducible refine wpAny_isSubtype_exc hC ?_;rw[hcB])|wp_step)
 all_goals first|exact q|skip
theorem zo2{s:Shared}(hC:s.heap.get? C=some (excClassObj nm q C N bs bm hdct sn sub ab col dd k0 k1 k2 k3 k5 newId)){e:Addr}{vs:Array Value}(he:s.heap.get? e=some {cls:=.ref C,data:=.fields vs}){Q:Value->Shared->Prop}(q:Q (.ref e) s):wpAny M A (raisedInstance (.ref e)) Q E s:=by
 obtain⟨hp,g,d,tk,os⟩:=s;unfold raisedInstance
 repeat (first|with_reducible refine wpAny_loadPart_at he ?_|with_reducible refine wpAny_loadPart_at hC ?_|wp_step)
 all_goals first|exact q|skip
end
theorem zjH(D:Std S){s:Shared}(k:S.base.StaysIn s.heap){c:EC}{e:Addr}{vs:Array Value}(he:s.heap.get? e=some {cls:=S.cls c,data:=.fields vs}){A:Around}{E:Value->Shared->Prop}{msg:String}{Q:Value->Shared->Prop}(q:Q (.ref e) s):wpAny (model S.prog S.w) A (excFromValue (.ref e) msg) Q E s:=by
 left;cases c
 case toml=>
  refine zfh D.own λC O=>?_;obtain⟨z,hC,hN,hq,OT⟩:=zf2 (O.keeps k);have hcls:S.cls .toml=.ref C:=St0.cls_toml O.bound;rw[hcls]at he;exact znc (by rw[OT.tail.hasType (X:="BaseException") (b:=true) (by decide)]) hC he q
 all_goals exact zl3 (by rfl) (by right) he q
theorem zmd(D:Std S){s:Shared}(k:S.base.StaysIn s.heap){c:EC}{e:Addr}{vs:Array Value}(he:s.heap.get? e=some {cls:=S.cls c,data:=.fields vs}){A:Around}{E:Value->Shared->Prop}{Q:Value->Shared->Prop}(q:Q (.ref e) s):wpAny (model S.prog S.w) A (raisedInstance (.ref e)) Q E s:=by
 left;cases c
 case toml=>
  left;refine zfh D.own λC O=>?_;obtain⟨z,hC,hN,hq,OT⟩:=zf2 (O.keeps k);have hcls:S.cls .toml=.ref C:=St0.cls_toml O.bound;rw[hcls]at he;exact zo2 hC he q
 all_goals exact zm9 (by right) he q
end
section
variable{S:St0}{sh:zai}{a:Act}
theorem Rel.atE(f:a.Fits S sh){ow:Nat->Option Addr}{st:Sl}{e:Addr}{s:Shared}(R:Rel S sh a (zjm e none) ow st s)(he0:a.h₀.get? e=none){oe:Obj}{vs:Array Value}(he:s.heap.get? e=some oe)(hd:oe.data=.fields vs)(hcl:oe.cls≠.none∧oe.cls≠.type "code")(g:Obj->Obj){s':Shared}(hs:s'={s with heap:=s.heap.update e g}):Rel S sh a (zjm e none) ow st s':=by
 subst hs;have other:∀c,c≠e->(s.heap.update e g).get? c=s.heap.get? c:=λc hc=>xf _ _ (Ne.symm hc);exact R.moveG f (G:=λc=>c=e) (.of_but λc o h n=>(other c n).trans h) rfl rfl (λc q=>.inl q) (λc q=>q▸he0) (λc q hm=>(R.nob f c hm).2 oe vs (q▸he) hcl.1 hd) (λc o q h=>by subst q;rw[he]at h;obtain rfl:=yi h;exact⟨_,hd⟩) (λ_ _ q=>q) λc o q h=>by subst q;rw[he]at h;obtain rfl:=yi h;exact hcl.2
theorem zie(f:a.Fits S sh){ow:Nat->Option Addr}{st:Sl}{s:Shared}{e t:Addr}{k:EC}{m:List Nat}{tk:Tok}{o:Obj}{n:Nat}{sup:Value}(R:Rel S sh a (zjm e none) ow st s)(he0:a.h₀.get? e=none)
  (he:s.heap.get? e=some {cls:=S.cls k,data:=.fields #[.ref t,.none,.none,.none,sup,.none]})(ht:s.heap.get? t=some o)(hc:o.cls=.type "tuple")(hd:o.data=.seq #[.str (mk m) tk] n)
  {X:Err->Sl->Prop}(q:X (k,m) st){α:Type}{Q:α->Shared->Prop}:wpAny (model S.prog S.w) a.A (raiseNew (.ref e):Sem α) Q (zi2 S sh a X) s:=by
 have hte:t≠e:=λz=>by rw[z,he]at ht;obtain rfl:=yi ht;cases hd
 unfold raiseNew;refine yk (wpAny_handled ?_);rcases f.hand with h|⟨b,hv,h⟩
 ·rw[h]
  have F:Fly S sh a ow st e none (k,m) s:=⟨R,he0,(λ_ z=>zad z),⟨_,_,_,.none,he,rfl,rfl,rfl,rfl,.nil,λ_=>⟨t,tk,o,n,rfl,ht,hc,hd⟩,rfl⟩⟩
  first
   |exact wpAny_throw (F.err q)
   |exact yk (yn (wpAny_throw (F.err q)))
 ·rw[h]
  have C:=R.hands _ hv;cases C with
  |@cons _ ob vs c g1 g2 gc g3 g4 g5=>
   have hbe:b≠e:=λz=>g2 (.inl z);have hC:zeE s.heap (zjm e none) (.ref b):=.cons g1 g2 gc g3 g4 g5;dsimp only;refine zdu (by simpa using hbe) ?_;refine yk (yE (wpAny_runValue (zjV (X:=zjm e none) (.inl rfl) hC rfl .refl _ ?_)));unfold updateField;refine yk (yk (wpAny_load he ?_));dsimp only;refine zdu (by simp) ?_;refine wpAny_update he (wpAny_throw ?_);have self:=xe (Obj.mapFields (·.setIfInBounds 2 (Value.ref b))) he rfl;have other:∀c,c≠e->(s.heap.update e (Obj.mapFields (·.setIfInBounds 2 (Value.ref b)))).get? c=s.heap.get? c:=λc hc=>xf _ _ (Ne.symm hc);have F:Fly S sh a ow st e none (k,m) {s with heap:=s.heap.update e (Obj.mapFields (·.setIfInBounds 2 (Value.ref b)))}:=⟨R.atE f he0 he rfl (S.cls_ne k) _ rfl,he0,(λ_ z=>zad z),⟨_,_,_,.ref b,self,rfl,rfl,rfl,rfl,hC.same (λd o ws h n _ _=>(other d λz=>n (.inl z)).trans h) (λ_ _ q=>q),λ_=>⟨t,tk,o,n,rfl,(other t hte).trans ht,hc,hd⟩,rfl⟩⟩;exact F.err q
@[reducible]noncomputable def zeq(c:PE):PS:=λ_ X st=>c (λr st₁=>r.oM D.exc? λx=>X x st₁) X st
theorem zj2(f:a.Fits S sh){ow:Nat->Option Addr}{st st₁:Sl}{s s₁:Shared}(R:Rel S sh a noX ow st s)(K:Step a st st₁ s s₁){e:Addr}(hn:s.heap.get? e=none):Rel S sh a (zjm e none) (restr ow st₁) st₁ s₁:=by
 refine R.stepX f K λb hb q=>?_;rcases q with q|q
 ·rw[q,hn]at hb;exact zaD hb
 ·exact zad q
theorem zhW(D:Std S){e:Expr}{pos}{c:PE}(H:zat S sh e c):zba S sh (.Raise (some e) none pos) (zeq c):=λa ow st s Q X g R q=>by
 have f:=g.f;rw[arm_exec_Raise];refine yk (yT ?_);show wpAny _ _ (raiseStmt a.env (some (do let v ←eval e a.env;standAt pos;pure v)) none) _ _ _;unfold raiseStmt;refine yk (yk (yr (H a ow st s _ X f R q) (λv s₁ h=>yk (yT (yn ?_))) λ_ _ x=>zcJ f R x));left;obtain⟨r,st₁,hX,K,hr⟩:=h;refine zfA (Res.exc_inv hX) λk m hzz hX=>?_;subst hzz;obtain⟨hr,hnew⟩:=hr;refine za1 (hnew rfl) λe' hzz hn=>?_;subst hzz;obtain⟨e2,t,o,tk,hv2,he,nP,ht,hc,hd⟩:=hr.inv;clear nP;cases hv2;obtain⟨n,hd⟩:=hd;have R1:=zj2 f R K hn;have hst:=R1.stays f;refine yk (yn ?_);refine yk (yE (zjH D hst he ?_));refine yk (zgo he ?_);refine zbW (by decide) ?_;refine yk (zmd D hst he ?_);refine yk ?_;unfold setFlight;refine yk (wpAny_field he rfl rfl ?_);refine zbW (by simp) ?_;exact yn (zie f R1 (R.keep.new hn) he ht hc hd hX)
theorem zgp(D:Std S){e:Expr}{pos k p}{c:PE}(H:zat S sh e c):zba S sh (.Raise (some e) (some (.Constant .none k p)) pos) (zeq c):=λa ow st s Q X g R q=>by
 have f:=g.f;rw[arm_exec_Raise];refine yk (yT ?_);show wpAny _ _ (raiseStmt a.env (some (do let v ←eval e a.env;standAt pos;pure v)) (some (do let v ←eval (.Constant .none k p) a.env;standAt pos;pure v))) _ _ _;unfold raiseStmt;refine yk (yk (yr (H a ow st s _ X f R q) (λv s₁ h=>yk (yT (yn ?_))) λ_ _ x=>zcJ f R x));left;obtain⟨r,st₁,hX,K,hr⟩:=h;refine zfA (Res.exc_inv hX) λk m hzz hX=>?_;subst hzz;obtain⟨hr,hnew⟩:=hr;refine za1 (hnew rfl) λe' hzz hn=>?_;subst hzz;obtain⟨e2,t,o,tk,hv2,he,nP,ht,hc,hd⟩:=hr.inv;clear nP;cases hv2;obtain⟨n,hd⟩:=hd;have R1:=zj2 f R K hn;have hst:=R1.stays f;refine yk (yE (yk (Constant_none (yk (yT (yn ?_))))));refine yk (yn ?_);refine yk (yE (zjH D hst he ?_));dsimp only;refine zdu (by rfl) ?_;refine yk (yn ?_);have hte:t≠e':=λz=>by rw[z,he]at ht;obtain rfl:=yi ht;cases hd
 have hf:∀(g:Array Value->Array Value)(o:Obj)(vs:Array Value),o.data=.fields vs->(o.mapFields g).isFreed=false:=λg o vs h=>Obj.isFreed_of_fields (Obj.data_mapFields h g);refine yk (wpAny_setField he rfl (by simp) ?_);have he3:=xe (Obj.mapFields (·.setIfInBounds 3 Value.none)) he rfl;have R2:=R1.atE f (R.keep.new hn) he rfl (S.cls_ne k) (Obj.mapFields (·.setIfInBounds 3 Value.none)) rfl;have ht3:(s₁.heap.update e' (Obj.mapFields (·.setIfInBounds 3 Value.none))).get? t=some o:=(xf _ _ (Ne.symm hte)).trans ht;refine yk (wpAny_setField he3 rfl (by simp) ?_);have he4:=xe (Obj.mapFields (·.setIfInBounds 4 (Value.bool true))) he3 rfl;have R3:=R2.atE f (R.keep.new hn) he3 rfl (S.cls_ne k) (Obj.mapFields (·.setIfInBounds 4 (Value.bool true))) rfl;have ht4:((s₁.heap.update e' (Obj.mapFields (·.setIfInBounds 3 Value.none))).update e' (Obj.mapFields (·.setIfInBounds 4 (Value.bool true)))).get? t=some o:=(xf _ _ (Ne.symm hte)).trans ht3;have hst':=R3.stays f;have he5:((s₁.heap.update e' (Obj.mapFields (·.setIfInBounds 3 Value.none))).update e' (Obj.mapFields (·.setIfInBounds 4 (Value.bool true)))).get? e'=some {cls:=S.cls k,data:=.fields #[.ref t,.none,.none,.none,.bool true,.none]}:=he4;refine yk (zgo he5 ?_);refine zbW (by decide) ?_;refine yk (zmd D hst' he5 ?_);refine yk ?_;unfold setFlight;refine yk (wpAny_field he5 rfl rfl ?_);refine zbW (by simp) ?_;exact yn (zie f R3 (R.keep.new hn) he5 ht4 hc hd hX)
end
noncomputable abbrev PD:=(D->Prop)->(Err->Prop)->Prop
structure zhp(S:St0)(A:Around)(fr:List Env)(hands:List Value)(P:Addr->Prop)(n:Nat)(calm:Bool)(s:Shared):Prop where
 frames:A.frames=some fr
 stays:S.base.StaysIn s.heap
 fun_:s.heap.FunFrames S.base fr
 depth:A.depth+n≤900
 units:A.units+n≤9000
 guards:A.guards=some []
 calm:calm=true->A.handled=none∧hands=[]
 hand:A.handled=none∨∃b,Value.ref b∈hands∧A.handled=some (.ref b)
 hands:∀v∈hands,zeE s.heap noX v
 gens:s.gens=#[]
 tab:TabAt S s.heap
 tabP:P S.tab
 frP:∀b∈fr.filterMap (·.frame),P b
 P:∀b,P b->(s.heap.get? b).isSome=true
inductive zAK(S:St0)(fr:List Env)(P:Addr->Prop)(s:Shared)(Q:D->Prop)(v:Value)(s':Shared)(d:D):Prop
 |mk (qa:Q d) (qb:zcj S s'.heap P v d) (qc:New s.heap v d) (qd:zdQ (S.tab::fr.filterMap (·.frame)) s.heap s'.heap) (qe:s'.gens=s.gens) (qf:s'.os=s.os)
inductive zzS(S:St0)(fr:List Env)(s:Shared)(X:Err->Prop)(ev:Value)(s':Shared)(x:Err)(e:Addr)(T:Option Addr):Prop
 |mk (qa:X x) (qb:ev=.ref e) (qc:s.heap.get? e=none) (qd:∀b,T=some b->s.heap.get? b=none) (qe:∀L',zjD S s'.heap L' e T x) (qf:zdQ (S.tab::fr.filterMap (·.frame)) s.heap s'.heap) (qg:s'.gens=s.gens) (qh:s'.os=s.os)
noncomputable def OkC(S:St0)(fr:List Env)(P:Addr->Prop)(s:Shared)(Q:D->Prop):Value->Shared->Prop:=λv s'=>
 ∃d,zAK S fr P s Q v s' d
noncomputable def zy0(S:St0)(fr:List Env)(s:Shared)(X:Err->Prop):Value->Shared->Prop:=λev s'=>
 ∃x e T,zzS S fr s X ev s' x e T
noncomputable def zhH(S:St0)(f:Value)(n:Nat)(calm:Bool)(kws:List Str)(Φ:List D->List D->PD):Prop:=
 ∀(A:Around)(fr:List Env)(hands:List Value)(P:Addr->Prop)(s:Shared)(vs ks:List Value)(ds dk:List D)(Q:D->Prop)(X:Err->Prop),zhp S A fr hands P n calm s ->
  zaO S s.heap P vs ds->zaO S s.heap P ks dk->ks.length=kws.length->Φ ds dk Q X ->
  wpAny (model S.prog S.w) A (call f vs (kws.zip ks)) (OkC S fr P s Q) (zy0 S fr s X) s
noncomputable def zw2(n₀:Nat)(S:St0)(f:Value)(n:Nat)(calm:Bool)(kws:List Str)(Φ:List D->List D->PD):Prop:=
 ∀(A:Around)(fr:List Env)(hands:List Value)(P:Addr->Prop)(s:Shared)(vs ks:List Value)(ds dk:List D)(Q:D->Prop)(X:Err->Prop),n₀≤s.toks->zhp S A fr hands P n calm s ->
  zaO S s.heap P vs ds->zaO S s.heap P ks dk->ks.length=kws.length->Φ ds dk Q X ->
  wpAny (model S.prog S.w) A (call f vs (kws.zip ks)) (OkC S fr P s Q) (zy0 S fr s X) s
theorem zhH.n{n₀:Nat}{S:St0}{f:Value}{n:Nat}{calm:Bool}{kws:List Str}{Φ:List D->List D->PD}(H:zhH S f n calm kws Φ):zw2 n₀ S f n calm kws Φ:=λA fr hands P s vs ks ds dk Q X _=>H A fr hands P s vs ks ds dk Q X
noncomputable def start(ds:List D)(n:Nat):Sl:=ds.map .val++List.replicate n .unb
@[reducible]noncomputable def zn4(Q:D->Prop):Fl->Sl->Prop:=λfl _=>match fl with
 |.ret d=>Q d
 |.next=>Q .none
 |.brk=>False
 |.cont=>False
@[reducible]noncomputable def zf7(c:PS)(n:Nat)(ds:List D):PD:=λQ X=>c (zn4 Q) (λx _=>X x) (start ds n)
section
variable{S:St0}
theorem zjP:∀{l:List (Str×Value)}{k:Str}{v:Value},(l.map (·.1)).Nodup->(k,v)∈l->l.lookup k=some v
 |[],_,_,_,h=>by exact zb7 h
 |(k',v')::l,k,v,hn,h=>by
  rw[List.map_cons,List.nodup_cons]at hn;rcases yx.mp h with h1|h1
  ·clear h
   cases h1;simp[List.lookup]
  ·have:(k==k')=false:=by
    rw[beq_eq_false_iff_ne];clear h;rintro rfl;exact hn.1 (List.mem_map.mpr (zbO (_,v) h1 rfl))
   simp only[List.lookup,this];exact zjP hn.2 h1
theorem zpk{ps:List Str}{vs:List Value}(h:ps.Nodup)(hl:ps.length=vs.length){i:Nat}{x:Str}{v:Value}(hx:ps[i]?=some x)(hv:vs[i]?=some v):(ps.zip vs).reverse.lookup x=some v:=by
 refine zjP ?_ ?_
 ·rw[List.map_reverse,List.map_fst_zip (Nat.le_of_eq hl)]
  exact List.pairwise_reverse.mpr (h.imp Ne.symm)
 ·rw[List.mem_reverse]
  refine yw (i:=i) ?_;rw[List.getElem?_zip_eq_some];exact⟨hx,hv⟩
theorem ziH{α:Type}:∀{l:List (Str×α)}{x:Str},x∉l.map (·.1)->l.lookup x=none
 |[],_,_=>rfl
 |(y,v)::l,x,h=>by
  rw[List.map_cons,List.mem_cons,not_or]at h;simp only[List.lookup,beq_eq_false_iff_ne.mpr h.1];exact ziH h.2
theorem zia{α:Type}:∀{l:List (Str×α)}{x:Str},x∈l.map (·.1)->∃c,l.lookup x=some c
 |(y,v)::l,x,h=>by
  by_cases e:x=y
  ·rw[List.lookup,e,beq_self_eq_true];exact⟨v,rfl⟩
  ·rw[List.lookup,beq_eq_false_iff_ne.mpr e]
   rw[List.map_cons,List.mem_cons]at h;exact zia (h.resolve_left e)
theorem zls{α:Type}:∀{l:List (Str×α)}{j:Nat}{x:Str}{c:α},(l.map (·.1)).Nodup->l[j]?=some (x,c)->l.lookup x=some c
 |(y,v)::l,0,x,c,_,h=>by
  cases h;simp only[List.lookup,beq_self_eq_true]
 |(y,v)::l,j+1,x,c,hn,h=>by
  rw[List.map_cons,List.nodup_cons]at hn;have h:l[j]?=some (x,c):=h;have e:(x==y)=false:=beq_eq_false_iff_ne.mpr λe=>hn.1 (e▸List.mem_map.mpr (zbO _ (yw h) rfl));simp only[List.lookup,e];exact zls hn.2 h
theorem zlC{k:Str->Option NameKind}:∀(l:List (Str×Value))(m:Str->Option Value),(∀x∈l,k x.1=some .local)->∀y,bindL k l m y=(l.reverse.lookup y).or (m y)
 |[],m,_,y=>rfl
 |(n,v)::l,m,h,y=>by
  show bindL k l (if k n=some .local then _ else m) y=_;rw[if_pos (h (n,v) List.mem_cons_self),zlC l _ (λx hx=>h x (List.mem_cons_of_mem _ hx)),List.reverse_cons,List.lookup_append];cases l.reverse.lookup y with
  |some z=>rfl
  |none=>
   show(if y=n then some v else m y)=(List.lookup y [(n,v)]).or (m y);by_cases e:y=n
   ·rw[if_pos e,e,List.lookup,beq_self_eq_true];rfl
   ·rw[if_neg e,List.lookup,beq_eq_false_iff_ne.mpr e];rfl
theorem zlY{k:Str->Option NameKind}:∀(l:List (Str×Value))(m:Str->Option Value),(∀x∈l,k x.1=some .local)->bindC k l m=m
 |[],m,_=>rfl
 |(n,v)::l,m,h=>by
  show bindC k l (if k n=some .local then m else _)=_;rw[if_pos (h (n,v) List.mem_cons_self)];exact zlY l m λx hx=>h x (ym _ hx)
noncomputable def zjY(n:Nat)(cs:List (Str×Addr))(i:Nat):Option Addr:=if i<n then none else(cs[i-n]?).map (·.2)
theorem zfv{n:Nat}{cs:List (Str×Addr)}{i:Nat}{b:Addr}(h:zjY n cs i=some b):n≤i∧∃x,cs[i-n]?=some (x,b):=by
 unfold zjY at h;by_cases e:i<n
 ·rw[if_pos e]at h;exact zad h
 ·rw[if_neg e]at h
  obtain⟨⟨x,c⟩,h1,rfl⟩:=Option.map_eq_some_iff.mp h;exact⟨yW e,x,h1⟩
theorem zql{cs:List (Str×Addr)}(h:cs.Pairwise λx y=>x.2≠y.2){i j:Nat}{x y:Str}{b:Addr}(hi:cs[i]?=some (x,b))(hj:cs[j]?=some (y,b)):i=j:=by
 obtain⟨i1,i2⟩:=yo.mp hi;obtain⟨j1,j2⟩:=yo.mp hj;rw[List.pairwise_iff_getElem]at h;rcases Nat.lt_trichotomy i j with q|q|q
 ·exact absurd (by rw[i2,j2]) (h i j i1 j1 q)
 ·exact q
 ·exact absurd (by rw[i2,j2]) (h j i j1 i1 q)
theorem zhx:∀{l:List (Str×NameKind)}{n:Nat}{acc:List (Str×Addr)},(∀x∈l,x.2≠.cell)->cellsFrom n l acc=acc
 |[],_,_,_=>rfl
 |(_,k)::l,n,acc,h=>by
  show(if(k == .cell)=true then _ else cellsFrom n l acc)=acc;rw[if_neg (by have:=h _ List.mem_cons_self;simpa using this)];exact zhx λx hx=>h x (ym _ hx)
theorem zmC{l:List (Str×NameKind)}{sh:zai}(h:∀x∈l,x.2≠.cell)(hcs:sh.cells=[])(n:Nat):(cellsFrom n l []).map (·.1)=sh.cells:=by rw[zhx h,hcs];rfl
theorem zrg{sh:zai}(hcs:sh.cells=[])(h:sh.names.Nodup):sh.all.Nodup:=by unfold zai.all;rw[hcs,List.append_nil];exact h
theorem zkz{sh:zai}(hcs:sh.cells=[])(l:Sl):l=l++List.replicate sh.cells.length (.cel none):=by rw[hcs];exact(List.append_nil l).symm
theorem zqg{h:Heap}{cd:Value}{n:Str}(hcd:h.CodeRec cd n):∃c o vs,cd=.ref c∧h.get? c=some o∧o.data=.fields vs:=by
 refine zzT hcd λc o ws _ e g d _=>?_;exact⟨c,o,ws,e,g,d⟩
theorem room{d r k n:Nat}(hk:k≤10)(h:d+(r+10)≤n):d+k+r≤n:=yj (by rw[Nat.add_assoc,Nat.add_comm k r];exact yV (yV hk r) d) h
theorem zgB(D0:Std S){sh:zai}{body:List Stmt}{a:Addr}{o:Obj}{fd:FuncData}{ps rest:List Str}{kw:List (Str×Value)}{c:PS}{calm:Bool}{A:Around}{fr:List Env}{hands:List Value}{P:Addr->Prop}{s:Shared}{vs ks:List Value}{ds dk:List D}{Q:D->Prop}{X:Err->Prop}
  (ho:s.heap.get? a=some o)(hdata:o.data=.func fd)(hcd:s.heap.CodeRec fd.code fd.qualname)(hbody:fd.body=.stmts body)(hg:fd.globals=mainGlobals)(hb:fd.builtins=builtinsNs)
  (hco:fd.scope.isCoroutine=false)(hgen:fd.scope.isGenerator=false)(hk:fd.scope.kind=.function)(hsc:sh.scope=fd.scope)(hclo:fd.closure=[])(hkeys:∀n,(cellsFrom n fd.scope.names []).map (·.1)=sh.cells)(hcl:∀x∈sh.cells,sh.scope.names.lookup x=some .cell)
  (hnames:sh.names=ps++rest)(hloc:∀x∈sh.names,sh.scope.names.lookup x=some .local)(hnd:sh.all.Nodup)(hcalm:sh.calm=calm)
  (hbind:BindsTo s fd ⟨vs,kw⟩ (ps.zip (vs++ks)))
  {n₀:Nat}(hn0:n₀≤s.toks)(H:zc2 n₀ S sh body c)(hin:sh.inner=true->zd1 S fd.code∧fd.qualname++ofString ".<locals>."=ofString "suffixed_err.<locals>.")
  (hca:sh.calm=true->∃c o vs,fd.code=.ref c∧S.base.get? c=some o∧o.data=.fields vs)
  (C:zhp S A fr hands P (sh.rank+10) calm s)(hv:zaO S s.heap P vs ds)(hkv:zaO S s.heap P ks dk)(hlen:ds.length+dk.length=ps.length){st0:Sl}(hst0:st0=start (ds++dk) rest.length++List.replicate sh.cells.length (.cel none))(q:c (zn4 Q) (λx _=>X x) st0) :
  wpAny (model S.prog S.w) A (call (.ref a) vs kw) (OkC S fr P s Q) (zy0 S fr s X) s:=by
 have hvs:=hv.length;have hst:=C.stays;have hbl:∀x∈ps.zip (vs++ks),fd.scope.names.lookup x.1=some .local:=λx hx=>by
  have:x.1∈ps:=(List.of_mem_zip (a:=x.1) (b:=x.2) hx).1;rw[←hsc];exact hloc _ (hnames▸(List.mem_append_left _ this))
 refine wpAny_call (codeAny_call_function (yy (yy (yf (yd _)) C.depth:A.depth<900) (by decide)) ho hdata hco hgen hbody hcd (hbind _ _ _ _ ?_));rw[hclo];refine wpAny_with_toks hn0 (wpAny_newFunctionEnv_cells hk (λx hx=>.inl (hbl x hx)) λenv he s₁ hin1 hn1=>?_);subst he;refine⟨(D0.nl.keeps hst).keeps hin1.toInCall.keep,codeAny_func ?_⟩;left;obtain⟨⟨⟨h1a,tk,rfl⟩,hns,hkp,_⟩,hcel,hap,hab⟩:=hin1
 ·-- the activation
  have hL:∀b o,s.heap.get? b=some o->b≠s.heap.objs.size:=λb o e=>Nat.ne_of_lt (Heap.lt_size e);have hnew:s.heap.get? s.heap.objs.size=none:=yP (yq _);have hbnew:S.base.get? s.heap.objs.size=none:=by
   cases q:S.base.get? s.heap.objs.size with
   |none=>rfl
   |some o=>have:=hst _ _ q;exact zad (hnew.symm.trans this)
  refine zmO (List.nodup_append.mp hnd) λhnn hcn hdis=>?_;have hCS:=hkeys (s.heap.objs.size+1);have hbL:bindL (callEnvC fd s.heap.objs.size a).kindOf (ps.zip (vs++ks)) (λ_=>none)=λy=>(ps.zip (vs++ks)).reverse.lookup y:=funext λy=>(zlC _ _ hbl y).trans (Option.or_none ..);have hbC:bindC (callEnvC fd s.heap.objs.size a).kindOf (ps.zip (vs++ks)) (λ_=>none)=λ_=>none:=zlY _ _ hbl;have hns:h1a.Ns s.heap.objs.size (λy=>(ps.zip (vs++ks)).reverse.lookup y):=hbL▸hns;have hcel:∀n c,(cellsFrom (s.heap.objs.size+1) fd.scope.names []).lookup n=some c->h1a.IsCell c none:=λn c e=>by
   rw[←show bindC (callEnvC fd s.heap.objs.size a).kindOf (ps.zip (vs++ks)) (λ_=>none) n=none from congrFun hbC n];exact hcel n c e
  have hab:∀n c,(n,c)∈cellsFrom (s.heap.objs.size+1) fd.scope.names []->s.heap.objs.size<c:=hab;have hlenC:(cellsFrom (s.heap.objs.size+1) fd.scope.names []).length=sh.cells.length:=by rw[←hCS,List.length_map]
  let act:Act:=⟨A.deeper (callEnvC fd s.heap.objs.size a),callEnvC fd s.heap.objs.size a,fr,s.heap.objs.size,⟨s.heap.get?⟩,P,s.os,hands,S.tab,callEnvC fd s.heap.objs.size a::fr⟩
  have F:act.Fits S sh:={
   scope:=hsc.symm,kind:=hsc▸hk,loc:=hloc,nodup:=hnd,glob:=hg,blt:=hb,locals:=rfl
   cellk:=hcl,celld:=λx hx=>zia (show x∈(cellsFrom (s.heap.objs.size+1) fd.scope.names []).map (·.1) by rw[hCS];exact hx),nocell:=λx hx=>ziH (by
    show x∉(cellsFrom (s.heap.objs.size+1) fd.scope.names []).map (·.1);rw[hCS];exact λz=>hdis x hx x z rfl)
   fronts:=by show A.frames.map _=_;exact ya _ C.frames
   LFsub:=λb hb=>by
    rcases yx.mp (show b∈s.heap.objs.size::fr.filterMap (·.frame)from hb)with q|q
    ·exact q▸yp
    ·exact ym _ (ym _ q)
   outs:=λe he=>ym _ he
   FP:=λb hb=>by
    rcases yx.mp hb with q|q
    ·exact q▸C.tabP
    ·exact C.frP b q
   nobase:=hbnew,noh₀:=hnew,stays:=hst
   depth:=room (by decide) C.depth
   units:=room (by decide) C.units
   guards:=C.guards,hand:=C.hand,calm:=λh=>C.calm (hcalm▸h),Pdom:=C.P
   outer:=λb hb=>by
    show(s.heap.get? b).isSome=true;rcases yx.mp hb with q|q
    ·refine za1 C.tab λps h1 _=>?_
     have q:b=S.tab:=q;rw[q,h1];rfl
    ·obtain⟨_,o,ho,_⟩:=C.fun_.mem q
     rw[ho];rfl
   tab:=rfl,tabP:=C.tabP,tabB:=D0.tab,code:=hin,codeA:=hca}
  have FS:act.FitsS S sh:=⟨F,rfl,rfl⟩;have hnewC:∀n c,(n,c)∈cellsFrom (s.heap.objs.size+1) fd.scope.names []->s.heap.get? c=none:=λn c e=>yP (yc (hab n c e));have hP:∀b,(s.heap.get? b).isSome=true->Pv act noX (zjY sh.names.length (cellsFrom (s.heap.objs.size+1) fd.scope.names [])) b->P b:=λb hb q=>by
   rcases q with q|q|q|⟨_,q⟩
   ·exact q
   ·rw[q]at hb
    have:(s.heap.get? s.heap.objs.size).isSome=true:=hb;rw[hnew]at this;exact zaD this
   ·exact q.elim
   ·left
    obtain⟨_,x,q⟩:=zfv q;rw[hnewC _ _ (List.mem_of_getElem? q)]at hb;exact zaD hb
  have G:zfi S s.heap h1a P (Pv act noX (zjY sh.names.length (cellsFrom (s.heap.objs.size+1) fd.scope.names []))):=⟨λb o e _=>hkp b o e,λb o _ e=>hkp b o e,λb o _ _ e _ _=>(zf8 o (hkp b o e) rfl rfl),hP,λb o e _=>⟨o,hkp b o e,rfl,rfl⟩⟩;have hall:=hkv.append hv;have hlen':(ds++dk).length=ps.length:=(yL ..).trans hlen;have hnl:sh.names.length=ps.length+rest.length:=by rw[hnames,List.length_append]
  have hsl0:(start (ds++dk) rest.length).length=sh.names.length:=by rw[hnl];unfold start;simp only[List.length_append,List.length_map,List.length_replicate,hlen']
  have Rl:Rel S sh act noX (zjY sh.names.length (cellsFrom (s.heap.objs.size+1) fd.scope.names [])) st0 {s with heap:=h1a,toks:=tk}:=by
   refine⟨(zf8 _ hns ?_ (λi x sl hi hsl=>?_)),.of_keeps hkp,?_,(λi b h=>?_),(λi j b h1 h2=>?_),C.gens,rfl,λv hv=>?_,C.tab.keep (F:=[]) (.of_keeps hkp)⟩
   ·simp only[hst0,List.length_append,hsl0,List.length_replicate];exact(yL ..).symm
   ·rw[hst0]at hsl
    have hi:(sh.names++sh.cells)[i]?=some x:=hi;by_cases hN:i<sh.names.length
    ·rw[List.getElem?_append_left (hsl0▸hN)]at hsl
     rw[List.getElem?_append_left hN]at hi;rw[F.ovn (List.mem_of_getElem? hi)];have how:zjY sh.names.length (cellsFrom (s.heap.objs.size+1) fd.scope.names []) i=none:=if_pos hN;rw[how];rw[hnames]at hi;unfold start at hsl;by_cases hlt:i<ps.length
     ·rw[List.getElem?_append_left (by rw[List.length_map,hlen'];exact hlt)]at hsl
      rw[List.getElem?_append_left hlt]at hi;rw[List.getElem?_map]at hsl;obtain⟨d,hd,rfl⟩:=Option.map_eq_some_iff.mp hsl;obtain⟨v,hv',hr⟩:=hall.get hd;exact⟨rfl,v,zpk (by rw[hnames]at hnn;exact(List.nodup_append.mp hnn).1) (hall.length.trans hlen').symm hi hv',hr.goes G⟩
     ·rw[List.getElem?_append_right (by rw[List.length_map,hlen'];exact Nat.le_of_not_lt hlt)]at hsl
      obtain⟨_,hsl⟩:=yo.mp hsl;rw[List.getElem_replicate]at hsl;subst hsl;exact rfl
    ·have hN:=yW hN
     rw[List.getElem?_append_right (hsl0▸hN)]at hsl;rw[List.getElem?_append_right hN,←hCS,List.getElem?_map]at hi;left;obtain⟨_,hsl⟩:=yo.mp hsl;rw[List.getElem_replicate]at hsl;subst hsl;obtain⟨⟨y,c⟩,hc,rfl⟩:=Option.map_eq_some_iff.mp hi;have hlk:=zls (hCS▸hcn) hc;obtain⟨oc,g1,g2⟩:=hcel _ _ hlk;refine⟨c,oc,none,(if_neg (yg.mpr hN)).trans (ya (Option.map (·.2)) hc),?_,g1,g2,rfl⟩;show(match (cellsFrom (s.heap.objs.size+1) fd.scope.names []).lookup y with|some c=>some (Value.ref c)|none=>_)=_;rw[hlk]
   ·left
    obtain⟨o',es,ep,z1,z2,_⟩:=hns;exact⟨by show fd.scope.kind≠.module;rw[hk];decide,(zkB s.heap.objs.size o' rfl hbnew z1 (λvs z=>by cases z2.symm.trans z)),C.fun_.of_keeps λb o e _=>⟨o,hkp b o e,rfl⟩⟩
   ·obtain⟨hle,x,hx⟩:=zfv h
    have hm:=yw hx;refine⟨?_,hnewC _ _ hm,λq=>q,Nat.ne_of_gt (hab _ _ hm)⟩;have:=(yo.mp hx).1;rw[hlenC]at this;show i<(sh.names++sh.cells).length;rw[List.length_append];exact(Nat.sub_lt_iff_lt_add' hle).mp this
   ·obtain⟨l1,x1,k1⟩:=zfv h1
    obtain⟨l2,x2,k2⟩:=zfv h2;exact(Nat.sub_add_cancel l1).symm.trans ((ya (· + sh.names.length) (zql hap k1 k2)).trans (Nat.sub_add_cancel l2))
   ·exact(C.hands v hv).same (λb o vs e _ _ _=>hkp b o e) λ_ _ q=>q
  refine yr (H act _ _ _ _ _ hn1 FS Rl q) (λfl s' h=>?_) λev s' h=>?_
  ·left
   obtain⟨fl',ow',st',g1,g2,g3⟩:=h;have out:∀v d,Q d->zcj S s'.heap (Pv act noX ow') v d∧New s.heap v d->OkC S fr P s Q v s':=λv d qd x=>
    ⟨d,qd,x.1.goes (.less λb _ q=>.inl q),x.2,g2.keep,g2.gens.trans C.gens.symm,g2.os⟩
   induction fl<;>induction fl'<;>first
    |exact g3.elim
    |exact g1.elim
    |exact out _ _ g1 ⟨.none,λz=>nomatch z⟩
    |exact out _ _ g1 g3
  ·obtain⟨x,ow',st',e,T,g1,rfl,Fl⟩:=h.fly
   unfold leaving;refine yk (zkf FS Fl FS.frames λT' s₂ F2=>zgN F F2 (.inl rfl) λs3a F3 hL'=>?_);exact⟨x,e,some T',g1,rfl,F3.newE,F3.newT,hL' rfl,F3.rel.keep,F3.rel.gens.trans C.gens.symm,F3.rel.os⟩
theorem zqJ(D0:Std S){sh:zai}{body:List Stmt}{a:Addr}{o:Obj}{fd:FuncData}{ps rest:List Str}{kws:List Str}{c:PS}{calm:Bool}
  (ho:S.base.get? a=some o)(hdata:o.data=.func fd)(hcd:S.base.CodeRec fd.code fd.qualname)(hbody:fd.body=.stmts body)(hg:fd.globals=mainGlobals)(hb:fd.builtins=builtinsNs)
  (hco:fd.scope.isCoroutine=false)(hgen:fd.scope.isGenerator=false)(hk:fd.scope.kind=.function)(hsc:sh.scope=fd.scope)(hcell:∀x∈fd.scope.names,x.2≠.cell)
  (hnames:sh.names=ps++rest)(hloc:∀x∈sh.names,sh.scope.names.lookup x=some .local)(hnd:sh.names.Nodup)(hcalm:sh.calm=calm)
  (hbind:∀(s:Shared)(vs ks:List Value),S.base.StaysIn s.heap->vs.length+kws.length=ps.length->ks.length=kws.length->BindsTo s fd ⟨vs,kws.zip ks⟩ (ps.zip (vs++ks)))
  (hps:kws.length≤ps.length)
  (H:zaV S sh body c)(hin:sh.inner=true->zd1 S fd.code∧fd.qualname++ofString ".<locals>."=ofString "suffixed_err.<locals>.":=by intro h;exact nomatch h)(hclo:fd.closure=[]:=by rfl)(hcs:sh.cells=[]:=by rfl):zhH S (.ref a) (sh.rank+10) calm kws λds dk Q X=>ds.length+kws.length=ps.length∧zf7 c rest.length (ds++dk) Q X:=by
 intro A fr hands P s vs ks ds dk Q X C hv hkv hkl ⟨hlen,q⟩;have hvs:=hv.length;have hst:=C.stays;exact zgB D0 (hst _ _ ho) hdata (hcd.keeps hst) hbody hg hb hco hgen hk hsc hclo (zmC hcell hcs) (λx hx=>by rw[hcs]at hx;exact zb7 hx) hnames hloc (zrg hcs hnd) hcalm (hbind s vs ks hst (hvs▸hlen) hkl) (yb _) H.t hin (λ_=>zqg hcd) C hv hkv (by rw[←hkv.length,hkl];exact hlen) (zkz hcs _) q
theorem zuC(D0:Std S){sh:zai}{body:List Stmt}{a:Addr}{o:Obj}{fd:FuncData}{ps rest:List Str}{c:PS}{calm:Bool}{es:List Value}{de:List D}
  (ho:S.base.get? a=some o)(hdata:o.data=.func fd)(hcd:S.base.CodeRec fd.code fd.qualname)(hbody:fd.body=.stmts body)(hg:fd.globals=mainGlobals)(hb:fd.builtins=builtinsNs)
  (hco:fd.scope.isCoroutine=false)(hgen:fd.scope.isGenerator=false)(hk:fd.scope.kind=.function)(hsc:sh.scope=fd.scope)(hcell:∀x∈fd.scope.names,x.2≠.cell)
  (hnames:sh.names=ps++rest)(hloc:∀x∈sh.names,sh.scope.names.lookup x=some .local)(hnd:sh.names.Nodup)(hcalm:sh.calm=calm)(hes:∀h P,zaO S h P es de)
  (hbind:∀(s:Shared)(vs:List Value),S.base.StaysIn s.heap->vs.length+es.length=ps.length->BindsTo s fd ⟨vs,[]⟩ (ps.zip (vs++es)))
  (H:zaV S sh body c)(hin:sh.inner=true->zd1 S fd.code∧fd.qualname++ofString ".<locals>."=ofString "suffixed_err.<locals>.":=by intro h;exact nomatch h)(hclo:fd.closure=[]:=by rfl)(hcs:sh.cells=[]:=by rfl):zhH S (.ref a) (sh.rank+10) calm [] λds dk Q X=>ds.length+de.length=ps.length∧zf7 c rest.length (ds++de) Q X:=by
 intro A fr hands P s vs ks ds dk Q X C hv hkv hkl ⟨hlen,q⟩;have hvs:=hv.length;have hst:=C.stays;have:=(hes s.heap P).length;exact zgB D0 (kw:=_) (hst _ _ ho) hdata (hcd.keeps hst) hbody hg hb hco hgen hk hsc hclo (zmC hcell hcs) (λx hx=>by rw[hcs]at hx;exact zb7 hx) hnames hloc (zrg hcs hnd) hcalm (hbind s vs hst (by simp only[hvs,this];exact hlen)) (yb _) H.t hin (λ_=>zqg hcd) C hv (hes _ _) hlen (zkz hcs _) q
noncomputable def zjk(S:St0)(n:Nat)(calm:Bool)(Φ:List D->PD):Prop:=
 ∀(v:Value)(A:Around)(fr:List Env)(hands:List Value)(P:Addr->Prop)(s:Shared)(vs:List Value)(ds:List D)(Q:D->Prop)(X:Err->Prop),zhp S A fr hands P n calm s ->
  zcj S s.heap P v .lfn->zaO S s.heap P vs ds->Φ ds Q X->wpAny (model S.prog S.w) A (call v vs []) (OkC S fr P s Q) (zy0 S fr s X) s
theorem zt9(D0:Std S){sh:zai}{ps rest:List Str}{c:PS}{calm:Bool}
  (hco:S.lf.scope.isCoroutine=false)(hgen:S.lf.scope.isGenerator=false)(hk:S.lf.scope.kind=.function)(hsc:sh.scope=S.lf.scope)(hcell:∀x∈S.lf.scope.names,x.2≠.cell)
  (hnames:sh.names=ps++rest)(hloc:∀x∈sh.names,sh.scope.names.lookup x=some .local)(hnd:sh.names.Nodup)(hcalm:sh.calm=calm)(hin:sh.inner=false)(hloud:sh.calm=false)
  (hbind:∀(s:Shared)(vs:List Value)(cd:Addr),vs.length=ps.length->BindsTo s (S.lf.fd cd) ⟨vs,[]⟩ (ps.zip vs))
  (H:zaV S sh S.lf.body c)(hcs:sh.cells=[]:=by rfl):zjk S (sh.rank+10) calm λds Q X=>ds.length=ps.length∧zf7 c rest.length ds Q X:=by
 intro v A fr hands P s vs ds Q X C hl hv ⟨hlen,q⟩;cases hl with
 |@lfn e o cd h1 h2 h3=>
  left;obtain⟨oc,ws,t,k1,k2,k3,k4⟩:=h3;exact zgB D0 (kw:=[]) (ks:=[]) (dk:=[]) h1 h2 (zAp cd oc ws t rfl k1 k3 k4) rfl rfl rfl hco hgen hk hsc rfl (zmC hcell hcs) (λx hx=>by rw[hcs]at hx;exact zb7 hx) hnames hloc (zrg hcs hnd) hcalm (by rw[List.append_nil];exact hbind s vs cd (by simp only[hv.length,hlen])) (yb _) H.t (by rw[hin];intro h;exact zaD h) (by rw[hloud];intro h;exact zaD h) C hv .nil hlen (zkz hcs _) (by rw[List.append_nil];exact q)
end
structure Ctr where
 rank:Nat
 calm:Bool
 kws:List Str
 Φ:List D->List D->PD
noncomputable abbrev Tab:=Str->Option Ctr
structure zaB(S:St0)(tb:Tab):Prop where
 ok:∀n c v,tb n=some c->S.mg n=some v->zhH S v c.rank c.calm c.kws c.Φ∧∃a o fd,v=.ref a∧S.base.get? a=some o∧o.data=.func fd
structure zc4(n₀:Nat)(S:St0)(tb:Tab):Prop where
 ok:∀n c v,tb n=some c->S.mg n=some v->zw2 n₀ S v c.rank c.calm c.kws c.Φ∧∃a o fd,v=.ref a∧S.base.get? a=some o∧o.data=.func fd
theorem zaB.n{n₀:Nat}{S:St0}{tb:Tab}(H:zaB S tb):zc4 n₀ S tb:=⟨λn c v e1 e2=>⟨(H.ok n c v e1 e2).1.n,(H.ok n c v e1 e2).2⟩⟩
inductive KwS(S:St0)(sh:zai):List Keyword->List Str->PEs->Prop
 |nil:KwS S sh [] [] λQ _ st=>Q [] st
 |cons {n:Str} {e:Expr} {p} {ks:List Keyword} {ns:List Str} {c:PE} {cs:PEs}:zat S sh e c->KwS S sh ks ns cs->KwS S sh (⟨some n,e,p⟩::ks) (n::ns) (zab c cs)
section
variable{S:St0}{sh:zai}
theorem zua{ks:List Keyword}{ns:List Str}{cs:PEs}(H:KwS S sh ks ns cs)(pos:Pos)(env:Env):(backToKw pos (keywordEach ks env)).filterMap (·.1)=ns∧(backToKw pos (keywordEach ks env)).all (·.1.isSome)=true:=by
 induction H with
 |nil=>exact⟨rfl,rfl⟩
 |@cons n e p ks ns c cs _ _ ih=>exact⟨ya (n::·) ih.1,by show((some n).isSome&&_)=true;exact ih.2⟩
theorem zya{ks:List Keyword}{ns:List Str}{cs:PEs}(H:KwS S sh ks ns cs)(pos:Pos){a:Act}(f:a.Fits S sh):∀(ow:Nat->Option Addr)(st:Sl)(s:Shared)(Q:List Res->Sl->Prop)(X:Err->Sl->Prop),Rel S sh a noX ow st s->cs Q X st ->
  wpAny (model S.prog S.w) a.A (evalAll ((backToKw pos (keywordEach ks a.env)).map (·.2))) (λvs s'=>zz9 S a ow st s Q vs s'∧vs.length=ns.length) (zfN S a st s X) s:=by
 induction H with
 |nil=>intro ow st s Q X R q;exact wpAny_evalAll_nil ⟨(zlk ([]) st q (.refl ..) trivial),rfl⟩
 |@cons n e p ks ns c cs H _ ih=>
  intro ow st s Q X R q;refine wpAny_evalAll_cons (yk (yr (H a ow st s _ X f R q) (λv s₁ h=>yk (yT (yn ?_))) λ_ _ x=>x));left;obtain⟨r,st₁,h1,h2,h3⟩:=h;have R1:=R.step f h2;refine yr (ih _ st₁ s₁ _ X R1 h1) (λvs s₂ h=>?_) λ_ _ x=>zaF h2 x;left;obtain⟨⟨rs,st₂,g1,g2,g3⟩,hl⟩:=h;have:=zg8.step f R1 g2 h3;rw[zaq g2.frz]at this g3;exact⟨⟨r::rs,st₂,g1,h2.trans g2,this,g3.early h2.ext⟩,ya Nat.succ hl⟩
theorem zcL.append{a:Act}{ow:Nat->Option Addr}{st:Sl}{hs h:Heap}{vs':List Value}{rs':List Res}(y:zcL S a ow st hs h vs' rs'):∀{vs rs},zcL S a ow st hs h vs rs->zcL S a ow st hs h (vs++vs') (rs++rs')
 |[],[],_=>y
 |[],_::_,x=>x.elim
 |_::_,[],x=>x.elim
 |_::_,_::_,x=>⟨x.1,zcL.append y x.2⟩
@[reducible]noncomputable def zuL(tb:Tab)(sh:zai)(cf:PE)(ca:PEs)(kws:List Str)(ck:PEs):PE:=λQ X st=>cf (λr st₁=>∃n c,r=.pl (.fn n)∧tb n=some c∧c.kws=kws∧c.rank≤sh.rank∧(c.calm=true->sh.calm=true) ∧
 ca (λrs st₂=>ck (λrk st3=>c.Φ (rs.map Res.d) (rk.map Res.d) (λd=>Q (.pl d) (zbf (rs++rk) st3)) (λx=>X x (zbf (rs++rk) st3))) X st₂) X st₁) X st
theorem znQ{n₀:Nat}{tb:Tab}(TB:zc4 n₀ S tb){id:Str}{p pos:Pos}{e:Expr}{es:List Expr}{ks:List Keyword}{cf:PE}{ca ck:PEs}{kws:List Str}(Hf:zat S sh (.Name id p) cf)(Ha:zgj n₀ S sh (e::es) ca)(Hk:KwS S sh ks kws ck)
  (he:∀env,starEach (e::es) env=(false,eval e env)::starEach es env):zdI n₀ S sh (.Call (.Name id p) (e::es) ks pos) (zuL tb sh cf ca kws ck):=λa ow st s Q X hn f R q=>by
 refine wpAny_Call_Name_kw (yr (wpAny_toks_of hn (Hf a ow st s _ X f R q)) (λfv s₁ h=>?_) λ_ _ x=>x.2);left;obtain⟨hn1,r,st₁,⟨n,c,rfl,htb,hkw,hrk,hcm,q⟩,K1,hr,_⟩:=h;have hv:=hr.inv;clear hr;obtain⟨hC,ad,o,fd,rfl,ho,hd⟩:=TB.ok n c fv htb hv;have R1:=R.step f K1;refine zbP (zua Hk pos a.env) λkn ka=>?_;refine callWith_function_kw (o:=o) (fd:=fd) (evalArgs_kw2 ka ?_ (he _));refine yr (wpAny_toks_of hn1 (Ha pos a _ st₁ s₁ _ X hn1 f R1 q)) (λvs s₂ h=>?_) λ_ _ x=>zaF K1 x.2;have hn2:=h.1;refine zfQ h.2 λrs st₂ g1 K2 g3=>?_;have R2:=R1.step f K2;refine yr (wpAny_toks_of hn2 (zya Hk pos f _ st₂ s₂ _ X R2 g1)) (λkv s3a h=>?_) λ_ _ x=>zaF (K1.trans K2) x.2;left;obtain⟨hn3,⟨rk,st3,k1,K3,k3⟩,hkvl⟩:=h;have R3:=R2.step f K3;have hst:=R3.stays f;refine⟨⟨hst _ _ ho,hd⟩,?_⟩
 -- all are sealed
 have all:zcL S a (restr (restr ow st₁) st3) st3 s₁.heap s3a.heap (vs++kv) (rs++rk):=by
  rw[zaq (K2.trans K3).frz];have y1:=zcL.step f R2 K3 g3;rw[zaq K2.frz]at k3;rw[zaq K2.frz,zaq K3.frz]at y1;rw[zaq K3.frz]at k3;exact zcL.append (k3.early K2.ext) y1
 refine zbP (zhZ f R1 (rs++rk) (vs++kv) st3 (K2.trans K3) all) λK' hvs=>?_;have R':=R1.step f K';rw[List.map_append]at hvs;have hl:vs.length=(rs.map Res.d).length:=by rw[List.length_map];exact g3.length
 have sp:∀{vs1 vs2:List Value}{ds1 ds2:List D}{h:Heap}{P:Addr->Prop},vs1.length=ds1.length->zaO S h P (vs1++vs2) (ds1++ds2)->zaO S h P vs1 ds1∧zaO S h P vs2 ds2:=by
  intro vs1
  induction vs1 with
  |nil=>intro vs2 ds1 ds2 h P hl x;cases ds1 with|nil=>exact⟨.nil,x⟩|cons _ _=>cases hl
  |cons v vs1 ih=>
   intro vs2 ds1 ds2 h P hl x;left
   induction ds1 with
   |nil=>cases hl
   |cons d ds1=>cases x with|cons y z=>obtain⟨z1,z2⟩:=ih (Nat.succ.inj hl) z;exact⟨.cons y z1,z2⟩
 refine zbP (sp hl hvs) λhv1 hv2=>?_;have hkl:kv.length=c.kws.length:=hkw▸hkvl;have R3':=R';have C:zhp S a.A a.fr a.hands (Pv a noX (restr (restr ow st₁) (zbf (rs++rk) st3))) c.rank c.calm s3a:={
  frames:=f.fronts,stays:=hst,fun_:=R'.frames
  depth:=by have:=f.depth;lia
  units:=by have:=f.units;lia
  guards:=f.guards,calm:=λh=>f.calm (hcm h),hand:=f.hand,hands:=R'.hands,gens:=R'.gens,tab:=R'.tab,tabP:=.inl (f.tab▸f.tabP),frP:=λb hb=>f.inP b (f.LFsub b hb)
  P:=λb q=>by
   rcases q with q|q|q|⟨i,q⟩
   ·obtain⟨o,ho⟩:=yI.mp (f.Pdom b q)
    exact R'.keep.there ho
   ·obtain⟨m,⟨o,_,_,ho,_⟩,_⟩:=R'.slots
    rw[q,ho];rfl
   ·exact q.elim
   ·exact R'.own_there q}
 have KK:=K1.trans K';rw[List.nil_append];have hz:(backToKw pos (keywordEach ks a.env)).filterMap (·.1)=c.kws:=by rw[hkw];exact kn
 rw[hz];refine yr (hC a.A _ a.hands _ s3a vs kv _ _ _ _ hn3 C hv1 hv2 hkl k1) (λv s4a h=>?_) λev s4a h=>?_
 ·left
  obtain⟨d,qd,hvr,hnew,hk,hg,hos⟩:=h;replace hk:=hk.mono (G:=a.L::a.F) λb hb=>by
   rcases yx.mp hb with q|q
   ·exact q▸f.tab▸ym _ yp
   ·exact f.LFsub b q
  have K4:Step a st (zbf (rs++rk) st3) s s4a:=KK.trans ⟨.refl _,hk,hg,hos⟩;refine⟨.pl d,_,qd,K4,?_,λz=>?_⟩
  ·rw[zaq K'.frz]at hvr;exact hvr
  ·refine za1 (hnew z) λe' h1 h2=>?_
   exact zbO e' h1 (KK.keep.new h2)
 ·obtain⟨x,e',T,qx,rfl,hn,hT,hO,hk,hg,hos⟩:=h
  replace hk:=hk.mono (G:=a.L::a.F) λb hb=>by
   rcases yx.mp hb with q|q
   ·exact q▸f.tab▸ym _ yp
   ·exact f.LFsub b q
  exact⟨x,_,qx,KK.trans ⟨.refl _,hk,hg,hos⟩,e',T,rfl,KK.keep.new hn,λb hb=>KK.keep.new (hT b hb),hO a.L⟩
theorem zwm{tb:Tab}(TB:zaB S tb){id:Str}{p pos:Pos}{e:Expr}{es:List Expr}{ks:List Keyword}{cf:PE}{ca ck:PEs}{kws:List Str}(Hf:zat S sh (.Name id p) cf)(Ha:zb0 S sh (e::es) ca)(Hk:KwS S sh ks kws ck)
  (he:∀env,starEach (e::es) env=(false,eval e env)::starEach es env):zat S sh (.Call (.Name id p) (e::es) ks pos) (zuL tb sh cf ca kws ck):=(znQ TB.n Hf Ha.t Hk he).s
end
section
variable{S:St0}{sh:zai}{a:Act}
theorem zeX{st st':Sl}{s s':Shared}(K:Step a st st' s s')(o:Obj)(t:Nat):Step a st st' s {s' with heap:=s'.heap.push o,toks:=t}:=⟨K.frz,K.keep.trans (.push _ _),K.gens,K.os⟩
@[reducible]noncomputable def zev(cs:PEs):PE:=λQ X st=>cs (λrs st₁=>rs.length≤1000∧Q (.pl (.tup (rs.map Res.d))) (zbf rs st₁)) X st
@[reducible]noncomputable def zgX(cs:PEs):PE:=λQ X st=>cs (λrs st₁=>rs.length≤1000∧Q (.fr (rs.map Res.d)) (zbf rs st₁)) X st
theorem ze3{h:Heap}{o:Obj}{P P':Addr->Prop}(p:∀b,(h.get? b).isSome=true->P' b->P b):zfi S h (h.push o) P P':=
 ⟨λ_ _ e _=>yB _ e,λ_ _ _ e=>yB _ e,λ_ ob _ _ e _ _=>(zf8 ob (yB _ e) rfl rfl),p,λ_ ob e _=>(zf8 ob (yB _ e) rfl rfl)⟩
theorem zrf{n:Nat}{es:List Expr}{k pos}{cs:PEs}(H:zgj n S sh es cs):zdI n S sh (.Tuple es k pos) (zev cs):=λa ow st s Q X hn f R q=>by
 refine wpAny_Tuple (yr (H pos a ow st s _ X hn f R q) (λvs s₁ h=>?_) λ_ _ x=>x);left;obtain⟨rs,st₁,⟨hl,hq⟩,K,hr⟩:=h;refine zbP (zhZ f R rs vs st₁ K hr) λK' hv=>?_;have hle:vs.length≤sizeLine:=yj (hr.length▸hl) (by decide);refine⟨hle,.pl _,_,hq,zeX K' _ _,⟨.tup (yF _ rfl) rfl rfl ?_,λz=>zaD z⟩⟩;rw[List.toList_toArray];exact hv.goes (ze3 λ_ _ q=>q)
theorem zeK{es:List Expr}{k pos}{cs:PEs}(H:zb0 S sh es cs):zat S sh (.Tuple es k pos) (zev cs):=(zrf H.t).s
theorem zv2{n:Nat}{es:List Expr}{pos}{cs:PEs}(H:zgj n S sh es cs):zdI n S sh (.List es pos) (zgX cs):=λa ow st s Q X hn f R q=>by
 refine wpAny_List (yr (H pos a ow st s _ X hn f R q) (λvs s₁ h=>?_) λ_ _ x=>x);left;obtain⟨rs,st₁,⟨hl,hq⟩,K,hr⟩:=h;refine zbP (zhZ f R rs vs st₁ K hr) λK' hv=>?_;have hle:vs.length≤sizeLine:=yj (hr.length▸hl) (by decide);have hn:s₁.heap.get? s₁.heap.objs.size=none:=yP (yq _);refine⟨hle,.fr _,_,hq,zeX K' _ _,_,_,_,_,rfl,K'.keep.new hn,yF _ rfl,rfl,rfl,?_,rfl⟩;rw[List.toList_toArray];refine hv.goes (ze3 λb hb q=>?_);rcases q with q|q|q|q
 ·exact .inl q
 ·exact .inr (.inl q)
 ·rw[q,hn]at hb;exact zaD hb
 ·exact .inr (.inr (.inr q))
theorem zeZ{es:List Expr}{pos}{cs:PEs}(H:zb0 S sh es cs):zat S sh (.List es pos) (zgX cs):=(zv2 H.t).s
noncomputable def putAll:List Nat->List D->Sl->Sl
 |i::is,d::ds,st=>putAll is ds (st.set i (.val d))
 |_,_,st=>st
inductive zbn(sh:zai):List Expr->List Nat->Prop
 |nil:zbn sh [] []
 |cons {x:Str} {p:Pos} {i:Nat} {es:List Expr} {is:List Nat}:sh.names[i]?=some x->zbn sh es is->zbn sh (.Name x p::es) (i::is)
theorem zfP{es:List Expr}{is:List Nat}(T:zbn sh es is)(env:Env):(assignEach es env).length=is.length∧(assignEach es env).findIdx? (·.1)=none:=by
 induction T with
 |nil=>exact⟨rfl,rfl⟩
 |@cons x p i es is _ _ ih=>
  refine⟨ya Nat.succ ih.1,?_⟩;show List.findIdx? (·.1) ((false,assign (.Name x p) env)::assignEach es env)=none;rw[List.findIdx?_cons];simp[ih.2]
theorem zfO(f:a.Fits S sh){X:Err->Sl->Prop}{es:List Expr}{is:List Nat}(T:zbn sh es is):∀{ow:Nat->Option Addr}{st:Sl}{s:Shared}{vs:List Value}{ds:List D}{Q:Unit->Shared->Prop},Rel S sh a noX ow st s->zaO S s.heap (Pv a noX ow) vs ds->ds.length=is.length ->
  (∀s' ow',Rel S sh a noX ow' (putAll is ds st) s'->Q () s')->wpAny (model S.prog S.w) a.A (assignInOrder ((assignEach es a.env).map (·.2)) vs) Q (zi2 S sh a X) s:=by
 induction T with
 |nil=>
  intro ow st s vs ds Q R hv hl k;left
  induction ds with
  |nil=>cases hv;exact yn (k s ow R)
  |cons _ _=>cases hl
 |@cons x p i es is hi _ ih=>
  intro ow st s vs ds Q R hv hl k;left;cases hv with
  |nil=>cases hl
  |@cons v d vs ds hv hvs=>
   show wpAny _ _ (do holding vs (assign (.Name x p) a.env v);assignInOrder ((assignEach es a.env).map (·.2)) vs) _ _ _;refine yk (yE ?_);show wpAny _ _ (do standAt p;bindName a.env x v) _ _ _;refine yk (yT (wpAny_bindName (ze4 f R hi hv λs' R' G=>?_)));exact ih R' (hvs.goes G) (Nat.succ.inj hl) k
@[reducible]noncomputable def zeH(is:List Nat)(c:PE):PS:=λQ X st=>c (λr st₁=>r.oM D.tup? λds=>zvF (Nat.beq ds.length is.length) (Q .next (putAll is ds st₁))) X st
theorem zii{es:List Expr}{k tp value pos}{is:List Nat}{c:PE}(hcalm:sh.calm=true)(T:zbn sh es is)(H:zat S sh value c)(hs:∀env,swapsWithSole [.Tuple es k tp] value pos.line env=pure false:=by intro;rfl)(hw:∀env,swappedStores [.Tuple es k tp] value env=pure none:=by intro;rfl) :
  zba S sh (.Assign [.Tuple es k tp] value pos) (zeH is c):=λa ow st s Q X g R q=>by
 have f:=g.f;refine wpAny_Assign_stores (yr (H a ow st s _ X f R q) (λv s₁ h=>?_) λ_ _ x=>zcJ f R x) (hs _) (hw _);left;obtain⟨r,st₁,hq,K,hr⟩:=h;refine za1 (Res.tup_inv hq) λds hzz hq=>?_;subst hzz;obtain⟨hr,_⟩:=hr;refine zbP (zet hq) λhl hq=>?_;have hl:=Nat.eq_of_beq_eq_true hl;obtain⟨t,o,vs,n,rfl,h1,h2,h3,h4⟩:=hr.inv;have R1:=R.step f K;show wpAny _ _ (assign (.Tuple es k tp) a.env (.ref t)) _ _ _;refine zbP (zfP T a.env) λtl1 tl2=>?_;have hsz:vs.size=is.length:=by rw[←hl,←h4.length];simp
 refine wpAny_assign_Tuple (f.calm hcalm).1 ⟨o,h1,h2,n,h3⟩ (tl1.trans hsz.symm) tl2 λh' he=>?_;have hk:∀b o,s₁.heap.get? b=some o->h'.get? b=some o:=λb o e=>he b o (λz=>by rw[z,Heap.get?_none_of_le (Nat.le_refl _)]at e;exact zad e) e;have K2:Step a st₁ st₁ s₁ {s₁ with heap:=h'}:=⟨.refl _,.of_keeps hk,rfl,rfl⟩;have R2:=R1.step f K2;refine zfO f T R2 (h4.goes (R1.goes f K2.keep λb _ q=>q.restr)) hl λs' ow' R'=>⟨.next,ow',_,hq,R',trivial⟩
@[reducible]noncomputable def zdk(i:Nat)(c:PE)(p:D->D->PV):PS:=λQ X st=>atV st i λd=>c (λr st₁=>p d r.d (λr'=>Q .next (zyz i r' st₁)) (λx=>X x st₁)) X st
theorem zcy{i:Nat}{x:Str}{p' op value pos}{c:PE}{p:D->D->PV}(hi:sh.names[i]?=some x)(H:zat S sh value c)(P:zcK S sh (inplaceOp op) p):zba S sh (.AugAssign (.Name x p') op value pos) (zdk i c p):=λa ow st s Q X g R q=>by
 have f:=g.f;left;refine za1 (zv0 q) λd hd q=>?_;have R0:=zdr R;refine zcN R.slots λm hn hl hs=>?_;have hm:x∈sh.names:=yw hi;have hk:a.env.kindOf x=some .local:=by unfold Env.kindOf;exact f.scope▸(f.loc x hm)
 have hkk:a.env.scope.kind=.function:=f.scope▸f.kind;obtain⟨_,v,h1,h2⟩:=hs i x _ (zai.all_of hi) hd;rw[f.ovn hm]at h1;refine wpAny_AugAssign_Name (wpAny_loadName_local hkk hk (f.locals▸hn) h1 ?_);refine yr (H a ow st s _ X f R q) (λv2a s₂ h=>?_) λ_ _ x=>zcJ f R x;left;obtain⟨r,st₁,q,K,hr⟩:=h;have R1:=R.step f K;have hv:zdH S s₂.heap (Pv a noX (restr ow st₁)) v d:=zdH.step f R K (.inl h2);refine yr (P a _ st₁ s₂ v v2a d r.d _ _ f R1 hv hr.c q) (λv3 s3a h=>?_) λ_ _ x=>zcJ f R (x.toE (X:=X) K);refine zcN h λr' hq K' hr'=>?_;have hr'':zg8 S a (restr (restr ow st₁) st₁) st₁ s₂.heap s3a.heap v3 r':=by rw[zaq (Frz.refl st₁)];exact hr'
 exact zld f R1 K' hi hr'' λs' ow' R'=>⟨.next,ow',_,hq,R',trivial⟩
end
open Classical in
noncomputable def Act.at(a:Act)(ow:Nat->Option Addr)(h:Heap)(I:Addr):Act:=
 {a with h₀:=⟨λb=>if b=a.L∨∃i,ow i=some b then none else h.get? b⟩,P:=λb=>a.P b∨b=I}
section
variable{S:St0}{sh:zai}{a:Act}{ow:Nat->Option Addr}{st:Sl}{s:Shared}{I:Addr}
set_option tactic.hygienic true in
theorem zsf{h:Heap}{b:Addr}{o:Obj}(e:(a.at ow h I).h₀.get? b=some o):h.get? b=some o∧b≠a.L∧∀i,ow i≠some b:=by
 unfold Act.at at e;dsimp only at e
 split at e
 ·exact zad e
 ·rename_i n
  exact⟨e,λz=>n (.inl z),λi z=>n (.inr ⟨i,z⟩)⟩
theorem zgU{h:Heap}{b:Addr}{o:Obj}(e:h.get? b=some o)(h1:b≠a.L)(h2:∀i,ow i≠some b):(a.at ow h I).h₀.get? b=some o:=by
 unfold Act.at;dsimp only;rw[if_neg (by rintro(z|⟨i,z⟩);exact h1 z;exact h2 i z)];exact e
theorem zn6(f:a.Fits S sh){X:Addr->Prop}(R:Rel S sh a X ow st s){b:Addr}{o:Obj}(e:a.h₀.get? b=some o):∃o',(a.at ow s.heap I).h₀.get? b=some o':=by
 left;obtain⟨_,o',k,_⟩:=R.keep b o e;refine⟨_,zgU k (λz=>?_) λi z=>?_⟩
 ·rw[z,f.noh₀]at e;exact zad e
 ·rw[(R.own i b z).2.1]at e;exact zad e
theorem Act.Fits.at(f:a.Fits S sh){X:Addr->Prop}(R:Rel S sh a X ow st s){oI:Obj}(hI:s.heap.get? I=some oI)(hIL:I≠a.L)(hIo:∀i,ow i≠some I):(a.at ow s.heap I).Fits S sh:=
 {scope:=f.scope,kind:=f.kind,loc:=f.loc,nodup:=f.nodup,cellk:=f.cellk,celld:=f.celld,nocell:=f.nocell,glob:=f.glob,blt:=f.blt,locals:=f.locals,fronts:=f.fronts,LFsub:=f.LFsub,outs:=f.outs,FP:=λb hb=>.inl (f.FP b hb),nobase:=f.nobase
  noh₀:=by
   cases q:(a.at ow s.heap I).h₀.get? (a.at ow s.heap I).L with
   |none=>rfl
   |some o=>exact absurd rfl (zsf q).2.1
  stays:=λb o e=>zgU (R.stays f b o e) (λz=>by rw[z,f.nobase]at e;exact zad e) λi z=>by
   have:=f.stays b o e;rw[(R.own i b z).2.1]at this;exact zad this
  depth:=f.depth,units:=f.units,guards:=f.guards,hand:=f.hand,calm:=f.calm
  Pdom:=λb q=>by
   rcases q with q|q
   ·refine zfh (yI.mp (f.Pdom b q)) λo ho=>?_
    refine zfh (zn6 (I:=I) f R ho) λo' h=>?_;exact ya _ h
   ·rw[q,zgU hI hIL hIo];rfl
  outer:=λb hb=>by
   left;refine zfh (yI.mp (f.outer b hb)) λo ho=>?_;refine zfh (zn6 (I:=I) f R ho) λo' h=>?_;exact ya _ h
  tab:=f.tab,tabP:=.inl f.tabP,tabB:=f.tabB,code:=f.code,codeA:=f.codeA}
theorem Act.FitsS.at(g:a.FitsS S sh){X:Addr->Prop}(R:Rel S sh a X ow st s){oI:Obj}(hI:s.heap.get? I=some oI)(hIL:I≠a.L)(hIo:∀i,ow i≠some I):(a.at ow s.heap I).FitsS S sh:=⟨g.f.at R hI hIL hIo,g.frame,g.fr⟩
theorem zwF{X:Addr->Prop}{ow':Nat->Option Addr}{b:Addr}:Pv (a.at ow s.heap I) noX ow' b↔Pv a (λc=>c=I) ow' b:=by
 constructor
 ·rintro((q|q)|q|q|q)
  ·exact .inl q
  ·exact .inr (.inr (.inl q))
  ·exact .inr (.inl q)
  ·exact q.elim
  ·exact .inr (.inr (.inr q))
 ·rintro(q|q|q|q)
  ·exact .inl (.inl q)
  ·exact .inr (.inl q)
  ·exact .inl (.inr q)
  ·exact .inr (.inr (.inr q))
theorem zvs{h:Heap}{P P':Addr->Prop}{ow':Nat->Option Addr}{m:Str->Option Value}{st':Sl}(hp:∀b,P' b->P b)(L:zy7 S sh h P ow' m st'):zy7 S sh h P' ow' m st':=
 ⟨L.1,λi x sl h1 h2=>by
  have:=L.2 i x sl h1 h2;clear h2;left
  induction sl with
  |unb=>exact this
  |val d=>obtain⟨q1,v,q2,q3⟩:=this;exact⟨q1,v,q2,q3.goes (.less λb _ q=>hp b q)⟩
  |own ds=>obtain⟨b,o,vs,n,q1,q2,q3,q4,q5,q6,q7⟩:=this;exact⟨b,o,vs,n,q1,q2,q3,q4,q5,q6.goes (.less λb _ q=>hp b q),q7⟩
  |cel d=>obtain⟨b,o,w,q1,q2,q3,q4,q6⟩:=this;exact⟨b,o,w,q1,q2,q3,q4,q6.goes (.less λb _ q=>hp b q)⟩⟩
theorem Rel.at(f:a.Fits S sh)(hc:a.hands=[])(R:Rel S sh a (λb=>b=I) ow st s):Rel S sh (a.at ow s.heap I) noX ow st s:=by
 refine za1 R.slots λm hn hl=>?_;refine⟨(zbO m hn (zvs (λb q=>(zwF (X:=noX)).mp q) hl)),.of_keeps λb o e=>(zsf e).1,R.frames,λi b h=>?_,R.inj,R.gens,R.os,λv hv=>(by
  have:v∈a.hands:=hv;rw[hc]at this;exact zb7 this),R.tab⟩
 ·refine zvH (R.own i b h) λh1 _ _ h4=>?_
  refine⟨h1,?_,λq=>q,h4⟩;cases q:(a.at ow s.heap I).h₀.get? b with
  |none=>rfl
  |some o=>exact absurd h ((zsf q).2.2 i)
theorem Rel.unat(f:a.Fits S sh)(hc:a.hands=[])(R:Rel S sh a (λb=>b=I) ow st s)(hI:∃o,s.heap.get? I=some o){ow':Nat->Option Addr}{st':Sl}{s':Shared}{Y:Addr->Prop}(hIL:I≠a.L)(hIo:∀i,ow i≠some I)(R':Rel S sh (a.at ow s.heap I) Y ow' st' s'):Rel S sh a (λb=>b=I∨Y b) ow' st' s':=by
 refine za1 R'.slots λm hn hl=>?_;refine⟨(zbO m hn (zvs (λb q=>?_) hl)),λb o e=>?_,R'.frames,λi b h=>?_,R'.inj,R'.gens,R'.os,λv hv=>(by rw[hc]at hv;cases hv),R'.tab⟩
 ·left
  rcases q with q|q|q|q
  ·exact .inl (.inl q)
  ·exact .inr (.inl q)
  ·rcases q with q|q
   ·exact .inl (.inr q)
   ·exact .inr (.inr (.inl q))
  ·exact .inr (.inr (.inr q))
 ·left
  obtain⟨k1,o1,k2,k3⟩:=R.keep b o e;have h1:b≠a.L:=λz=>by rw[z,f.noh₀]at e;cases e
  have h2:∀i,ow i≠some b:=λi z=>by rw[(R.own i b z).2.1]at e;cases e
  refine⟨λhb=>(R'.keep b o (zgU (k1 hb) h1 h2)).1 hb,?_⟩;left;obtain⟨_,o2,k4,k5⟩:=R'.keep b _ (zgU k2 h1 h2);refine zbO o2 k4 (zoU.trans (zdQ.refl [] s'.heap) (k3.same λc=>zcS.same λc oc e hcc hd=>?_) k5);obtain⟨ws,hd⟩:=hd;left;obtain⟨m0a,⟨oL,es,ep,w1,w2,_⟩,hl0,hs0⟩:=R.slots;refine zbQ.weak R'.keep (zgU e (λz=>?_) λi z=>?_) (zaL hcc)
  ·clear hcc G
   rw[z,w1]at e;obtain rfl:=yi e;cases hd.symm.trans w2
  ·clear G
   refine zbP (R.own i c z) λhi _=>?_;have hi':i<st.length:=hl0▸hi;have:=hs0 i _ _ (ys hi) (ys hi');revert this;cases st[i]with
   |unb=>intro y;have y:ow i=none:=y;exact zad (y.symm.trans z)
   |val d=>intro y;cases y.1.symm.trans z
   |own ds=>
    rintro⟨b',o',ws',n',y1,_,y3,y4,_⟩;rw[y1]at z;obtain rfl:=yi z;rw[e]at y3;obtain rfl:=yi y3;rw[hcc]at y4;simp at y4
   |cel d=>
    rintro⟨b',o',w',y1,_,y3,y4,_⟩;rw[y1]at z;obtain rfl:=yi z;rw[e]at y3;obtain rfl:=yi y3;exact nomatch hd.symm.trans y4
 ·refine zvH (R'.own i b h) λh1 h2 h3 h4=>?_
  refine⟨h1,?_,?_,h4⟩
  ·cases q:a.h₀.get? b with
   |none=>rfl
   |some o=>
    refine zfh (zn6 (I:=I) f R q) λo' z=>?_;exact zad (h2.symm.trans z)
  ·rintro(q|q)
   ·refine zfh hI λo ho=>?_
    obtain rfl:=q.symm;rw[zgU ho hIL hIo]at h2;exact ziQ h2
   ·exact h3 q
end
inductive zmw(S:St0)(h:Heap)(P:Addr->Prop)(I:Addr):List D->Prop
 |list {l i items ds}:h.IsListIter I l i->h.IsList l items->¬P l->zaO S h P (items.toList.drop i) ds->zmw S h P I ds
 |tup {t i items ds}:h.IsTupleIter I t i->h.IsTuple t items->zaO S h P (items.toList.drop i) ds->zmw S h P I ds
 |ascii {x t i ds}:h.IsStrIter I "str_ascii_iterator" x t i->ds=(x.cps.toList.drop i).map (λc=>D.str [c])->zmw S h P I ds
 |wide {x t i ds}:h.IsStrIter I "str_iterator" x t i->ds=(x.cps.toList.drop i).map (λc=>D.str [c])->zmw S h P I ds
 |range {x k:Int} {n:Nat} {ds}:IsRangeIter h I x (n:Int) k->ds=zre x k n->zmw S h P I ds
section
variable{S:St0}{sh:zai}{a:Act}{ow:Nat->Option Addr}{st:Sl}{s:Shared}{I:Addr}{ds:List D}
theorem zmw.there{h:Heap}{P:Addr->Prop}(x:zmw S h P I ds):∃o vs,h.get? I=some o∧o.data=.fields vs∧o.cls≠.none∧o.cls≠.type "code":=by
 left
 induction x with
 |list h1=>obtain⟨o,q1,qc,q2⟩:=h1;exact zkB o _ q1 q2 (by rw[qc];simp) (by rw[qc];simp)
 |tup h1=>obtain⟨o,q1,qc,q2⟩:=h1;exact zkB o _ q1 q2 (by rw[qc];simp) (by rw[qc];simp)
 |ascii h1=>obtain⟨o,q1,qc,q2⟩:=h1;exact⟨o,_,q1,q2,by rw[qc];simp,by rw[qc];simp⟩
 |wide h1=>obtain⟨o,q1,qc,q2⟩:=h1;exact⟨o,_,q1,q2,by rw[qc];simp,by rw[qc];simp⟩
 |range h1 h2=>exact zkB _ _ h1 rfl (by simp) (by simp)
theorem zmw.goes{h h':Heap}{P P':Addr->Prop}(x:zmw S h P I ds)(G:zfi S h h' P P')(hI:h'.get? I=h.get? I):zmw S h' P' I ds:=by
 induction x with
 |list h1 h2 h3 h4=>
  refine zcN h1 λo q1 q2 q3=>?_;obtain⟨ol,p1,p2,n,p3⟩:=h2;refine zcN (G.obj' p1 h3) λo' z1 z2 z3=>?_;exact .list (zf8 o (hI.trans q1) q2 q3) ⟨o',z1,z2.trans p2,n,z3.trans p3⟩ (λq=>h3 (G.no _ (ya _ p1) q)) (h4.goes G)
 |tup h1 h2 h4=>
  refine zcN h1 λo q1 q2 q3=>?_;obtain⟨ol,p1,p2,n,p3⟩:=h2;refine zcN (G.tup _ _ _ _ p1 p2 p3) λo' z1 z2 z3=>?_;exact .tup (zf8 o (hI.trans q1) q2 q3) ⟨o',z1,z2.trans p2,n,z3.trans p3⟩ (h4.goes G)
 |ascii h1 h2=>obtain⟨o,q1,q2,q3⟩:=h1;exact .ascii (zf8 o (hI.trans q1) q2 q3) h2
 |wide h1 h2=>obtain⟨o,q1,q2,q3⟩:=h1;exact .wide (zf8 o (hI.trans q1) q2 q3) h2
 |range h1 h2=>exact .range (hI.trans h1) h2
theorem zge{α:Type}{l:List α}{i:Nat}{v:α}{vs:List α}(h:l.drop i=v::vs):l[i]?=some v∧l.drop (i+1)=vs:=by
 have hlt:i<l.length:=by
  cases Nat.lt_or_ge i l.length with
  |inl q=>exact q
  |inr q=>rw[List.drop_eq_nil_of_le q]at h;exact znD h
 rw[List.drop_eq_getElem_cons hlt]at h;injection h with h1 h2;exact⟨by rw[List.getElem?_eq_getElem hlt,h1],h2⟩
theorem Rel.iter(f:a.Fits S sh){X:Addr->Prop}(hX:X I)(R:Rel S sh a X ow st s)(hI0:a.h₀.get? I=none){P:Addr->Prop}(x:zmw S s.heap P I ds){h':Heap}{tk:Nat}(hb:∀b o,b≠I->s.heap.get? b=some o->h'.get? b=some o) :
  Rel S sh a X ow st {s with heap:=h',toks:=tk}∧zfi S s.heap h' (Pv a X ow) (Pv a X ow):=by
 refine zfQ x.there λo vs h1 h2 hcl=>?_;refine⟨R.moveG f (G:=λb=>b=I) (.of_but λb o e n=>hb b o n e) rfl rfl (λb q=>q▸hX) (λb q=>q▸hI0) (λb q hm=>(R.nob f b hm).2 o vs (q▸h1) hcl.1 h2) (λb o' q e=>by subst q;rw[h1]at e;obtain rfl:=yi e;exact⟨_,h2⟩) (λ_ _ q=>q) (λb o' q e=>by subst q;rw[h1]at e;obtain rfl:=yi e;exact hcl.2),?_⟩;have hbase:S.base.get? I=none:=by
  cases q:S.base.get? I with
  |none=>rfl
  |some o=>rw[f.stays _ _ q]at hI0;exact ziQ hI0
 exact⟨λb o e n=>hb b o (λz=>n (.inr (.inr (.inl (z▸hX))))) e,λb o e1 e2=>hb b o (λz=>by rw[z,hbase]at e1;exact zad e1) e2,λb o ws n e _ d=>(zf8 o (hb b o (λz=>by subst z;rw[h1]at e;obtain rfl:=yi e;cases h2.symm.trans d) e) rfl rfl),λ_ _ q=>q,λb o e c=>⟨o,hb b o (λz=>by
  clear hbase hb;subst z;rw[h1]at e;obtain rfl:=yi e;rcases c with⟨c,_⟩|⟨fd,c⟩
  ·exact hcl.2 c
  ·cases h2.symm.trans c) e,rfl,rfl⟩⟩
theorem zuF(f:a.Fits S sh)(hc:a.A.handled=none){X:Addr->Prop}(hX:X I)(R:Rel S sh a X ow st s)(hI0:a.h₀.get? I=none)(x:zmw S s.heap (Pv a X ow) I []){Q:Option Value->Shared->Prop}{E:Value->Shared->Prop}
  (k:∀s',Rel S sh a X ow st s'->zfi S s.heap s'.heap (Pv a X ow) (Pv a X ow)->(∀b o,b≠I->s.heap.get? b=some o->s'.heap.get? b=some o)->Q none s'):wpAny (model S.prog S.w) a.A (pyNext (.ref I)) Q E s:=by
 have go:∀h',Heap.ExtBut I s.heap h'->Q none {s with heap:=h'}:=λh' hb=>let z:=R.iter f hX hI0 x (tk:=s.toks) λb o n e=>hb b o n e;k _ z.1 z.2 λb o n e=>hb b o n e
 left;cases x with
 |@list l i items _ h1 h2 h3 h4=>
  refine wpAny_pyNext_list_end hc h1 h2 ?_ go;have:=h4.length;simp at this;rw[Array.getElem?_eq_none_iff];omega
 |@tup t i items _ h1 h2 h4=>
  refine wpAny_pyNext_tuple_end hc h1 h2 ?_ go;have:=h4.length;simp at this;rw[Array.getElem?_eq_none_iff];omega
 |@ascii x t i _ h1 h2=>
  refine wpAny_pyNext_ascii_end hc h1 ?_ go;have:=ya List.length h2;simp at this;rw[Array.getElem?_eq_none_iff];omega
 |@wide x t i _ h1 h2=>
  refine wpAny_pyNext_wide_end hc h1 ?_ go;have:=ya List.length h2;simp at this;rw[Array.getElem?_eq_none_iff];omega
 |@range x k n _ h1 h2=>
  induction n with
  |zero=>exact wpAny_pyNext_range_end hc h1 (Int.le_refl 0) go
  |succ n=>exact znD h2
theorem zrp(f:a.Fits S sh){X:Addr->Prop}(hX:X I)(R:Rel S sh a X ow st s)(hI0:a.h₀.get? I=none){d:D}(x:zmw S s.heap (Pv a X ow) I (d::ds)){Q:Option Value->Shared->Prop}{E:Value->Shared->Prop}
  (k:∀s' v,Rel S sh a X ow st s'->zfi S s.heap s'.heap (Pv a X ow) (Pv a X ow)->(∀b o,b≠I->s.heap.get? b=some o->s'.heap.get? b=some o)->zcj S s'.heap (Pv a X ow) v d->zmw S s'.heap (Pv a X ow) I ds->Q (some v) s'):wpAny (model S.prog S.w) a.A (pyNext (.ref I)) Q E s:=by
 have mv:∀h' tk,Heap.SameBut I s.heap h'->Rel S sh a X ow st {s with heap:=h',toks:=tk}∧zfi S s.heap h' (Pv a X ow) (Pv a X ow):=λh' tk hb=>
  R.iter f hX hI0 x λb o n e=>(hb.2 b n).trans e
 have hIne:∀o vs b,s.heap.get? b=some o->o.data=.seq vs b->b≠I:=λo vs b e d z=>by
  refine zfQ x.there λo' ws q1 q2 _=>?_;rw[z,q1]at e;obtain rfl:=yi e;cases q2.symm.trans d
 left;refine zfQ x.there λoI ws hoI hdI _=>?_;have seqI:∀b o vs n,s.heap.get? b=some o->o.data=.seq vs n->b≠I:=λb o vs n e d z=>by
  left;rw[z,hoI]at e;obtain rfl:=yi e;cases hdI.symm.trans d
 cases x with
 |@list l i items _ h1 h2 h3 h4=>
  obtain⟨v,vs,hdr,hv,hvs⟩:∃v vs,items.toList.drop i=v::vs∧zcj S s.heap (Pv a X ow) v d∧zaO S s.heap (Pv a X ow) vs ds:=by
   revert h4;cases items.toList.drop i with
   |nil=>intro h4;cases h4
   |cons v vs=>intro h4;cases h4 with|cons a b=>exact⟨v,vs,rfl,a,b⟩
  obtain⟨hx,hdr'⟩:=zge hdr;rw[Array.getElem?_toList]at hx;refine wpAny_pyNext_list_item h1 h2 hx λh' hi hs=>?_;obtain⟨R',G⟩:=mv h' s.toks hs;obtain⟨ol,p1,p2,n,p3⟩:=h2;refine k _ v R' G (λb o n e=>(hs.2 b n).trans e) (hv.goes G) (.list hi ⟨ol,(hs.2 l (seqI l ol _ _ p1 p3)).trans p1,p2,n,p3⟩ h3 ?_);rw[hdr'];exact hvs.goes G
 |@tup l i items _ h1 h2 h4=>
  left;obtain⟨v,vs,hdr,hv,hvs⟩:∃v vs,items.toList.drop i=v::vs∧zcj S s.heap (Pv a X ow) v d∧zaO S s.heap (Pv a X ow) vs ds:=by
   revert h4;cases items.toList.drop i with
   |nil=>intro h4;cases h4
   |cons v vs=>intro h4;cases h4 with|cons a b=>exact⟨v,vs,rfl,a,b⟩
  obtain⟨hx,hdr'⟩:=zge hdr;rw[Array.getElem?_toList]at hx;refine wpAny_pyNext_tuple_item h1 h2 hx λh' hi hs=>?_;obtain⟨R',G⟩:=mv h' s.toks hs;obtain⟨ol,p1,p2,n,p3⟩:=h2;refine k _ v R' G (λb o n e=>(hs.2 b n).trans e) (hv.goes G) (.tup hi ⟨ol,(hs.2 l (seqI l ol _ _ p1 p3)).trans p1,p2,n,p3⟩ ?_);rw[hdr'];exact hvs.goes G
 |@ascii x t i _ h1 h2=>
  obtain⟨c,cs,hdr,rfl,rfl⟩:∃c cs,x.cps.toList.drop i=c::cs∧d=D.str [c]∧ds=cs.map (λc=>D.str [c]):=by
   revert h2;cases x.cps.toList.drop i with
   |nil=>intro h2;exact ziz h2
   |cons c cs=>intro h2;cases h2;exact⟨c,cs,rfl,rfl,rfl⟩
  obtain⟨hx,hdr'⟩:=zge hdr;rw[Array.getElem?_toList]at hx;refine wpAny_pyNext_ascii_item h1 hx λh' hi hs=>?_;obtain⟨R',G⟩:=mv h' (s.toks+1) hs;exact k _ _ R' G (λb o n e=>(hs.2 b n).trans e) (.str [c] _) (.ascii hi (by rw[hdr']))
 |@wide x t i _ h1 h2=>
  obtain⟨c,cs,hdr,rfl,rfl⟩:∃c cs,x.cps.toList.drop i=c::cs∧d=D.str [c]∧ds=cs.map (λc=>D.str [c]):=by
   revert h2;cases x.cps.toList.drop i with
   |nil=>intro h2;exact ziz h2
   |cons c cs=>intro h2;cases h2;exact⟨c,cs,rfl,rfl,rfl⟩
  obtain⟨hx,hdr'⟩:=zge hdr;rw[Array.getElem?_toList]at hx;refine wpAny_pyNext_wide_item h1 hx λh' hi hs=>?_;obtain⟨R',G⟩:=mv h' (s.toks+1) hs;exact k _ _ R' G (λb o n e=>(hs.2 b n).trans e) (.str [c] _) (.wide hi (by rw[hdr']))
 |@range x c n _ h1 h2=>
  induction n with
  |zero=>exact ziz h2
  |succ n=>
   injection h2 with h2 h3;refine wpAny_pyNext_range_item h1 (Int.natCast_pos.mpr (yd n)) λh' hi hs=>?_;obtain⟨R',G⟩:=mv h' (s.toks+1) hs;have e:((n+1:Nat):Int)-1=(n:Int):=by lia
   rw[e]at hi;exact k _ _ R' G (λb o n e=>(hs.2 b n).trans e) (h2▸.int x s.toks) (.range (n:=n) hi h3)
end
noncomputable def zxQ:D->Option (List D)
 |.lst ds=>some ds
 |.tup ds=>some ds
 |.str l=>some (l.map λc=>.str [c])
 |.rng ds=>some ds
 |_=>none
noncomputable def zu7(i:Nat)(b:PS):List D->PS
 |[],Q,_,st=>Q .next st
 |d::ds,Q,X,st=>b (lpK Q (zu7 i b ds Q X)) X (st.set i (.val d))
section
variable{S:St0}{sh:zai}{a:Act}{ow:Nat->Option Addr}{st:Sl}{s:Shared}{I:Addr}{ds:List D}
theorem zeV(f:a.Fits S sh)(R:Rel S sh a noX ow st s)(o:Obj)(t:Nat):Rel S sh a (λb=>b=s.heap.objs.size) ow st {s with heap:=s.heap.push o,toks:=t} ∧
  zfi S s.heap (s.heap.push o) (Pv a noX ow) (Pv a (λb=>b=s.heap.objs.size) ow)∧s.heap.get? s.heap.objs.size=none:=by
 have hn:s.heap.get? s.heap.objs.size=none:=yP (yq _);have:=R.stepX f (st':=st) (s':={s with heap:=s.heap.push o,toks:=t}) ⟨.refl _,.push _ _,rfl,rfl⟩ (X':=λb=>b=s.heap.objs.size) λb hb q=>by rw[q,hn]at hb;exact zaD hb
 rw[zdr R]at this;exact⟨this,ze3 λb hb q=>by
  rcases q with q|q|q|q
  ·exact .inl q
  ·exact .inr (.inl q)
  ·rw[q,hn]at hb;exact zaD hb
  ·exact .inr (.inr (.inr q)),hn⟩
set_option tactic.hygienic true in
theorem zo1(f:a.Fits S sh)(R:Rel S sh a noX ow st s){v:Value}{d:D}(hv:zcj S s.heap (Pv a noX ow) v d)(hd:zxQ d=some ds){Q:Value->Shared->Prop}{E:Value->Shared->Prop}
  (k:∀I s',s.heap.get? I=none->Step a st st s s'->Rel S sh a (λb=>b=I) ow st s'->zmw S s'.heap (Pv a (λb=>b=I) ow) I ds->Q (.ref I) s'):wpAny (model S.prog S.w) a.A (pyIter v) Q E s:=by
 cases hv
 case str l t=>
  have hd:(l.map λc=>D.str [c])=ds:=yi hd;left;cases ha:(mk l).cps.all (·<128)with
  |true=>
   refine wpAny_pyIter_ascii ha ?_;obtain⟨R',G,hn⟩:=zeV f R {cls:=.type "str_ascii_iterator",data:=.fields #[.str (mk l) t,.int 0 0]} s.toks;exact k _ _ hn ⟨.refl _,.push _ _,rfl,rfl⟩ R' (.ascii (zf8 _ (yF _ rfl) rfl rfl) (by rw[←hd];simp[mk]))
  |false=>
   refine wpAny_pyIter_wide ha ?_;obtain⟨R',G,hn⟩:=zeV f R {cls:=.type "str_iterator",data:=.fields #[.str (mk l) t,.int 0 0]} s.toks;exact k _ _ hn ⟨.refl _,.push _ _,rfl,rfl⟩ R' (.wide (zf8 _ (yF _ rfl) rfl rfl) (by rw[←hd];simp[mk]))
 case tup b o vs n ds' h1 h2 h3 h4=>
  obtain rfl:ds'=ds:=yi hd;refine wpAny_pyIter_tuple ⟨o,h1,h2,n,h3⟩ ?_;left;obtain⟨R',G,hn⟩:=zeV f R {cls:=.type "tuple_iterator",data:=.fields #[.ref b,.int 0 0]} s.toks;exact k _ _ hn ⟨.refl _,.push _ _,rfl,rfl⟩ R' (.tup (zf8 _ (yF _ rfl) rfl rfl) ⟨o,yB _ h1,h2,n,h3⟩ (by rw[List.drop_zero];exact h4.goes G))
 case lst b o vs n ds' h1 hP h2 h3 h4=>
  obtain rfl:ds'=ds:=yi hd;refine wpAny_pyIter_list ⟨o,h1,h2,n,h3⟩ ?_;obtain⟨R',G,hn⟩:=zeV f R {cls:=.type "list_iterator",data:=.fields #[.ref b,.int 0 0]} s.toks;exact k _ _ hn ⟨.refl _,.push _ _,rfl,rfl⟩ R' (.list (zf8 _ (yF _ rfl) rfl rfl) ⟨o,yB _ h1,h2,n,h3⟩ (λq=>hP (G.no _ (by rw[h1];rfl) q)) (by rw[List.drop_zero];exact h4.goes G))
 case rng r x b c t u w ds' n h1 hP h2 h3 h4=>
  obtain rfl:ds'=ds:=yi hd;refine wpAny_pyIter_range h1 h3 ?_;rw[←h2];obtain⟨R',G,hn⟩:=zeV f R {cls:=.type "range_iterator",data:=.fields #[rawInt x,rawInt (n:Int),rawInt c]} s.toks;exact k _ _ hn ⟨.refl _,.push _ _,rfl,rfl⟩ R' (.range (yF _ rfl) h4)
 all_goals exact zad (show(none:Option (List D))=some ds from hd)
theorem zw1(f:a.Fits S sh)(R:Rel S sh a (λb=>b=I) ow st s){ow':Nat->Option Addr}{st':Sl}{s':Shared}(R':Rel S sh (a.at ow s.heap I) noX ow' st' s'):zfi S s.heap s'.heap (Pv a (λb=>b=I) ow) (Pv a (λb=>b=I) ow'):=by
 have nob:=R.nob f;refine⟨λb o e n=>?_,λb o e1 e2=>?_,λb o vs n e c d=>?_,λb hb q=>?_,λb o e c=>?_⟩
 ·have hp:=zgU (I:=I) (a:=a) e (λz=>n (.inr (.inl z))) λi z=>n (.inr (.inr (.inr ⟨i,z⟩)))
  exact(R'.keep b o hp).1 λq=>n (.inl (f.FP b q))
 ·have h1:b≠a.L:=λz=>by rw[z,f.nobase]at e1;exact zad e1
  have h2:∀i,ow i≠some b:=λi z=>by
   have:=f.stays b o e1;rw[(R.own i b z).2.1]at this;exact zad this
  exact(R'.keep b o (zgU e2 h1 h2)).1 λq=>by rw[(nob b (List.mem_cons_of_mem _ q)).1]at e1;exact zad e1
 ·left
  obtain⟨m,⟨oL,es,ep,w1,w2,_⟩,hl,hs⟩:=R.slots;have h1:b≠a.L:=λz=>by rw[z,w1]at e;obtain rfl:=yi e;cases w2.symm.trans d
  have h2:∀i,ow i≠some b:=λi z=>by
   clear G;refine zbP (R.own i b z) λhi _=>?_;have hi':i<st.length:=hl▸hi;have:=hs i _ _ (ys hi) (ys hi');clear h1;revert this;cases st[i]with
   |unb=>intro y;have y:ow i=none:=y;exact zad (y.symm.trans z)
   |val d=>intro y;cases y.1.symm.trans z
   |own ds=>
    rintro⟨b',o',ws,n',y1,_,y3,y4,_⟩;rw[y1]at z;obtain rfl:=yi z;rw[e]at y3;obtain rfl:=yi y3;rw[c]at y4;simp at y4
   |cel dd=>
    rintro⟨b',o',w',y1,_,y3,y4,_⟩;rw[y1]at z;obtain rfl:=(yi z).symm;rw[e]at y3;obtain rfl:=yi y3;exact nomatch d.symm.trans y4
  exact zbQ.weak R'.keep (zgU e h1 h2) (zaL c)
 ·rcases q with q|q|q|⟨j,q⟩
  ·exact .inl q
  ·exact .inr (.inl q)
  ·exact .inr (.inr (.inl q))
  ·refine Classical.byContradiction λhn=>?_
   obtain⟨o,ho⟩:=yI.mp hb;have hp:=zgU (I:=I) (a:=a) ho (λz=>hn (.inr (.inl z))) λi z=>hn (.inr (.inr (.inr ⟨i,z⟩)));rw[(R'.own j b q).2.1]at hp;exact zad hp
 ·left
  obtain⟨m,⟨oL,es,ep,w1,w2,_⟩,hl,hs⟩:=R.slots;have h1:b≠a.L:=λz=>by
   rw[z,w1]at e;obtain rfl:=yi e;rcases c with⟨_,vs,d⟩|⟨fd,d⟩<;>(cases w2.symm.trans d)
  have h2:∀i,ow i≠some b:=λi z=>by
   refine zbP (R.own i b z) λhi _=>?_;have hi':i<st.length:=hl▸hi;have:=hs i _ _ (ys hi) (ys hi');revert this;cases st[i]with
   |unb=>intro y;have y:ow i=none:=y;exact zad (y.symm.trans z)
   |val d=>intro y;cases y.1.symm.trans z
   |own ds=>
    rintro⟨b',o',ws,n',y1,_,y3,y4,y5,_⟩;rw[y1]at z;obtain rfl:=yi z;rw[e]at y3;obtain rfl:=yi y3;rcases c with⟨_,vs,d⟩|⟨fd,d⟩<;>(cases y5.symm.trans d)
   |cel dd=>
    rintro⟨b',o',w',y1,_,y3,y5,_⟩;rw[y1]at z;obtain rfl:=(yi z).symm;rw[e]at y3;obtain rfl:=yi y3;rcases c with⟨_,vs,d⟩|⟨fd,d⟩<;>(cases y5.symm.trans d)
  exact zbQ.weak R'.keep (zgU e h1 h2) (zfS c)
@[reducible]noncomputable def zk4(i:Nat)(c:PE)(b:PS):PS:=λQ X st=>c (λr st₁=>oM (zxQ r.d) λds=>zu7 i b ds Q X (r.seal st₁)) X st
theorem zm2(f:a.Fits S sh){X:Addr->Prop}(R:Rel S sh a X ow st s){e:Addr}(h:(a.at ow s.heap I).h₀.get? e=none):a.h₀.get? e=none:=by
 cases q:a.h₀.get? e with
 |none=>rfl
 |some o=>obtain⟨o',z⟩:=zn6 (I:=I) f R q;rw[h]at z;exact zad z
structure Jk(J:Sl->Nat->Prop)(i:Nat):Prop where
 grow:∀st k k',k≤k'->J st k->J st k'
 frz:∀st st' k,Frz st st'->J st k->J st' k
 put:∀st k d,J st k->J (st.set i (.val d)) k
noncomputable def zzH(J:Sl->Nat->Prop)(S:St0)(sh:zai)(e:Expr)(c:PE):Prop:=
 ∀(a:Act)(ow:Nat->Option Addr)(st:Sl)(s:Shared)(Q:Res->Sl->Prop)(X:Err->Sl->Prop),J st s.toks->a.Fits S sh->Rel S sh a noX ow st s->c Q X st ->
  wpAny (model S.prog S.w) a.A (eval e a.env) (OkE S a ow st s Q) (zfN S a st s X) s
noncomputable def zmW(J:Sl->Nat->Prop)(S:St0)(sh:zai)(t:Stmt)(c:PS):Prop:=
 ∀(a:Act)(ow:Nat->Option Addr)(st:Sl)(s:Shared)(Q:Fl->Sl->Prop)(X:Err->Sl->Prop),J st s.toks->a.FitsS S sh->Rel S sh a noX ow st s->c Q X st ->
  wpAny (model S.prog S.w) a.A (exec t a.env) (λfl s'=>OkS S sh a (λfl st'=>Q fl st'∧J st' s'.toks) fl s') (zi2 S sh a X) s
noncomputable def zjC(J:Sl->Nat->Prop)(S:St0)(sh:zai)(t:List Stmt)(c:PS):Prop:=
 ∀(a:Act)(ow:Nat->Option Addr)(st:Sl)(s:Shared)(Q:Fl->Sl->Prop)(X:Err->Sl->Prop),J st s.toks->a.FitsS S sh->Rel S sh a noX ow st s->c Q X st ->
  wpAny (model S.prog S.w) a.A (execs t a.env) (λfl s'=>OkS S sh a (λfl st'=>Q fl st'∧J st' s'.toks) fl s') (zi2 S sh a X) s
theorem zqM{J:Sl->Nat->Prop}{e:Expr}{x:Str}{p pos:Pos}{i:Nat}{body:List Stmt}{c:PE}{b:PS}(jk:Jk J i)(hcalm:sh.calm=true)(hi:sh.names[i]?=some x)(H:zzH J S sh e c)(Hb:zjC J S sh body b)(hs:∀env v,foldedSetIterable e env v=pure v) :
  zmW J S sh (.For (.Name x p) e body [] pos) (zk4 i c b):=λa ow st s Q X hJ g R q=>by
 have f:=g.f;refine zbP (f.calm hcalm) λhh hhands=>?_;refine wpAny_For (yr (wpAny_toks (H a ow st s _ X hJ f R q)) (λv s₁ h=>?_) λ_ _ x=>zcJ f R x.2) (hs _);left;obtain⟨hn1,r,st₁,hq,K,hr⟩:=h;refine za1 (oM_inv hq) λds hd hq=>?_;refine zbP (zf3 f R K hr) λK' hv=>?_;have R1:=R.step f K';have hJ1:=jk.frz _ _ _ K'.frz (jk.grow _ _ _ hn1 hJ);refine wpAny_with_toks (yq _) (zo1 f R1 hv hd λI s₂ hI _ R2 it hn2=>?_);have hI0:a.h₀.get? I=none:=R1.keep.new hI;refine codeAny_forLoop_any (λn s=>∃ow st ds,ds.length=n∧(zu7 i b ds Q X st∧J st s.toks)∧Rel S sh a (λb=>b=I) ow st s∧zmw S s.heap (Pv a (λb=>b=I) ow) I ds) (λn s hI=>?_) ds.length (zsz _ _ ds rfl ⟨hq,jk.grow _ _ _ hn2 hJ1⟩ R2 it);refine zuz hI λow st ds hzz hq R it=>?_;subst hzz;obtain⟨hq,hJ⟩:=hq
 induction ds with
 |nil=>exact wpAny_with_toks (yq _) (zuF f hh (X:=λb=>b=I) rfl R hI0 it λs' R' _ _ hn=>wpAny_execs_nil ⟨.next,ow,st,⟨hq,jk.grow _ _ _ hn hJ⟩,R'.lessX f λ_ q=>q.elim,trivial⟩)
 |cons d ds=>
  refine wpAny_with_toks (yq _) (zrp f (X:=λb=>b=I) rfl R hI0 it λs3a v R3 _ _ hv it3 hn3=>?_);refine yn ?_;refine zfQ it3.there λoI wI hoI hdI hcI=>?_;have hIL:I≠a.L:=λz=>(R3.nob f a.L yp).2 oI wI (z▸hoI) hcI.1 hdI;have hIo:∀j,ow j≠some I:=λj z=>(R3.own j I z).2.2.1 rfl;have g3a:=g.at R3 hoI hIL hIo;have f3:=g3a.f;have R4:=R3.at f hhands;have hv4:zcj S s3a.heap (Pv (a.at ow s3a.heap I) noX ow) v d:=hv.goes (.less λb _ q=>(zwF (X:=noX)).mp q);refine yk (yT (wpAny_bindName ?_));refine wpAny_with_toks hn3 (ze4 f3 R4 hi hv4 λs4a R5 _ hn4=>?_);refine yr (Hb (a.at ow s3a.heap I) _ _ s4a _ X (jk.put _ _ _ (jk.grow _ _ _ hn4 hJ)) g3a R5 hq) (λfl s5a h=>?_) λev s5a h=>?_
  ·left
   obtain⟨fl',ow',st',⟨h1,hJ5⟩,h2,h3⟩:=h;have Ru:Rel S sh a (λb=>b=I) ow' st' s5a:=(R3.unat f hhands ⟨oI,hoI⟩ hIL hIo h2).lessX f λb q=>.inl q;have G:=zw1 f R3 h2;have hsame:s5a.heap.get? I=s3a.heap.get? I:=by
    rw[hoI];exact(h2.keep I oI (zgU hoI hIL hIo)).1 λq=>(R3.nob f I (ym _ q)).2 oI wI hoI hcI.1 hdI
   have it':=it3.goes G hsame
   induction fl<;>induction fl'<;>first
    |exact h3.elim
    |exact⟨_,yO _,ow',st',ds,rfl,⟨h1,hJ5⟩,Ru,it'⟩
    |exact⟨.next,ow',st',⟨h1,hJ5⟩,Ru.lessX f λ_ q=>q.elim,trivial⟩
    |exact⟨_,ow',st',⟨h1,hJ5⟩,Ru.lessX f (λ_ q=>q.elim),h3.1.goes (.less λb _ q=>(zwF (X:=noX)).mpr q.noX_le),λz=>let ⟨e',e1,e2⟩:=h3.2 z;(zbO e' e1 (zm2 f R3 e2))⟩
  ·refine zc0 g g.frames ?_
   left;obtain⟨x,ow',st',e',T,h1,h2,rfl,h4,h5,h6⟩:=h;exact⟨x,ow',st',e',T,h1,(R3.unat f hhands ⟨oI,hoI⟩ hIL hIo h2).lessX f λb q=>.inr q,rfl,zm2 f R3 h4,λb hb=>zm2 f R3 (h5 b hb),h6⟩
theorem zkA{n₀:Nat}{e:Expr}{x:Str}{p pos:Pos}{i:Nat}{body:List Stmt}{c:PE}{b:PS}(hcalm:sh.calm=true)(hi:sh.names[i]?=some x)(H:zdI n₀ S sh e c)(Hb:zc2 n₀ S sh body b)(hs:∀env v,foldedSetIterable e env v=pure v) :
  ziB n₀ S sh (.For (.Name x p) e body [] pos) (zk4 i c b):=λa ow st s Q X hn g R q=>by
 refine yr (zqM (J:=λ_ k=>n₀≤k) ⟨λ_ _ _ h k=>yj k h,λ_ _ _ _ k=>k,λ_ _ _ k=>k⟩ hcalm hi H (λa ow st s Q X hn g R q=>?_) hs a ow st s Q X hn g R q) (λfl s' h=>?_) λ_ _ x=>x
 ·refine yr (wpAny_toks_of hn (Hb a ow st s Q X hn g R q)) (λfl s' h=>?_) λ_ _ x=>x.2
  obtain⟨hn',fl',ow',st',h1,h2,h3⟩:=h;exact⟨fl',ow',st',⟨h1,hn'⟩,h2,h3⟩
 ·obtain⟨fl',ow',st',h1,h2,h3⟩:=h
  exact⟨fl',ow',st',h1.1,h2,h3⟩
theorem zuP{e:Expr}{x:Str}{p pos:Pos}{i:Nat}{body:List Stmt}{c:PE}{b:PS}(hcalm:sh.calm=true)(hi:sh.names[i]?=some x)(H:zat S sh e c)(Hb:zaV S sh body b)(hs:∀env v,foldedSetIterable e env v=pure v:=by intros;rfl) :
  zba S sh (.For (.Name x p) e body [] pos) (zk4 i c b):=(zkA hcalm hi H.t Hb.t hs).s
end
section
variable{S:St0}{sh:zai}{a:Act}{ow:Nat->Option Addr}{st:Sl}{s:Shared}
theorem Rel.own_put(f:a.Fits S sh)(R:Rel S sh a noX ow st s){i:Nat}{b:Addr}{o:Obj}{sl0 sl':Slot}(hb:ow i=some b)(hi:st[i]?=some sl0)(ho:s.heap.get? b=some o)(hnF:∀vs,o.data≠.fields vs)(hnf:∀fd,o.data≠.func fd)
  (hnt:∀vs n,o.cls=.type "tuple"->o.data=.seq vs n->False){h':Heap}{tk:Nat}(hsb:Heap.SameBut b s.heap h')
  (hnew:∀v,zfT S s.heap (Pv a noX ow) v (ow i) sl0->zfi S s.heap h' (Pv a noX ow) (Pv a noX ow)->zfT S h' (Pv a noX ow) v (ow i) sl'):Rel S sh a noX ow (st.set i sl') {s with heap:=h',toks:=tk}:=by
 refine zcN R.slots λm hn hl hs=>?_;refine zvH (R.own i b hb) λhlt hb0 _ hbL=>?_;have G:zfi S s.heap h' (Pv a noX ow) (Pv a noX ow):=⟨λc oc e nP=>(hsb.2 c λz=>nP (.inr (.inr (.inr ⟨i,z▸hb⟩)))).trans e,λc oc e1 e2=>(hsb.2 c λz=>by
   have:=f.stays c oc e1;rw[z,hb0]at this;exact zad this).trans e2,λc oc ws n' e hc d=>⟨oc,(hsb.2 c λz=>by
   rw[z,ho]at e;obtain rfl:=yi e;exact hnt _ _ hc d).trans e,rfl,rfl⟩,λ_ _ q=>q,λc oc e cc=>⟨oc,(hsb.2 c λz=>by
   left;rw[z,ho]at e;obtain rfl:=yi e;exact cc.elim (λq=>q.2.elim hnF) λq=>q.elim hnf).trans e,rfl,rfl⟩⟩
 have hcode:∀c oc,s.heap.get? c=some oc->oc.cls=.type "code"->(∃vs,oc.data=.fields vs)->∃o',h'.get? c=some o'∧o'.cls=oc.cls∧o'.data=oc.data:=λc oc e _ hd=>⟨oc,(hsb.2 c λz=>by
   rw[z,ho]at e;obtain rfl:=yi e;exact hd.elim hnF).trans e,rfl,rfl⟩
 refine⟨(zf8 m ?_ (List.length_set.trans hl) (λj x sl hj hsl=>?_)),R.keep.same (λc oc e=>hsb.2 c λz=>by rw[z,hb0]at e;exact zad e) (λc=>zcS.same hcode),?_,R.own,R.inj,R.gens,R.os,λv hv=>(R.hands v hv).same (λc oc ws e _ _ d=>(hsb.2 c λz=>by
   rw[z,ho]at e;obtain rfl:=yi e;exact absurd d (hnF ws)).trans e) λ_ _ q=>q,R.tab.same (hsb.2 _ λz=>by
   clear hnt hnf;refine za1 R.tab λps h1 _=>?_;rw[z,ho]at h1;obtain rfl:=yi h1;exact hnF _ rfl) hcode⟩
 ·refine zra hn λoL es ep w1 w2 w3=>?_
  exact zxL oL es ep ((hsb.2 _ (Ne.symm hbL)).trans w1) w2 w3
 ·clear hlt
  by_cases e:j=i
  ·subst e
   rw[List.getElem?_set_self (List.getElem?_eq_some_iff.mp hi).1]at hsl;obtain rfl:=yi hsl;exact hnew _ (hs j x _ hj hi) G
  ·rw[List.getElem?_set_ne (Ne.symm e)]at hsl
   have:=hs j x sl hj hsl
   induction sl with
   |unb=>exact this
   |val d=>obtain⟨q1,v,q2,q3⟩:=this;exact⟨q1,v,q2,q3.goes G⟩
   |own dd=>
    obtain⟨b',ob,w',k',q1,q2,q3,q4,q5,q6,q7⟩:=this;exact⟨b',ob,w',k',q1,q2,(hsb.2 b' λz=>e (R.inj j i b (z▸q1) hb)).trans q3,q4,q5,q6.goes G,q7⟩
   |cel d=>
    obtain⟨b',ob,w',q1,q2,q3,q4,q5⟩:=this;exact⟨b',ob,w',q1,q2,(hsb.2 b' λz=>e (R.inj j i b (z▸q1) hb)).trans q3,q4,q5.goes G⟩
 ·refine zje R.frames λc hc=>hsb.2 c λz=>?_
  rcases yx.mp (f.LFsub c hc)with q|q
  ·exact hbL (z▸q)
  ·have:=f.outer c q
   rw[z,hb0]at this;exact zaD this
theorem Rel.own_set(f:a.Fits S sh)(R:Rel S sh a noX ow st s){i:Nat}{b:Addr}{ds ds':List D}(hb:ow i=some b)(hi:st[i]?=some (.own ds)){h':Heap}{tk:Nat}(hsb:Heap.SameBut b s.heap h'){o o':Obj}{w vs:Array Value}{k n:Nat}
  (ho:s.heap.get? b=some o)(hoc:o.cls=.type "list")(hod:o.data=.seq w k)
  (h1:h'.get? b=some o')(h2:o'.cls=.type "list")(h3:o'.data=.seq vs n)(h4:o'.dict=none)(hv:zaO S s.heap (Pv a noX ow) vs.toList ds'):Rel S sh a noX ow (st.set i (.own ds')) {s with heap:=h',toks:=tk}:=
 R.own_put f hb hi ho (λ_ e=>nomatch hod.symm.trans e) (λ_ e=>nomatch hod.symm.trans e) (λ_ _ e _=>by rw[hoc]at e;simp at e) hsb λv q G=>by
  obtain⟨b',_,_,_,q1,q2,_⟩:=q;rw[hb]at q1;obtain rfl:=yi q1;exact⟨b,o',vs,n,hb,q2,h1,h2,h3,hv.goes G,h4⟩
@[reducible]noncomputable def zfp(i:Nat)(c:PE):PS:=λQ X st=>atO st i λ_=>c (λr st₁=>atO (r.seal st₁) i λds=>ds.length≤1000000∧Q .next ((r.seal st₁).set i (.own (ds++[r.d])))) X st
noncomputable def zvy(I:Res->Nat->Prop)(n:Nat)(S:St0)(sh:zai)(e:Expr)(c:PE):Prop:=
 ∀(a:Act)(ow:Nat->Option Addr)(st:Sl)(s:Shared)(Q:Res->Sl->Prop)(X:Err->Sl->Prop),n≤s.toks->a.Fits S sh->Rel S sh a noX ow st s->c Q X st ->
  wpAny (model S.prog S.w) a.A (eval e a.env) (λv s'=>OkE S a ow st s (λr st'=>Q r st'∧I r s'.toks) v s') (zfN S a st s X) s
theorem zjM{I:Res->Nat->Prop}{n₀:Nat}{i:Nat}{x:Str}{p apos pos cpos:Pos}{e:Expr}{c:PE}(hi:sh.names[i]?=some x)(H:zvy I n₀ S sh e c)(hline:(apos.endLine==cpos.line)=true)(htrees:∀env,backTo cpos (starEach [e] env)=[(false,eval e env)])
  (hd:(x==("__debug__":Str))=false){a:Act}{ow:Nat->Option Addr}{st:Sl}{s:Shared}{Q:Fl->Sl->Prop}{X:Err->Sl->Prop}(hn0:n₀≤s.toks)(g:a.FitsS S sh)(R:Rel S sh a noX ow st s)(q:zfp i c Q X st) :
  wpAny (model S.prog S.w) a.A (exec (.Expr (.Call (.Attribute (.Name x p) "append" apos) [e] [] cpos) pos) a.env) (λfl s'=>OkS S sh a (λfl st'=>Q fl st'∧∃ds r st₁,fl=.next∧st[i]?=some (.own ds)∧Frz st st₁∧st'=st₁.set i (.own (ds++[r.d]))∧I r s'.toks) fl s') (zi2 S sh a X) s:=by
 have f:=g.f;left;refine za1 (zkU q) λds0 h0 q=>?_;have R0:=zdr R;refine zcN R.slots λm hn hl hs=>?_;have hm:x∈sh.names:=yw hi;have hk:a.env.kindOf x=some .local:=by unfold Env.kindOf;exact f.scope▸(f.loc x hm)
 have hkk:a.env.scope.kind=.function:=f.scope▸f.kind;obtain⟨b,o,vs,n,h1,h2,h3,h4,h5,h6,h7⟩:=hs i x _ (zai.all_of hi) h0;clear h6;rw[f.ovn hm]at h2;refine wpAny_Expr ?_ (by unfold interactive;rw[hkk];rfl) (by rfl);refine wpAny_Call_append (by rfl) (by rw[htrees];rfl) hline (htrees _) ?_;refine wpAny_Name (wpAny_loadName_local hkk hk (f.locals▸hn) h2 ?_) hd;refine zlk b vs rfl (zkB o n h3 h4 h7 h5) ?_;refine yr (H a ow st s _ X hn0 f R q) (λv s₁ h=>?_) λ_ _ x=>zcJ f R x;left;obtain⟨r,st₁,⟨g,hI⟩,K,hr⟩:=h;refine zcN (zkU g) λds g1 g2 g3=>?_;refine zbP (zf3 f R K hr) λK' hv=>?_;have R1:=R.step f K';refine zcN R1.slots λm₁ hn1 hl1 hs1=>?_;obtain⟨b1,o1,vs1,n₁,k1,k2,k3,k4,k5,k6,k7⟩:=hs1 i x _ (zai.all_of hi) g1;have hbb:b1=b:=by
  have:=zbt k1;rw[h1]at this;exact(yi this).symm
 clear k2;obtain rfl:=hbb.symm;have hlen:vs1.size≤sizeLine:=by
  have:=k6.length;simp at this;exact yj (this▸g2) (by decide)
 refine zcN (K'.keep.weak h3 (zaL h4)) λo2 z1 z2 z3=>?_;have hvs:vs1=vs:=by
  clear k7 k4;rw[z1]at k3;obtain rfl:=yi k3;rw[z3,h5]at k5;injection k5 with k5;exact k5.symm
 clear h5;subst hvs;refine list_append_plainL (its:=vs1) (zkB o1 n₁ k3 k4 k7 k5) (λh' hp hsb=>?_) hlen;refine zAh hp λo3 n3 y1 y2 y3 y4=>?_;refine⟨.next,_,_,⟨g3,ds,r,r.seal st₁,rfl,K'.frz.own g1,K'.frz,rfl,hI⟩,R1.own_set f k1 g1 (tk:=s₁.toks) hsb k3 k4 k5 y1 y2 y4 y3 ?_,trivial⟩;rw[Array.toList_push];exact zaO.append (.cons hv .nil) k6
theorem zlE{i:Nat}{x:Str}{p apos pos cpos:Pos}{e:Expr}{c:PE}(hi:sh.names[i]?=some x)(H:zat S sh e c)(hline:(apos.endLine==cpos.line)=true)(htrees:∀env,backTo cpos (starEach [e] env)=[(false,eval e env)]:=by intro;rfl)
  (hd:(x==("__debug__":Str))=false:=by decide):zba S sh (.Expr (.Call (.Attribute (.Name x p) "append" apos) [e] [] cpos) pos) (zfp i c):=λa ow st s Q X g R q=>by
 refine yr (zjM (I:=λ_ _=>True) (n₀:=0) hi (λa ow st s Q X _ f R q=>yr (H a ow st s Q X f R q) (λv s' h=>?_) λ_ _ x=>x) hline htrees hd (yb _) g R q) (λfl s' h=>?_) λ_ _ x=>x
 ·obtain⟨r,st',h1,h2,h3⟩:=h
  exact⟨r,st',⟨h1,trivial⟩,h2,h3⟩
 ·obtain⟨fl',ow',st',h1,h2,h3⟩:=h
  exact⟨fl',ow',st',h1.1,h2,h3⟩
end
section
variable{S:St0}{sh:zai}{a:Act}{ow:Nat->Option Addr}{st:Sl}{s:Shared}
theorem zdH.int{h:Heap}{P:Addr->Prop}{v:Value}{i:Int}(x:zdH S h P v (.int i)):∃t,v=.int i t:=by
 left;rcases x with x|⟨_,_,_,_,_,_,q,_⟩
 ·exact x.inv
 ·exact nomatch q
theorem zdH.str{h:Heap}{P:Addr->Prop}{v:Value}{l:List Nat}(x:zdH S h P v (.str l)):∃t,v=.str (mk l) t:=by
 left;rcases x with x|⟨_,_,_,_,_,_,q,_⟩
 ·exact x.inv
 ·exact nomatch q
theorem zdH.bool{h:Heap}{P:Addr->Prop}{v:Value}{b:Bool}(x:zdH S h P v (.bool b)):v=.bool b:=by
 left;rcases x with x|⟨_,_,_,_,_,_,q,_⟩
 ·exact x.inv
 ·exact nomatch q
theorem zdH.none{h:Heap}{P:Addr->Prop}{v:Value}(x:zdH S h P v .none):v=.none:=by
 left;rcases x with x|⟨_,_,_,_,_,_,q,_⟩
 ·exact x.inv
 ·exact nomatch q
theorem zdH.tup{h:Heap}{P:Addr->Prop}{v:Value}{ds:List D}(x:zdH S h P v (.tup ds)):∃b o vs n,zn8 S h P "tuple" v ds b o vs n:=by
 left;rcases x with x|⟨_,_,_,_,_,_,q,_⟩
 ·exact x.inv
 ·exact nomatch q
theorem zdH.lst{h:Heap}{P:Addr->Prop}{v:Value}{ds:List D}(x:zdH S h P v (.lst ds)):∃b o vs n,zn8 S h P "list" v ds b o vs n:=by
 left;rcases x with x|⟨b,o,vs,n,ds',e1,e,h1,h2,h3,h4⟩
 ·exact x.inv
 ·cases e;exact⟨b,o,vs,n,e1,h1,h2,h3,h4⟩
theorem okP{d:D}{v:Value}{Q:Res->Prop}{tk:Nat}(R:Rel S sh a noX ow st s)(x:zcj S s.heap (Pv a noX ow) v d)(q:Q (.pl d))(hd:d.isExc=false:=by rfl):OkP S a ow st s Q v {s with toks:=tk}:=
 ⟨_,q,⟨.refl _,.refl _ _,rfl,rfl⟩,x,λz=>by exact zaD (hd.symm.trans z)⟩
theorem zbG{i:Int}{t tk:Nat}{Q:Res->Prop}(R:Rel S sh a noX ow st s)(q:Q (.pl (.int i))):OkP S a ow st s Q (.int i t) {s with toks:=tk}:=okP R (.int i t) q
theorem zcI{b:Bool}{tk:Nat}{Q:Res->Prop}(R:Rel S sh a noX ow st s)(q:Q (.pl (.bool b))):OkP S a ow st s Q (.bool b) {s with toks:=tk}:=okP R (.bool b) q
theorem zcb{x:Str}{t tk:Nat}{l:List Nat}{Q:Res->Prop}(R:Rel S sh a noX ow st s)(e:x=mk l)(q:Q (.pl (.str l))):OkP S a ow st s Q (.str x t) {s with toks:=tk}:=by subst e;exact okP R (.str l t) q
noncomputable def LIM:Nat:=1000000
theorem zaG(l:List Nat):(mk l).length=l.length:=by simp[mk,Str.length]
noncomputable def zye(d₁ d₂:D)(Q:Res->Prop)(_:Err->Prop):Prop:=match d₁ with
 |.int x=>oM d₂.int? λy=>Q (.pl (.int (x+y)))
 |.str x=>oM d₂.str? λy=>x.length+y.length≤LIM∧Q (.pl (.str (x++y)))
 |_=>False
theorem znJ{d₁ d₂:D}{Q:Res->Prop}{X:Err->Prop}(h:zye d₁ d₂ Q X):(∃x y,d₁=.int x∧d₂=.int y∧Q (.pl (.int (x+y))))∨∃x y,d₁=.str x∧d₂=.str y∧x.length+y.length≤LIM∧Q (.pl (.str (x++y))):=by
 left;cases d₁ with
 |int x=>let ⟨y,e,h⟩:=oM_inv h;exact .inl (zlk x y rfl (D.int?_inv e) h)
 |str x=>let ⟨y,e,h⟩:=oM_inv h;exact .inr (zlk x y rfl (D.str?_inv e) h)
 |_=>exact h.elim
theorem zle{x y:List Nat}:mk x++mk y=mk (x++y):=by
 show Str.mk _=_;simp[mk]
set_option tactic.hygienic true in
theorem zol{x y:List Nat}{t u:Tok}{Q:Res->Prop}(R:Rel S sh a noX ow st s)(hl:x.length+y.length≤LIM)(q:Q (.pl (.str (x++y)))) :
  (if(mk x).length==0 then Made.val (.str (mk y) u)else if(mk y).length==0 then Made.val (.str (mk x) t)else Made.str (mk x++mk y)).post (OkP S a ow st s Q) s:=by
 split
 ·rename_i h
  rw[zaG]at h;have:x=[]:=yJ (by simpa using h);obtain rfl:=this.symm;exact zcb (tk:=s.toks) R rfl q
 ·split
  ·rename_i h
   rw[zaG]at h;have:y=[]:=yJ (by simpa using h);subst this;rw[List.append_nil]at q;exact zcb (tk:=s.toks) R rfl q
  ·refine⟨?_,zcb R zle q⟩
   simp only[zle,zaG,List.length_append];exact yj hl (by decide)
theorem ztq:zcK S sh (binaryOp .Add) zye:=λa ow st s v1a v2a d₁ d₂ Q X f R h1 h2 q=>by
 left;rcases znJ q with⟨x,y,e1,e2,q⟩|⟨x,y,e1,e2,ql,q⟩<;>rw[e1]at h1<;>rw[e2]at h2
 ·obtain⟨t,rfl⟩:=h1.int
  obtain⟨u,rfl⟩:=h2.int;exact P.add_int (zbG R q)
 ·obtain⟨t,rfl⟩:=h1.str
  obtain⟨u,rfl⟩:=h2.str;exact P.add_str (zol R ql q)
theorem zrx:zcK S sh (inplaceOp .Add) zye:=λa ow st s v1a v2a d₁ d₂ Q X f R h1 h2 q=>by
 left;rcases znJ q with⟨x,y,e1,e2,q⟩|⟨x,y,e1,e2,ql,q⟩<;>rw[e1]at h1<;>rw[e2]at h2
 ·obtain⟨t,rfl⟩:=h1.int
  obtain⟨u,rfl⟩:=h2.int;exact P.iadd_int (zbG R q)
 ·obtain⟨t,rfl⟩:=h1.str
  obtain⟨u,rfl⟩:=h2.str;exact P.iadd_str (zol R ql q)
noncomputable def zpK(d₁ d₂:D)(Q:Res->Prop)(_:Err->Prop):Prop:=zw8 d₁ d₂ λx y=>Q (.pl (.int (x-y)))
theorem zdn:zcK S sh (binaryOp .Sub) zpK:=λa ow st s v1a v2a d₁ d₂ Q X f R h1 h2 q=>by
 left;refine zfQ (zdi q) λx y e1 e2 q=>?_;rw[e1]at h1;rw[e2]at h2;obtain⟨t,rfl⟩:=h1.int;obtain⟨u,rfl⟩:=h2.int;exact P.sub_int (zbG R q)
noncomputable def zrB(d₁ d₂:D)(Q:Res->Prop)(_:Err->Prop):Prop:=zw8 d₁ d₂ λx y=>y≠0∧Q (.pl (.int (x.fmod y)))
theorem zdS:zcK S sh (binaryOp .Mod) zrB:=λa ow st s v1a v2a d₁ d₂ Q X f R h1 h2 q=>by
 refine zfQ (zdi q) λx y e1 e2 q=>?_;rw[e1]at h1;rw[e2]at h2;left;obtain⟨t,rfl⟩:=h1.int;obtain⟨u,rfl⟩:=h2.int;exact AutoIntOps.mod_1 (λz=>q.1 (beq_iff_eq.mp z)) (zbG R q.2)
noncomputable def zkN(d₁ d₂:D)(Q:Res->Prop)(_:Err->Prop):Prop:=zw8 d₁ d₂ λx y=>y≠0∧Builtin.divisionGoesByPylong x y=false∧Q (.pl (.int (x.fdiv y)))
theorem zff:zcK S sh (binaryOp .FloorDiv) zkN:=λa ow st s v1a v2a d₁ d₂ Q X f R h1 h2 q=>by
 refine zfQ (zdi q) λx y e1 e2 q=>?_;rw[e1]at h1;rw[e2]at h2;left;obtain⟨t,rfl⟩:=h1.int;obtain⟨u,rfl⟩:=h2.int;exact AutoIntOps.floordiv_1 (λz=>q.1 (beq_iff_eq.mp z)) (by rw[q.2.1];decide) (zbG R q.2.2)
noncomputable def zll(g:Int->Int->Bool)(d₁ d₂:D)(Q:Res->Prop)(_:Err->Prop):Prop:=zw8 d₁ d₂ λx y=>Q (.pl (.bool (g x y)))
theorem zg3:zcK S sh (compareOp .Lt) (zll λx y=>decide (x<y)):=λa ow st s v1a v2a d₁ d₂ Q X f R h1 h2 q=>by
 refine zfQ (zdi q) λx y e1 e2 q=>?_;rw[e1]at h1;rw[e2]at h2;left;obtain⟨t,rfl⟩:=h1.int;obtain⟨u,rfl⟩:=h2.int;exact P.lt_int (zcI (tk:=s.toks) R q)
theorem zkV:zcK S sh (compareOp .LtE) (zll λx y=>decide (x≤y)):=λa ow st s v1a v2a d₁ d₂ Q X f R h1 h2 q=>by
 refine zfQ (zdi q) λx y e1 e2 q=>?_;rw[e1]at h1;rw[e2]at h2;left;obtain⟨t,rfl⟩:=h1.int;obtain⟨u,rfl⟩:=h2.int;exact P.le_int (zcI (tk:=s.toks) R q)
theorem zkH:zcK S sh (compareOp .GtE) (zll λx y=>decide (x ≥ y)):=λa ow st s v1a v2a d₁ d₂ Q X f R h1 h2 q=>by
 refine zfQ (zdi q) λx y e1 e2 q=>?_;rw[e1]at h1;rw[e2]at h2;left;obtain⟨t,rfl⟩:=h1.int;obtain⟨u,rfl⟩:=h2.int;exact P.ge_int (zcI (tk:=s.toks) R q)
set_option tactic.hygienic true in
theorem zar:zh5 S sh:=λa ow st s v d b f R hv hd Q E k=>by
 have K:∀tk,Step a st st s {s with toks:=tk}:=λtk=>⟨.refl _,.refl _ _,rfl,rfl⟩;have two:∀l:Nat,l≤1000000->(l:Int)<2^63:=λl h=>by omega
 left;cases d
 case none=>obtain rfl:=hv.none;obtain rfl:false=b:=yi hd;exact truthy_none (k s (.refl ..))
 case bool b'=>obtain rfl:=hv.bool;obtain rfl:b'=b:=yi hd;exact wpAny_truthy_bool (k s (.refl ..))
 case int i=>obtain⟨t,rfl⟩:=hv.int;obtain rfl:(i != 0)=b:=yi hd;exact P.truthy_int (k s (.refl ..))
 case str l=>
  have hd:(if l.length≤1000000 then some (!l.isEmpty)else none)=some b:=hd;obtain⟨t,rfl⟩:=hv.str
  split at hd
  ·rename_i hl
   clear hv;obtain rfl:=yi hd;refine P.truthy_str (by rw[zaG];have:=two _ hl;lia) ?_;have:(((mk l).length:Int) != 0)=!l.isEmpty:=by rw[zaG];induction l with
    |nil=>rfl
    |cons c l=>simp;lia
   exact this▸(k _ (K _))
  ·exact zad hd
 case tup l=>
  have hd:(if l.length≤1000000 then some (!l.isEmpty)else none)=some b:=hd;obtain⟨b',o,vs,n,rfl,h1,h2,h3,h4⟩:=hv.tup
  split at hd
  ·rename_i hl
   cases hd;have hsz:vs.size=l.length:=by rw[←h4.length];simp
   refine truthy_tuple (items:=vs) ⟨o,h1,h2,n,h3⟩ (by rw[hsz];exact two _ hl) ?_;have:vs.isEmpty=l.isEmpty:=by cases l<;>simp_all [Array.isEmpty]
   rw[this];exact k _ (K _)
  ·exact zad hd
 case lst l=>
  have hd:(if l.length≤1000000 then some (!l.isEmpty)else none)=some b:=hd;obtain⟨b',o,vs,n,rfl,h1,h2,h3,h4⟩:=hv.lst
  split at hd
  ·rename_i hl
   cases hd;have hsz:vs.size=l.length:=by rw[←h4.length];simp
   refine wpAny_truthy_list (items:=vs) ⟨o,h1,h2,n,h3⟩ (by rw[hsz];exact two _ hl) ?_;have:vs.isEmpty=l.isEmpty:=by cases l<;>simp_all [Array.isEmpty]
   rw[this];exact k _ (K _)
  ·exact zad hd
 all_goals exact zad (show(none:Option Bool)=some b from hd)
end
mutual
noncomputable def D.py:D->PyData
 |.none=>.none
 |.bool b=>.bool b
 |.int i=>.int i
 |.str l=>.str (mk l)
 |.tup l=>.tuple (D.pys l)
 |.lst l=>.list (D.pys l)
 |_=>.none
noncomputable def D.pys:List D->List PyData
 |[]=>[]
 |d::ds=>d.py::D.pys ds
end
mutual
noncomputable def D.plain:D->Bool
 |.none|.bool _|.int _|.str _=>true
 |.tup l|.lst l=>D.plains l
 |_=>false
noncomputable def D.plains:List D->Bool
 |[]=>true
 |d::ds=>d.plain&&D.plains ds
end
section
variable{S:St0}{sh:zai}
theorem zcj.reads{h:Heap}{P:Addr->Prop}{v:Value}{d:D}(x:zcj S h P v d):d.plain=true->∃as,Reads h v d.py as:=by
 refine zcj.rec (motive_1:=λv d _=>d.plain=true->∃as,Reads h v d.py as) (motive_2:=λvs ds _=>D.plains ds=true->∃as,ReadsAll h vs (D.pys ds) as) ?_ ?_ ?_ ?_ ?_ ?_ ?_ ?_ ?_ ?_ ?_ ?_ ?_ ?_ ?_ ?_ x
 ·exact λ_=>⟨[],.none⟩
 ·exact λb _=>⟨[],.bool b⟩
 ·exact λi t _=>⟨[],.int i t⟩
 ·exact λl t _=>⟨[],.str (mk l) t⟩
 ·exact λh1 h2 h3 _ ih p=>let ⟨as,r⟩:=ih p;⟨as,.tuple h1 h2 h3 r⟩
 ·exact λh1 _ h2 h3 _ ih p=>let ⟨as,r⟩:=ih p;⟨_,.list h1 h2 h3 r⟩
 ·exact λ_ _ _ p=>zaD (show false=true from p)
 ·exact λ_ p=>zaD (show false=true from p)
 ·exact λ_ _ _ p=>zaD (show false=true from p)
 ·exact λ_ _ _ _ _ p=>zaD (show false=true from p)
 ·exact λ_ _ _ _ _ p=>zaD (show false=true from p)
 ·exact λ_ _ _ _ _ _ _ _ p=>zaD (show false=true from p)
 ·exact λ_ _ _ _ _ p=>zaD (show false=true from p)
 ·exact λ_ _ p=>zaD (show false=true from p)
 ·exact λ_=>⟨[],.nil⟩
 ·exact λ_ _ ia ib p=>let ⟨p1,p2⟩:=yu.mp p;let ⟨_,r⟩:=ia p1;let ⟨_,r'⟩:=ib p2;⟨_,.cons r r'⟩
theorem zaO.reads{h:Heap}{P:Addr->Prop}:∀{vs ds},zaO S h P vs ds->D.plains ds=true->∃as,ReadsAll h vs (D.pys ds) as
 |vs,[],x,_=>by cases x;exact⟨[],.nil⟩
 |vs,d::ds,x,p=>by
  cases x with
  |cons a b=>
   left;have p:=yu.mp p;obtain⟨_,r⟩:=a.reads p.1;obtain⟨_,r'⟩:=zaO.reads b p.2;exact⟨_,.cons r r'⟩
theorem zdH.reads{h:Heap}{P:Addr->Prop}{v d}(x:zdH S h P v d)(p:d.plain=true):∃as,Reads h v d.py as:=by
 left;rcases x with x|⟨b,o,vs,n,ds,rfl,rfl,h1,h2,h3,h4⟩
 ·exact x.reads p
 ·have p:D.plains ds=true:=p
  obtain⟨as,r⟩:=zaO.reads h4 p;exact⟨_,.list h1 h2 h3 r⟩
noncomputable def eqD(d₁ d₂:D):Bool:=PyData.eqv d₁.py d₂.py
noncomputable def okD(d:D):Bool:=d.plain&&SeqAt.shaped d.py
noncomputable def eqP:D->D->PV:=λd₁ d₂ Q _=>okD d₁=true∧okD d₂=true∧Q (.pl (.bool (eqD d₁ d₂)))
noncomputable def neP:D->D->PV:=λd₁ d₂ Q _=>okD d₁=true∧okD d₂=true∧Q (.pl (.bool (!eqD d₁ d₂)))
theorem zhO{a:Act}(f:a.Fits S sh):a.A.units+64<cLine:=by
 have:=f.units;have h:(9064:Nat)<cLine:=by decide
 lia
theorem zdV:zcK S sh (compareOp .Eq) eqP:=λa ow st s v1a v2a d₁ d₂ Q X f R h1 h2 ⟨q1,q2,q⟩=>by
 left;obtain⟨p1,s1⟩:=yu.mp q1;obtain⟨p2,s2⟩:=yu.mp q2;obtain⟨as,r1⟩:=h1.reads p1;obtain⟨bs,r2⟩:=h2.reads p2;exact SeqAt.compareEq_shaped r1 r2 s1 s2 (zhO f) (zcI (tk:=s.toks) R q)
theorem ziC:zcK S sh (compareOp .NotEq) neP:=λa ow st s v1a v2a d₁ d₂ Q X f R h1 h2 ⟨q1,q2,q⟩=>by
 left;obtain⟨p1,s1⟩:=yu.mp q1;obtain⟨p2,s2⟩:=yu.mp q2;obtain⟨as,r1⟩:=h1.reads p1;obtain⟨bs,r2⟩:=h2.reads p2;exact SeqAt.compareNe_shaped r1 r2 s1 s2 (zhO f) (zcI (tk:=s.toks) R q)
end
section
variable{S:St0}{sh:zai}{a:Act}{ow:Nat->Option Addr}{st:Sl}{s:Shared}
theorem zh1(R:Rel S sh a noX ow st s){c:EC}(hc:c≠.toml){h':Heap}{e:Addr}{tk:Nat}(x:Heap.NewExc s.heap h' e c.name){m:List Nat}{X:Err->Prop}(q:X (c,m)):zsB S a st s X (.ref e) {s with heap:=h',toks:=tk}:=by
 refine zfQ x.there λob t h1 h2 h3=>?_;have hcls:S.cls c=.type c.name:=by induction c<;>first|rfl|exact absurd rfl hc
 exact⟨(c,m),q,⟨.refl _,.of_keeps x.keeps,rfl,rfl⟩,e,none,rfl,x.new,(λ_ z=>zad z),⟨ob,_,t,.none,h1,h2.trans hcls.symm,h3,rfl,rfl,.nil,λz=>absurd z hc,rfl⟩⟩
@[irreducible]noncomputable def zf4(l:List Nat)(i:Int):PV:=λQ X=>(decide (i < -(2^63:Int))||decide (i ≥ 2^63))=false∧match (seqIndex? i l.length).bind (l[·]?)with
 |some c=>Q (.pl (.str [c]))
 |none=>∀m,X (.index,m)
theorem item_str(hcalm:sh.calm=true)(f:a.Fits S sh)(R:Rel S sh a noX ow st s){l:List Nat}{t:Tok}{i:Int}{u:Tok}{Q:Res->Prop}{X:Err->Prop}(q:zf4 l i Q X):wpAny (model S.prog S.w) a.A (getItem (.str (mk l) t) (.int i u)) (OkP S a ow st s Q) (zsB S a st s X) s:=by
 unfold zf4 at q;left;refine zbP q λhr q=>?_;have hb:(seqIndex? i (mk l).length).bind ((mk l).cps[·]?)=(seqIndex? i l.length).bind (l[·]?):=by
  rw[zaG];simp[mk]
 cases hx:(seqIndex? i l.length).bind (l[·]?)with
 |some c=>
  rw[hx]at q;exact P.getItem_str hr (hb.trans hx) (zcb R rfl q)
 |none=>
  rw[hx]at q;refine getItem_meets (typeIs_str s (mk l) t) (by decide) F.slot_str_getitem F.entry_str_getitem (F.args_str_getitem_2 _ _) (raises_str_getitem (mk l) i t u hr (hb.trans hx)) ⟨(f.calm hcalm).1,λh' tk e hn=>?_⟩;exact zh1 R (c:=.index) (by decide) hn (q [])
noncomputable def ztI(l:List D)(i:Int)(Q:Res->Prop):Prop:=(decide (i < -(2^63:Int))||decide (i ≥ 2^63))=false∧∃d,(seqIndex? i l.length).bind (l[·]?)=some d∧d.isExc=false∧Q (.pl d)
noncomputable def zrR(d₁ d₂:D)(Q:Res->Prop)(X:Err->Prop):Prop:=oM d₂.int? λi=>match d₁ with
 |.str l=>zf4 l i Q X
 |.lst l=>ztI l i Q
 |.tup l=>ztI l i Q
 |_=>False
theorem zqy{vs:Array Value}{l:List D}{h:Heap}{P:Addr->Prop}(hv:zaO S h P vs.toList l){j:Nat}{d:D}(hj:l[j]?=some d):∃v,vs[j]?=some v∧zcj S h P v d:=by
 obtain⟨v,h1,h2⟩:=hv.get hj;exact⟨v,by rw[←Array.getElem?_toList];exact h1,h2⟩
set_option tactic.hygienic true in
theorem zod(f:a.Fits S sh)(R:Rel S sh a noX ow st s){v1a:Value}{l:List D}{i:Int}{u:Tok}{Q:Res->Prop}{E:Value->Shared->Prop}(h1:zdH S s.heap (Pv a noX ow) v1a (.lst l))(q:ztI l i Q):wpAny (model S.prog S.w) a.A (getItem v1a (.int i u)) (OkP S a ow st s Q) E s:=by
 obtain⟨b,o,vs,n,rfl,g1,g2,g3,g4⟩:=h1.lst;obtain⟨hr,d,hd,he,q⟩:=q;obtain⟨j,hj,hd⟩:=Option.bind_eq_some_iff.mp hd;obtain⟨v,hv,hr'⟩:=zqy g4 hd;have hsz:vs.size=l.length:=by rw[←g4.length];simp
 simp only[Bool.or_eq_false_iff,decide_eq_false_iff_not]at hr;unfold seqIndex? at hj;by_cases hi:i<0
 ·rw[if_pos hi]at hj
  dsimp only at hj
  split at hj
  ·rename_i hc
   simp only[Bool.and_eq_true,decide_eq_true_eq]at hc;obtain rfl:=yi hj;exact wpAny_getItem_list_neg (items:=vs) ⟨o,g1,g2,n,g3⟩ hi (by rw[hsz];omega) (by omega) (hsz▸hv) (okP (tk:=s.toks) R hr' q he)
  ·exact zad hj
 ·rw[if_neg hi]at hj
  dsimp only at hj
  split at hj
  ·obtain rfl:=yi hj
   exact wpAny_getItem_list (items:=vs) ⟨o,g1,g2,n,g3⟩ (by omega) (by omega) hv (okP (tk:=s.toks) R hr' q he)
  ·exact zad hj
set_option tactic.hygienic true in
theorem zsm(hcalm:sh.calm=true):zcK S sh getItem zrR:=λa ow st s v1a v2a d₁ d₂ Q X f R h1 h2 q=>by
 left;refine za1 (oM_inv q) λi e q=>?_;rw[D.int?_inv e]at h2;obtain⟨u,rfl⟩:=h2.int;clear e;cases d₁ with
 |str l=>
  obtain⟨t,rfl⟩:=h1.str;exact item_str hcalm f R q
 |tup l=>
  obtain⟨b,o,vs,n,rfl,g1,g2,g3,g4⟩:=h1.tup;obtain⟨hr,d,hd,he,q⟩:=q;obtain⟨j,hj,hd⟩:=Option.bind_eq_some_iff.mp hd;obtain⟨v,hv,hr'⟩:=zqy g4 hd;have hsz:vs.size=l.length:=by rw[←g4.length];simp
  simp only[Bool.or_eq_false_iff,decide_eq_false_iff_not]at hr;exact getItem_tuple (items:=vs) ⟨o,g1,g2,n,g3⟩ (yZ.mp hr.1) (Int.lt_of_not_ge hr.2) (hsz▸hj) hv (okP (tk:=s.toks) R hr' q he)
 |lst l=>exact zod f R h1 q
 |_=>exact q.elim
end
section
variable{S:St0}{sh:zai}
theorem letGo{prog:Program}{w:World}{A:Around}{E:Value->Shared->Prop}{s:Shared}{base:Expr}{o r:Value}{Q:Unit->Shared->Prop}(h:Q () s):wpAny (model prog w) A (letTemporaryGo base o r) Q E s:=wpAny_letTemporaryGo h
noncomputable def zlP:D->Bool
 |.str _|.lst _|.tup _=>true
 |_=>false
set_option tactic.hygienic true in
theorem zf1{a:Act}{ow:Nat->Option Addr}{st:Sl}{s:Shared}(R:Rel S sh a noX ow st s){v:Value}{d:D}(h:zdH S s.heap (Pv a noX ow) v d)(hd:zlP d=true){E:Value->Shared->Prop}{A:Around}{Q:Bool->Shared->Prop}(q:Q false s) :
  wpAny (model S.prog S.w) A (getitemInPython v) Q E s:=by
 have fin:∀{T id:String},typeLookup (.type T) "__getitem__"=pure (some (.builtin id))->s.TypeIs v T->wpAny (model S.prog S.w) A (getitemInPython v) Q E s:=λhl hT=>by
  rw[getitemInPython_of_ne hT.not_modules];exact yk (wpAny_specialOf hT hl (yn q))
 left;cases d<;>simp only[zlP,Bool.false_eq_true]at hd
 case str l=>obtain⟨t,rfl⟩:=h.str;exact fin F.slot_str_getitem.lookup (typeIs_str s _ t)
 case tup l=>
  obtain⟨b,o,vs,n,rfl,g1,g2,g3,g4⟩:=h.tup;exact fin F.slot_tuple_getitem.lookup ⟨o,g1,g2⟩
 case lst l=>
  obtain⟨b,o,vs,n,rfl,g1,g2,g3,g4⟩:=h.lst;exact fin F.slot_list_getitem.lookup ⟨o,g1,g2⟩
@[reducible]noncomputable def zeY(c₁ c₂:PE):PE:=λQ X st=>c₁ (λr1 st₁=>zvF (zlP r1.d) (c₂ (λr2 st₂=>zrR r1.d r2.d (λr'=>Q r' st₂) (λx=>X x st₂)) X st₁)) X st
theorem zd2(hcalm:sh.calm=true){e1 e2:Expr}{pos}{c₁ c₂:PE}(H1a:zat S sh e1 c₁)(H2:zat S sh e2 c₂)(hsub:∀o i,subscripted e2 false o i=operate [o,i] (getItem o i):=by intros;rfl):zat S sh (.Subscript e1 e2 pos) (zeY c₁ c₂):=λa ow st s Q X f R q=>by
 rw[eval_Subscript];refine yk (yr (H1a a ow st s _ X f R q) (λv1a s₁ h=>yk (yE ?_)) λ_ _ x=>x);left;obtain⟨r1,st₁,h1,h2,h3⟩:=h;refine zbP (zet h1) λhq h1=>?_;have R1:=R.step f h2;refine yr (H2 a _ st₁ s₁ _ X f R1 h1) (λv2a s₂ h=>yk (yT ?_)) λ_ _ x=>zaF h2 x;left;obtain⟨r2,st₂,g1,g2,g3⟩:=h;have K:=h2.trans g2;have c1:=h3.c.step f R1 g2;have c2:=g3.c;rw[zaq g2.frz]at c1 c2;have R2:=R.step f K;refine yk (zf1 R2 c1 hq ?_);rw[hsub];refine yk (wpAny_operating (yr (zsm hcalm a _ st₂ s₂ _ _ r1.d r2.d _ _ f R2 c1 c2 g1) (λv3 s3a x=>?_) λ_ _ x=>x.toE K));exact yk (letGo (yn (x.toE K)))
end
section
variable{S:St0}{sh:zai}
theorem zcG(D0:Std S){x:Str}{id:String}{np pos:Pos}{e:Expr}{c:PE}{p:D->PV}(hx:sh.scope.names.lookup x=some .globalImplicit)(hg:S.mg x=none)(hn:x≠"__name__")(hb:bootBuiltins x=some (.builtin id))(H:zat S sh e c)(P:zm5 S sh (λv=>call (.builtin id) [v]) p)
  (hs:∀env,starEach [e] env=[(false,eval e env)]:=by intro;rfl)(hd:(x==("__debug__":Str))=false:=by decide):zat S sh (.Call (.Name x np) [e] [] pos) (pe1 c p):=λa ow st s Q X f R q=>by
 refine Call_name1 (hs _) (zda f hx (D0.g.keeps (R.stays f)) (D0.b.keeps (R.stays f)) hg ((D0.blt x hn).trans hb) ?_ hd);exact callWith_builtin1 (ev1 H P f R q)
noncomputable def zmy:D->PV
 |.str l,Q,_=>l.length≤1000000∧Q (.pl (.int l.length))
 |.lst l,Q,_=>l.length≤1000000∧Q (.pl (.int l.length))
 |.tup l,Q,_=>l.length≤1000000∧Q (.pl (.int l.length))
 |_,_,_=>False
set_option tactic.hygienic true in
theorem zbX:zm5 S sh (λv=>call (.builtin "len") [v]) zmy:=λa ow st s v d Q X f R h q=>by
 left;cases d<;>try exact q.elim
 case str l=>
  refine zfh h.str λt hzz=>?_;subst hzz;refine zbP q λhl q=>?_;refine P.len_str (by rw[zaG];omega) ?_;rw[zaG];exact zbG R q
 case lst l=>
  obtain⟨b,o,vs,n,rfl,g1,g2,g3,g4⟩:=h.lst;refine zbP q λhl q=>?_;have hsz:vs.size=l.length:=by rw[←g4.length];simp
  refine Calls.call_len_list (items:=vs) ⟨o,g1,g2,n,g3⟩ (by rw[hsz];omega) ?_;rw[hsz];exact zbG R q
 case tup l=>
  obtain⟨b,o,vs,n,rfl,g1,g2,g3,g4⟩:=h.tup;refine zbP q λhl q=>?_;have hsz:vs.size=l.length:=by rw[←g4.length];simp
  refine PyProof.Rows.len_tuple (items:=vs) ⟨o,g1,g2,n,g3⟩ (by rw[hsz];omega) ?_;rw[hsz];exact zbG R q
end
section
open PySem.Builtin PySem.Builtin.Str
noncomputable def zaT(v:Option Int)(dflt n:Nat):Nat:=match v with
 |none=>dflt
 |some i=>(max 0 (min (if i<0 then i+n else i) (n:Int))).toNat
noncomputable def zbk{α:Type}(l:List α)(lo hi:Option Int):List α:=(l.drop (zaT lo 0 l.length)).take (zaT hi l.length l.length-zaT lo 0 l.length)
theorem zei(v:Option Int)(d n:Nat)(h:d≤n):zaT v d n≤n:=by
 induction v with
 |none=>exact h
 |some i=>exact Int.toNat_le.mpr (Int.max_le.mpr ⟨yz n,Int.min_le_right ..⟩)
theorem zc5(a b:Nat):((max 0 (min ((a:Nat):Int) ((b:Nat):Int)):Int)).toNat=min a b:=by
 rcases Nat.le_total a b with h|h
 ·rw[Int.min_eq_left (Int.ofNat_le.mpr h),Nat.min_eq_left h,Int.max_eq_right (Int.natCast_nonneg _),Int.toNat_natCast]
 ·rw[Int.min_eq_right (Int.ofNat_le.mpr h),Nat.min_eq_right h,Int.max_eq_right (Int.natCast_nonneg _),Int.toNat_natCast]
theorem zg1{a n:Nat}(d:Nat)(h:a≤n):zaT (some (a:Int)) d n=a:=by
 unfold zaT;dsimp only;rw[if_neg (Int.not_lt.mpr (Int.natCast_nonneg a)),zc5,Nat.min_eq_left h]
theorem zk8(v:Option Int)(d n:Nat):((match v with|none=>((d:Nat):Int)|some i=>(max 0 (min (if i<0 then i+(n:Int)else i) (n:Int)):Int)):Int)=((zaT v d n:Nat):Int):=by
 induction v with
 |none=>rfl
 |some i=>exact(Int.toNat_of_nonneg (Int.le_max_left ..)).symm
theorem zrq(lo hi:Option Int)(n:Nat):strSliceIndices lo hi 1 n=sliceRange (zaT lo 0 n:Nat) (zaT hi n n:Nat) 1:=by
 rw[←zk8 lo 0 n,←zk8 hi n n];unfold strSliceIndices;dsimp only;simp only[show((1:Int) > 0)=True from eq_true (by decide),if_true]
 induction lo<;>induction hi<;>rfl
theorem zrS(lo hi:Option Int)(n:Nat):strSliceIndices lo hi 1 n=strSliceIndices (some (zaT lo 0 n:Int)) (some (zaT hi n n:Int)) 1 n:=by
 rw[zrq,zrq,zg1 0 (zei lo 0 n (Nat.zero_le _)),zg1 n (zei hi n n (Nat.le_refl _))]
theorem zrM(a b:Nat):(sliceRange (a:Nat) (b:Nat) 1).length=b-a:=by
 unfold sliceRange;dsimp only;rw[if_pos (show(1:Int) > 0 by decide),List.length_map,List.length_range];by_cases h:a<b
 ·rw[if_pos (Int.ofNat_lt.mpr h),Int.add_sub_cancel,Int.ediv_one,←Int.ofNat_sub (Nat.le_of_lt h),Int.toNat_natCast]
 ·rw[if_neg λz=>h (Int.ofNat_lt.mp z),Nat.sub_eq_zero_of_le (Nat.le_of_not_lt h)];rfl
theorem zmv(lo hi:Option Int)(n:Nat):(strSliceIndices lo hi 1 n).length=zaT hi n n-zaT lo 0 n:=by rw[zrq,zrM]
theorem zsd(l:List Nat)(lo hi:Option Int):(strSliceIndices lo hi 1 (mk l).length).filterMap ((mk l).cps[·]?)=zbk l lo hi:=by
 rw[zaG];have h2:=zei hi l.length l.length (yq _);by_cases h:zaT lo 0 l.length≤zaT hi l.length l.length
 ·have:=StrLaws.sliced_plain (mk l) h (by rw[zaG];exact h2)
  rw[zaG]at this;rw[zrS,this];simp[mk,zbk]
 ·have z:zaT hi l.length l.length-zaT lo 0 l.length=0:=Nat.sub_eq_zero_of_le (yc (xd h))
  have e:strSliceIndices lo hi 1 l.length=[]:=yJ (by rw[zmv,z]);rw[e];unfold zbk;rw[z,List.take_zero];rfl
theorem zr6{l:List Nat}{a b:Nat}(h1:a≤l.length)(h2:b≤l.length)(h:b-a=l.length):(l.drop a).take (b-a)=l:=by
 rw[h]
 induction l with
 |nil=>exact ya _ List.drop_nil
 |cons x l=>
  have:a=0:=Nat.eq_zero_of_not_pos λha=>absurd (yy (Nat.sub_lt (yy (h▸yd _) (Nat.sub_le b a)) ha) h2) (h▸(Nat.lt_irrefl _));rw[this,List.drop_zero,List.take_length]
section
variable{S:St0}{sh:zai}{a:Act}{ow:Nat->Option Addr}{st:Sl}{s:Shared}
set_option tactic.hygienic true in
theorem zo5(R:Rel S sh a noX ow st s){l:List Nat}{t:Tok}{lo hi:Option (Int×Tok)}{Q:Res->Prop}(hl:l.length≤LIM)(q:Q (.pl (.str (zbk l (lo.map (·.1)) (hi.map (·.1)))))):(sliceMade (mk l) t lo hi none).post (OkP S a ow st s Q) s:=by
 have key:=zsd l (lo.map (·.1)) (hi.map (·.1));unfold sliceMade slicePicked
 split
 ·rename_i h
  have hlen:(strSliceIndices (lo.map (·.1)) (hi.map (·.1)) 1 (mk l).length).length=(mk l).length:=by
   simp only[Bool.and_eq_true,beq_iff_eq]at h;exact h.2
  rw[zmv,zaG]at hlen;have e:zbk l (lo.map (·.1)) (hi.map (·.1))=l:=zr6 (zei _ 0 l.length (yb _)) (zei _ l.length l.length (yq _)) hlen;rw[e]at q;exact zcb (tk:=s.toks) R rfl q
 ·have hx:(⟨((strSliceIndices (lo.map (·.1)) (hi.map (·.1)) 1 (mk l).length).filterMap ((mk l).cps[·]?)).toArray⟩:Str)=mk (zbk l (lo.map (·.1)) (hi.map (·.1))):=by rw[key];rfl
  refine⟨?_,zcb R hx q⟩;have:(zbk l (lo.map (·.1)) (hi.map (·.1))).length≤l.length:=by unfold zbk;rw[List.length_take,List.length_drop];exact yj (Nat.min_le_right ..) (Nat.sub_le ..)
  show Str.length _≤sizeLine
  erw [hx]
  rw[zaG];exact yj (yj this hl) (by decide)
end
end
section
variable{S:St0}{sh:zai}
noncomputable abbrev PO:=(Option Int->Sl->Prop)->(Err->Sl->Prop)->Sl->Prop
noncomputable def zqW(v:Value):Option Int->Prop
 |none=>v=.none
 |some i=>∃t,v=.int i t
noncomputable def zka(S:St0)(sh:zai)(o:Option Expr)(c:PO):Prop:=
 ∀(a:Act)(ow:Nat->Option Addr)(st:Sl)(s:Shared)(Q:Option Int->Sl->Prop)(X:Err->Sl->Prop),a.Fits S sh->Rel S sh a noX ow st s->c Q X st ->
  wpAny (model S.prog S.w) a.A (valueOrNone (evalOpt o a.env)) (λv s'=>∃i st',Q i st'∧Step a st st' s s'∧zqW v i) (zfN S a st s X) s
theorem zpN:zka S sh none λQ _ st=>Q none st:=λa ow st s Q X f R q=>yn ⟨none,st,q,.refl ..,rfl⟩
@[reducible]noncomputable def zih(c:PE):PO:=λQ X st=>c (λr st₁=>r.oM D.int? λi=>Q (some i) st₁) X st
theorem zaN{e:Expr}{c:PE}(H:zat S sh e c):zka S sh (some e) (zih c):=λa ow st s Q X f R q=>by
 refine yr (H a ow st s _ X f R q) (λv s₁ h=>?_) λ_ _ x=>x;left;obtain⟨r,st₁,h1,h2,h3⟩:=h;refine za1 (Res.int_inv h1) λi hzz h1=>?_;subst hzz;obtain⟨h3,_⟩:=h3;refine zfh h3.inv λt hzz=>?_;subst hzz;exact⟨some i,st₁,h1,h2,t,rfl⟩
@[irreducible]noncomputable def zgv(l:List Nat)(lo hi:Option Int)(Q:Res->Prop):Prop:=l.length≤LIM∧Q (.pl (.str (zbk l lo hi)))
@[reducible]noncomputable def zvf(d:D)(lo hi:Option Int)(Q:Res->Prop):Prop:=oM d.str? λl=>zgv l lo hi Q
@[reducible]noncomputable def zfq(T:D->Option Int->Option Int->(Res->Prop)->Prop)(c:PE)(cl cu:PO):PE:=λQ X st=>c (λr st₁=>cl (λlo st₂=>cu (λhi st3=>T r.d lo hi λr'=>Q r' st3) X st₂) X st₁) X st
@[reducible]noncomputable def zcQ(c:PE)(cl cu:PO):PE:=zfq zvf c cl cu
noncomputable def zmD(S:St0)(sh:zai)(T:D->Option Int->Option Int->(Res->Prop)->Prop):Prop:=
 ∀(a:Act)(ow:Nat->Option Addr)(st:Sl)(s:Shared)(v:Value)(d:D)(pl pu:Option (Int×Tok))(sl:Addr)(Q:Res->Prop)(E:Value->Shared->Prop),a.Fits S sh->Rel S sh a noX ow st s->zdH S s.heap (Pv a noX ow) v d->s.heap.IsSliceOf sl (partValue pl) (partValue pu) .none->T d (pl.map (·.1)) (pu.map (·.1)) Q ->
  zlP d=true∧wpAny (model S.prog S.w) a.A (getItem v (.ref sl)) (OkP S a ow st s Q) E s
theorem zqc{v:Value}{o:Option Int}(h:zqW v o):∃p:Option (Int×Tok),v=partValue p∧p.map (·.1)=o:=by
 induction o with
 |none=>exact⟨none,h,rfl⟩
 |some i=>obtain⟨t,rfl⟩:=h;exact⟨some (i,t),rfl,rfl⟩
theorem zoP(l u:Option Expr)(p:Pos)(env:Env):eval (.Slice l u none p) env=(do
  let l ←valueOrNone (evalOpt l env)
  let u ←holding [l] (valueOrNone (evalOpt u env))
  let s ←holding [l,u] (valueOrNone none)
  newFields "slice" [l,u,s]):=rfl
theorem zmo{T:D->Option Int->Option Int->(Res->Prop)->Prop}(hT:zmD S sh T){e:Expr}{lo hi:Option Expr}{p pos}{c:PE}{cl cu:PO}(H:zat S sh e c)(Hl:zka S sh lo cl)(Hu:zka S sh hi cu):zat S sh (.Subscript e (.Slice lo hi none p) pos) (zfq T c cl cu):=λa ow st s Q X f R q=>by
 rw[eval_Subscript];refine yk (yr (H a ow st s _ X f R q) (λv1a s₁ h=>yk (yE ?_)) λ_ _ x=>x);rw[zoP];left;obtain⟨r,st₁,h1,K1,h3⟩:=h;have R1:=R.step f K1;refine yk (yr (Hl a _ st₁ s₁ _ X f R1 h1) (λvl s₂ h=>yk (yE ?_)) λ_ _ x=>zaF K1 x);refine zfQ h λil st₂ h2 K2 hl=>?_;have R2:=R1.step f K2;refine yr (Hu a _ st₂ s₂ _ X f R2 h2) (λvu s3a h=>yk (yE (yn ?_))) λ_ _ x=>zaF (K1.trans K2) x;unfold newFields;clear h2;left;obtain⟨iu,st3,hq,K3,hu⟩:=h;have R3:=R2.step f K3;obtain⟨pl,rfl,rfl⟩:=zqc hl;obtain⟨pu,rfl,rfl⟩:=zqc hu;have K:=(K1.trans K2).trans K3;refine wpAny_newObj_type ?_ (by first|size_fits|(unfold sizeOk;simp)|(unfold sizeOk;decide));refine yk (yT ?_);have c1:=(h3.c.step f R1 K2).step f R2 K3;rw[zaq K2.frz,zaq K3.frz]at c1;rw[zaq K2.frz,zaq K3.frz]at R3;have Kp:Step a st3 st3 s3a {s3a with heap:=s3a.heap.push {cls:=.type "slice",data:=.fields [partValue pl,partValue pu,.none].toArray}}:=zeX (.refl ..) _ _;have R4:=R3.step f Kp;have c2:=c1.step f R3 Kp;have KK:=K.trans Kp;obtain⟨hs,W⟩:=hT a _ st3 _ v1a r.d pl pu s3a.heap.objs.size (λr=>Q r st3) (zfN S a st s X) f R4 c2 (zf8 _ (yF _ rfl) rfl rfl) hq;refine yk (zf1 R4 c2 hs ?_);show wpAny _ _ (do let r ←operate [_,_] (getItem _ _);letTemporaryGo e _ r;pure r) _ _ _;rw[zaq (Frz.refl st3)]at W;exact yk (wpAny_operating (yr W (λv s' x=>yk (letGo (yn (x.toE KK)))) λ_ _ x=>x))
theorem zrD:zmD S sh zvf:=λa ow st s v d pl pu sl Q E f R h hs q=>by
 refine za1 (oM_inv q) λl hd hq=>?_;rw[D.str?_inv hd]at h⊢;refine⟨rfl,?_⟩;unfold zgv at hq;refine zbP hq λhlen hq=>?_;obtain⟨t,rfl⟩:=h.str;exact wpAny_getItem_str_slice (l:=pl) (u:=pu) (st:=none) hs rfl (zo5 R hlen hq)
theorem zcp{e:Expr}{lo hi:Option Expr}{p pos}{c:PE}{cl cu:PO}(H:zat S sh e c)(Hl:zka S sh lo cl)(Hu:zka S sh hi cu):zat S sh (.Subscript e (.Slice lo hi none p) pos) (zcQ c cl cu):=zmo zrD H Hl Hu
end
section
variable{S:St0}{sh:zai}
noncomputable def zlH(S:St0)(h:Heap)(P:Addr->Prop):List Value->List D->Prop
 |[],[]=>True
 |v::vs,d::ds=>zdH S h P v d∧zlH S h P vs ds
 |_,_=>False
theorem zcL.cs{a:Act}{ow:Nat->Option Addr}{st:Sl}{hs h:Heap}:∀{vs rs},zcL S a ow st hs h vs rs->zlH S h (Pv a noX ow) vs (rs.map Res.d)
 |[],[],_=>trivial
 |[],_::_,x=>x.elim
 |_::_,[],x=>x.elim
 |_::_,_::_,x=>⟨x.1.c,zcL.cs x.2⟩
noncomputable def zmP(S:St0)(sh:zai)(m:String)(p:List Nat->List D->PV):Prop:=
 ∀(a:Act)(ow:Nat->Option Addr)(st:Sl)(s:Shared)(l:List Nat)(t:Tok)(vs:List Value)(ds:List D)(Q:Res->Prop)(X:Err->Prop),a.Fits S sh->Rel S sh a noX ow st s->zlH S s.heap (Pv a noX ow) vs ds->p l ds Q X ->
  wpAny (model S.prog S.w) a.A (call (.builtin m) (.str (mk l) t::vs)) (OkP S a ow st s Q) (zsB S a st s X) s
@[reducible]noncomputable def zdg(c:PE)(cs:PEs)(p:List Nat->List D->PV):PE:=λQ X st=>c (λr st₁=>r.oM D.str? λl=>cs (λrs st₂=>p l (rs.map Res.d) (λr'=>Q r' st₂) (λx=>X x st₂)) X st₁) X st
theorem zwQ{o:Expr}{name:Str}{m:String}{apos pos:Pos}{e:Expr}{es:List Expr}{cs:PEs}{p:List Nat->List D->PV}(Hs:zb0 S sh (e::es) cs)(P:zmP S sh m p)
  (hm:∀{M:Model}{A:Around}{E:Value->Shared->Prop}{s:Shared}{x:Str}{t:Tok}{pl:Sem Bool}{Q:Value×List Value->Shared->Prop},Q (.builtin m,[.str x t]) s->wpAny M A (getMethod (.str x t) name pl) Q E s)
  (hline:(apos.endLine==pos.line)=true)(hbase:∀env,attributeBase o name env (eval o env)=eval o env:=by intro;rfl)
  (hform:∀env,methodCallForm ((e::es).length+([]:List Keyword).length) (backTo pos (starEach (e::es) env)) (backToKw pos (keywordEach [] env))=true:=by intro;rfl)
  (hplain:∀env,(backTo pos (starEach (e::es) env)).any (·.1)=false:=by intro;rfl)
  (he:∀env,starEach (e::es) env=(false,eval e env)::starEach es env:=by intro;rfl)  {a:Act}{ow:Nat->Option Addr}{st:Sl}{s:Shared}{Q:Res->Sl->Prop}{X:Err->Sl->Prop}(f:a.Fits S sh)(R:Rel S sh a noX ow st s)
  (H:wpAny (model S.prog S.w) a.A (eval o a.env) (OkE S a ow st s λr st₁=>r.oM D.str? λl=>cs (λrs st₂=>p l (rs.map Res.d) (λr'=>Q r' st₂) (λx=>X x st₂)) X st₁) (zfN S a st s X) s) :
  wpAny (model S.prog S.w) a.A (eval (.Call (.Attribute o name apos) (e::es) [] pos) a.env) (OkE S a ow st s Q) (zfN S a st s X) s:=by
 rw[arm_eval_Call,hbase];refine yk (yr H (λov s₁ h=>yk (yT ?_)) λ_ _ x=>x);obtain⟨r,st₁,q,K,hr⟩:=h;refine za1 (Res.str_inv q) λl hzz q=>?_;subst hzz;obtain⟨hr,_⟩:=hr;have R1:=R.step f K;refine zfh hr.inv λt hzz=>?_;subst hzz;unfold methodCall;rw[hform];refine yk (yE (hm ?_));have hpos:methodCallPos true o a.env apos pos=Pure.pure pos:=by unfold methodCallPos;simp[hline]
 refine yk (wpAny_of_eq hpos ?_);show wpAny _ _ (callWith pos (.builtin m) [.str (mk l) t] (backTo pos (starEach (e::es) a.env)) []) _ _ _;refine Calls.callWith_builtin (hplain _) ?_;have hb:backTo pos (starEach (e::es) a.env)=(false,eval e a.env)::backTo pos (starEach es a.env):=by rw[he];rfl
 have hgo:=Hs pos a _ st₁ s₁ _ X f R1 q;rw[hb]at hgo⊢;refine Calls.evalArgs_plain (yr hgo (λvs s₂ h=>?_) λ_ _ x=>zaF K x);refine zfQ h λrs st₂ g1 g2 g3=>?_;have c2:=g3.cs;rw[zaq g2.frz]at c2;have KK:=K.trans g2;exact yr (P a _ st₂ s₂ l t vs _ _ _ f (R.step f KK) c2 g1) (λ_ _ x=>x.toE KK) λ_ _ x=>x.toE KK
theorem zcP{o:Expr}{name:Str}{m:String}{apos pos:Pos}{e:Expr}{es:List Expr}{c:PE}{cs:PEs}{p:List Nat->List D->PV}(H:zat S sh o c)(Hs:zb0 S sh (e::es) cs)(P:zmP S sh m p)
  (hm:∀{M:Model}{A:Around}{E:Value->Shared->Prop}{s:Shared}{x:Str}{t:Tok}{pl:Sem Bool}{Q:Value×List Value->Shared->Prop},Q (.builtin m,[.str x t]) s->wpAny M A (getMethod (.str x t) name pl) Q E s)
  (hline:(apos.endLine==pos.line)=true)(hbase:∀env,attributeBase o name env (eval o env)=eval o env:=by intro;rfl)
  (hform:∀env,methodCallForm ((e::es).length+([]:List Keyword).length) (backTo pos (starEach (e::es) env)) (backToKw pos (keywordEach [] env))=true:=by intro;rfl)
  (hplain:∀env,(backTo pos (starEach (e::es) env)).any (·.1)=false:=by intro;rfl)
  (he:∀env,starEach (e::es) env=(false,eval e env)::starEach es env:=by intro;rfl):zat S sh (.Call (.Attribute o name apos) (e::es) [] pos) (zdg c cs p):=λa ow st s Q X f R q=>
 zwQ Hs P hm hline hbase hform hplain he f R (H a ow st s _ X f R q)
end
section
variable{S:St0}{sh:zai}
noncomputable def zdY(l:List Nat)(ds:List D)(Q:Res->Prop)(_:Err->Prop):Prop:=zwH cS cI ds (λp=>Q (.pl (.bool (Txt.startswith (mk l) (mk p))))) λp i=>Q (.pl (.bool (Txt.startswith3 (mk l) (mk p) i)))
theorem zel{h:Heap}{P:Addr->Prop}{vs:List Value}{d:D}(x:zlH S h P vs [d]):∃v,vs=[v]∧zdH S h P v d:=by
 cases vs with
 |nil=>exact x.elim
 |cons v vs=>induction vs with
  |nil=>exact zbO v rfl x.1
  |cons _ _=>exact x.2.elim
theorem zn1{h:Heap}{P:Addr->Prop}{vs:List Value}{d e:D}(x:zlH S h P vs [d,e]):∃v w,vs=[v,w]∧zdH S h P v d∧zdH S h P w e:=by
 cases vs with
 |nil=>exact x.elim
 |cons v vs=>
  refine za1 (zel x.2) λw hzz y=>?_;subst hzz;exact zlk v w rfl x.1 y
theorem zcR:zmP S sh "str.startswith" zdY:=λa ow st s l t vs ds Q X f R h q=>by
 left;rcases zmj q with⟨p,e,q⟩|⟨p,i,e,q⟩<;>rw[e]at h
 ·refine za1 (zel h) λv hzz h1=>?_
  subst hzz;clear h;obtain⟨u,rfl⟩:=h1.str;exact SC.startswith (zcI (tk:=s.toks) R q)
 ·refine zfQ (zn1 h) λv w hzz h1 h2=>?_
  subst hzz;clear h;obtain⟨u,rfl⟩:=h1.str;obtain⟨u',rfl⟩:=h2.int;exact SC.startswith3 (zcI (tk:=s.toks) R q)
end
section
variable{S:St0}{sh:zai}
theorem zsb{op}{x:Expr}{pos}{c:PE}{p:D->PV}(H:zat S sh x c)(P:zm5 S sh (unaryOp op) p):zat S sh (.UnaryOp op x pos) (pe1 c p):=λ_ _ _ _ _ _ f R q=>UnaryOp_ (ev1 H P f R q)
noncomputable def zuZ:D->PV
 |.int i,Q,_=>Q (.pl (.int (-i)))
 |_,_,_=>False
theorem zgA:zm5 S sh (unaryOp .USub) zuZ:=λa ow st s v d Q X f R h q=>by
 left;cases d<;>first
  |exact q.elim
  |(obtain⟨t,rfl⟩:=h.int;exact P.neg_int (zbG R q))
end
section
variable{S:St0}{sh:zai}
end
section
variable{S:St0}{sh:zai}
noncomputable def zby(i:Int):List Nat:=(Str.ofString (toString i)).cps.toList
theorem zlX(i:Int):(Str.ofString (toString i))=mk (zby i):=(zdx _).symm
noncomputable def zfz(l:List Nat):List Nat:=(reprText (mk l)).cps.toList
theorem znI(l:List Nat):reprText (mk l)=mk (zfz l):=(zdx _).symm
noncomputable def zxg:D->PV
 |.str l,Q,_=>l.length≤LIM∧Q (.pl (.str l))
 |.int i,Q,_=>i.natAbs.log2<1920∧Q (.pl (.str (zby i)))
 |_,_,_=>False
theorem zdP{n:Nat}(h:n≤LIM):n≤sizeLine:=yj h (by decide)
set_option tactic.hygienic true in
theorem zuH:zm5 S sh (λv=>formatField v Str.empty) zxg:=λa ow st s v d Q X f R h q=>by
 left;cases d<;>first
  |exact q.elim
  |skip
 case int i=>
  obtain⟨t,rfl⟩:=h.int;exact PyProof.Rows.formatField_int_small q.1 (zcb R (zlX i) q.2)
 case str l=>
  obtain⟨t,rfl⟩:=h.str;exact PyProof.Rows.formatField_str (λt' tk=>zcb R rfl q.2) (by rw[zaG];exact zdP q.1)
noncomputable def zwg:D->PV
 |.str l,Q,_=>(zfz l).length≤LIM∧Q (.pl (.str (zfz l)))
 |_,_,_=>False
set_option tactic.hygienic true in
theorem zrs:zm5 S sh (λv=>do let r ←holding [v] (pyReprObj v);formatField r Str.empty) zwg:=λa ow st s v d Q X f R h q=>by
 left;cases d<;>first
  |exact q.elim
  |skip
 case str l=>
  obtain⟨t,rfl⟩:=h.str;have hz:(reprText (mk l)).length≤sizeLine:=by rw[znI,zaG];exact zdP q.1
  refine yk (yE (wpAny_pyReprObj_str ?_ hz));exact PyProof.Rows.formatField_str (λt' tk=>zcb R (znI l) q.2) hz
theorem zhX{e:Expr}{pos}{c:PE}(H:zat S sh e c):zat S sh (.FormattedValue e (-1) none pos) (pe1 c zxg):=λa ow st s Q X f R q=>
 wpAny_FormattedValue_plain (ev1 H zuH f R q)
theorem zrG{e:Expr}{pos}{c:PE}(H:zat S sh e c):zat S sh (.FormattedValue e 114 none pos) (pe1 c zwg):=λa ow st s Q X f R q=>by
 rw[arm_eval_FormattedValue];refine yk (yr (ev1 H zrs f R q) (λv s₁ h1=>?_) λ_ _ x=>x);refine yk (yT ?_);exact h1
noncomputable def zjz:List Nat->List PE->PE
 |acc,[],Q,_,st=>Q (.pl (.str acc)) st
 |acc,c::cs,Q,X,st=>c (λr st₁=>r.oM D.str? λy=>acc.length+y.length≤LIM∧zjz (acc++y) cs Q X st₁) X st
inductive zeP(S:St0)(sh:zai):List Expr->List PE->Prop
 |nil:zeP S sh [] []
 |cons {e es c cs}:zat S sh e c->zeP S sh es cs->zeP S sh (e::es) (c::cs)
theorem zsV{a:Act}(f:a.Fits S sh){st0:Sl}{s₀:Shared}{X:Err->Sl->Prop}{Q:Res->Sl->Prop}{ow0:Nat->Option Addr}{es:List Expr}{cs:List PE}(J:zeP S sh es cs):∀(acc:List Nat)(ow:Nat->Option Addr)(st:Sl)(s:Shared),acc.length≤LIM->Rel S sh a noX ow st s->Step a st0 st s₀ s->zjz acc cs Q X st ->
  Joins (model S.prog S.w) a.A (zfN S a st0 s₀ X) (evalEach es a.env) (mk acc) (λout s₁=>out.length≤sizeLine∧OkE S a ow0 st0 s₀ Q (.str out s₁.toks) {s₁ with toks:=s₁.toks+1}) s:=by
 induction J with
 |nil=>
  intro acc ow st s hl R K q;refine Joins_nil ⟨by rw[zaG];exact zdP hl,?_⟩;exact⟨.pl (.str acc),st,q,⟨K.frz,K.keep,K.gens,K.os⟩,.str acc _,λz=>zaD z⟩
 |@cons e es c cs H _ ih=>
  intro acc ow st s hl R K q;refine Joins_cons (yr (H a ow st s _ X f R q) (λv s₁ h=>?_) λ_ _ x=>zaF K x);left;obtain⟨r,st₁,hq,h2,h3⟩:=h;obtain⟨y,rfl,hz,hq⟩:=Res.str_inv hq;refine zfh h3.1.inv λt hzz=>?_;subst hzz;refine zlk (mk y) t rfl ?_ ?_
  ·rw[zle,zaG,List.length_append];exact zdP hz
  ·rw[zle]
   exact ih (acc++y) _ st₁ s₁ (by rw[List.length_append];exact hz) (R.step f h2) (K.trans h2) hq
theorem znw{e1 e2:Expr}{es:List Expr}{pos}{cs:List PE}(J:zeP S sh (e1::e2::es) cs):zat S sh (.JoinedStr (e1::e2::es) pos) (zjz [] cs):=λa ow st s Q X f R q=>
 wpAny_JoinedStr (zsV f J [] ow st s (yb _) R (.refl ..) q)
end
section
open Builtin Builtin.Str StrLaws
noncomputable def zdz(l p:List Nat)(hi i:Nat):Bool:=decide (i+p.length≤hi)&&((l.drop i).take p.length==p)
theorem znW{l p:List Nat}{hi i:Nat}:zdz l p hi i=true↔At (mk l) (mk p) hi i:=by
 unfold zdz At;simp only[subAt_eq,zaG,Bool.and_eq_true,decide_eq_true_eq];simp[mk]
noncomputable def zhy(l p:List Nat)(hi:Nat):List Nat->Nat->List Nat
 |[],_=>[]
 |i::is,free=>if(decide (free≤i)&&zdz l p hi i)=true then i::zhy l p hi is (i+p.length)else zhy l p hi is free
theorem zkF(l p:List Nat)(hi limit:Nat):∀(is:List Nat)(st:Array Nat×Nat),(forIn is st (occBody (mk l) (mk p) hi limit)).run.fst.toList=st.fst.toList++(zhy l p hi is st.snd).take (limit-st.fst.size)
 |[],st=>by simp[zhy]
 |i::is,st=>by
  rw[List.forIn_cons];unfold occBody zhy;have hA:=znW (l:=l) (p:=p) (hi:=hi) (i:=i);unfold At at hA;by_cases hc:(decide (st.snd≤i)&&zdz l p hi i)=true
  ·rw[if_pos hc]
   simp only[Bool.and_eq_true,decide_eq_true_eq]at hc;by_cases hl:st.fst.size<limit
   ·rw[if_pos ⟨⟨⟨hl,hc.1⟩,(hA.mp hc.2).1⟩,(hA.mp hc.2).2⟩]
    have:=zkF l p hi limit is (st.fst.push i,i+(mk p).length);rw[zaG]at this;obtain⟨n,hn⟩:∃n,limit-st.fst.size=n+1:=⟨limit-st.fst.size-1,(Nat.succ_pred_eq_of_pos (Nat.sub_pos_of_lt hl)).symm⟩;rw[zaG];refine Eq.trans this ?_;rw[hn];simp only[Array.toList_push,Array.size_push,List.append_assoc,List.take_succ_cons,List.singleton_append]
    congr 2
    congr 1
    rw[Nat.sub_add_eq,hn];rfl
   ·rw[if_neg (λh=>hl h.1.1.1)]
    have:=zkF l p hi limit is st;have z:limit-st.fst.size=0:=Nat.sub_eq_zero_of_le (yW hl);rw[z]at this⊢;exact this
  ·rw[if_neg hc]
   have hc':¬(((st.fst.size<limit∧st.snd≤i)∧i+(mk p).length≤hi)∧subAt (mk l) (mk p) i=true):=λh=>hc (by
    simp only[Bool.and_eq_true,decide_eq_true_eq];exact⟨h.1.1.2,hA.mpr ⟨h.1.2,h.2⟩⟩)
   rw[if_neg hc'];exact zkF l p hi limit is st
theorem zu1(l p:List Nat)(lo hi limit:Nat):occurrences (mk l) (mk p) lo hi limit=(zhy l p hi (List.range' lo (hi+1-lo)) lo).take limit:=by
 rw[occ_eq,zkF];simp
theorem zhU(l p:List Nat)(hi:Nat):∀(is:List Nat)(free:Nat),(zhy l p hi is free).length≤is.length
 |[],_=>yq _
 |i::is,free=>by
  rw[zhy]
  split
  ·exact yD (zhU l p hi is _)
  ·exact xc (zhU l p hi is _)
noncomputable def ziY(l p:List Nat)(lo hi:Nat):List Nat:=zhy l p hi (List.range' lo (hi+1-lo)) lo
theorem zmK{l p:List Nat}{lo hi limit:Nat}(h:hi+1-lo≤limit):occurrences (mk l) (mk p) lo hi limit=ziY l p lo hi:=by
 rw[zu1];refine List.take_of_length_le (yj (zhU ..) ?_);rw[List.length_range'];exact h
noncomputable def zca(l p:List Nat)(lo hi:Nat):Option Nat:=(List.range' lo (hi+1-lo)).find? (zdz l p hi)
theorem ziW(l p:List Nat)(hi:Nat):∀(is:List Nat)(free:Nat),(∀i∈is,free≤i)->(zhy l p hi is free).head?=is.find? (zdz l p hi)
 |[],_,_=>rfl
 |i::is,free,h=>by
  rw[zhy];rw[List.find?_cons];have hi':=h i yp;cases q:zdz l p hi i with
  |true=>simp[hi']
  |false=>
   simp only[Bool.and_false,Bool.false_eq_true,if_false];exact ziW l p hi is free λj hj=>h j (ym _ hj)
theorem zjS(l p:List Nat)(lo hi:Nat):(occurrences (mk l) (mk p) lo hi 1).head?=zca l p lo hi:=by
 rw[zu1,List.head?_take,if_neg (by decide)];exact ziW _ _ _ _ _ λi h=>(List.mem_range'_1.mp h).1
theorem zlI{l p:List Nat}{lo hi:Nat}(h:zca l p lo hi=none):occurrences (mk l) (mk p) lo hi 1=[]:=by
 have:=zjS l p lo hi;rw[h]at this;exact List.head?_eq_none_iff.mp this
theorem zmf{l p:List Nat}{lo hi i:Nat}(h:zca l p lo hi=some i):∃r,occurrences (mk l) (mk p) lo hi 1=i::r:=by
 have:=zjS l p lo hi;rw[h]at this;exact⟨_,(List.head?_eq_some_iff.mp this).choose_spec⟩
noncomputable def zhC(l p:List Nat)(lo hi:Nat):Option Nat:=(List.range' lo (hi+1-lo)).reverse.find? (zdz l p hi)
theorem ziA(l p:List Nat)(hi:Nat):∀(is:List Nat)(st:Option Nat),(forIn is st (lastBody (mk l) (mk p) hi)).run=(is.reverse.find? (zdz l p hi)).or st
 |[],st=>by simp
 |i::is,st=>by
  rw[List.forIn_cons];unfold lastBody;have hA:=znW (l:=l) (p:=p) (hi:=hi) (i:=i);unfold At at hA;rw[List.reverse_cons,List.find?_append];by_cases hc:zdz l p hi i=true
  ·rw[if_pos (hA.mp hc)]
   refine Eq.trans (ziA l p hi is (some i)) ?_;simp[hc]
  ·rw[if_neg λh=>hc (hA.mpr h)]
   refine Eq.trans (ziA l p hi is st) ?_;have hc:zdz l p hi i=false:=by simpa using hc
   simp[hc]
theorem zkL(l p:List Nat)(lo hi:Nat):lastOccurrence (mk l) (mk p) lo hi=zhC l p lo hi:=by
 rw[last_eq,ziA];simp[zhC]
noncomputable def zfZ(n:Nat)(i:Int):Nat:=(max 0 (if i<0 then i+n else i)).toNat
section
variable{S:St0}{sh:zai}
@[irreducible]noncomputable def zsE(X:Err->Prop)(Q:Res->Prop)(calm:Bool)(o:Option Nat):Prop:=match o with
 |some j=>Q (.pl (.int j))
 |none=>calm=true∧∀m,X (.value,m)
theorem zms{X:Err->Prop}{Q:Res->Prop}{calm:Bool}{j:Nat}(h:zsE X Q calm (some j)):Q (.pl (.int j)):=by unfold zsE at h;exact h
theorem zgr{X:Err->Prop}{Q:Res->Prop}{calm:Bool}(h:zsE X Q calm none):calm=true∧∀m,X (.value,m):=by unfold zsE at h;exact h
theorem zsh{X:Err->Prop}{Q:Res->Prop}{calm:Bool}{o:Option Nat}{j:Nat}(e:o=some j)(k:Q (.pl (.int j))):zsE X Q calm o:=by subst e;unfold zsE;exact k
set_option tactic.hygienic true in
theorem zuV{h:Heap}{P:Addr->Prop}{vs:List Value}{d e g:D}(x:zlH S h P vs [d,e,g]):∃v w u,vs=[v,w,u]∧zdH S h P v d∧zdH S h P w e∧zdH S h P u g:=by
 cases vs with
 |nil=>exact x.elim
 |cons v vs=>
  refine zfQ (zn1 x.2) λw u hzz y z=>?_;subst hzz;exact zsz v w u rfl x.1 y z
@[reducible]noncomputable def zkm(ds:List D)(k:List Nat->Prop)(k3:List Nat->Int->Int->Prop):Prop:=ztu cS ds λp ds=>match ds with
 |[]=>k p
 |d::ds=>oM d.int? λi=>one cI ds λj=>k3 p i j
theorem zhk{l:List D}{k:List Nat->Prop}{k3:List Nat->Int->Int->Prop}(h:zkm l k k3):(∃x,l=[.str x]∧k x)∨∃x i j,l=[.str x,.int i,.int j]∧k3 x i j:=by
 left;refine zfA (zik h) λx r1 e1 h=>?_
 induction r1 with
 |nil=>exact .inl (zbO x e1 h)
 |cons d r=>
  refine za1 (oM_inv h) λi e2 h=>?_;refine za1 (ze2 h) λj e3 h=>?_;exact .inr (zu2 x i j (by simp only[e1,D.int?_inv e2,e3]) h)
noncomputable def zn9(l:List Nat)(ds:List D)(Q:Res->Prop)(_:Err->Prop):Prop:=zkm ds (λp=>Q (.pl (.int (ziY l p 0 l.length).length))) λp i j=>Q (.pl (.int (ziY l p (zfZ l.length i) (min (zfZ l.length j) l.length)).length))
noncomputable def zg6(calm:Bool)(l:List Nat)(ds:List D)(Q:Res->Prop)(X:Err->Prop):Prop:=zkm ds (λp=>zsE X Q calm (zhC l p 0 l.length)) λp i j=>zsE X Q calm (zhC l p (zfZ l.length i) (min (zfZ l.length j) l.length))
theorem zij(x y:Str)(i j:Int)(t u v w:Tok):Gives («str.count» ⟨[.str x t,.str y u,.int i v,.int j w],[]⟩) (.int (occurrences x y (fromIndex x.length i) (min (fromIndex x.length j) x.length) (x.length+1)).length):=by
 show Gives (retInt (occurrences x y (fromIndex x.length i) (min (fromIndex x.length j) x.length) (x.length+1)).length) _;exact .of_eq rfl
theorem zhG(x y:Str)(i j:Int)(t u v w:Tok)(k:Nat)(h:lastOccurrence x y (fromIndex x.length i) (min (fromIndex x.length j) x.length)=some k):Gives («str.rindex» ⟨[.str x t,.str y u,.int i v,.int j w],[]⟩) (.int k):=by
 show Gives (match lastOccurrence x y (fromIndex x.length i) (min (fromIndex x.length j) x.length)with|some i=>retInt i|none=>(do rule "str.rindex.not-found";raiseError "ValueError" "substring not found")) _;rw[h];exact .of_eq rfl
theorem zg2(x y:Str)(i j:Int)(t u v w:Tok)(h:lastOccurrence x y (fromIndex x.length i) (min (fromIndex x.length j) x.length)=none):Meets («str.rindex» ⟨[.str x t,.str y u,.int i v,.int j w],[]⟩) (raisesNew "ValueError"):=by
 intro prog w A R s hS;show wpAny _ _ (match lastOccurrence x y (fromIndex x.length i) (min (fromIndex x.length j) x.length)with|some i=>retInt i|none=>_) _ _ s;rw[h]
 first
  |exact yk (wpAny_rule (by exact_raiseError plainExc_ValueError hS.1 hS.2))
  |exact yk (wpAny_rule (yk (by exact_raiseError plainExc_ValueError hS.1 hS.2)))
theorem zoI:zmP S sh "str.count" zn9:=λa ow st s l t vs ds Q X f R h q=>by
 left;rcases zhk q with⟨p,e,q⟩|⟨p,i,j,e,q⟩<;>rw[e]at h
 ·refine za1 (zel h) λv hzz h1=>?_
  subst hzz;clear h;obtain⟨u,rfl⟩:=h1.str;refine SC.count ?_;have e:Txt.count (mk l) (mk p)=(ziY l p 0 l.length).length:=by
   unfold Txt.count;rw[zaG,zmK (l:=l) (p:=p) (lo:=0) (hi:=l.length) (limit:=l.length+1) (Nat.le_refl _)]
  rw[e];exact zbG R q
 ·refine zuz (zuV h) λv w z hzz h1 h2 h3=>?_
  subst hzz;clear h;obtain⟨u,rfl⟩:=h1.str;obtain⟨u',rfl⟩:=h2.int;obtain⟨u'',rfl⟩:=h3.int;refine call_gives F.slot_str_count (typeIs_str _ _ _) F.entry_str_count (F.args_str_count_4 _ _ _ _) (zij (mk l) (mk p) i j t u u' u'') ?_;rw[zaG,zmK (Nat.le_trans (Nat.sub_le ..) (Nat.succ_le_succ (Nat.min_le_right ..)))];exact zbG R q
theorem zix:zmP S sh "str.rindex" (zg6 sh.calm):=λa ow st s l t vs ds Q X f R h q=>by
 left;rcases zhk q with⟨p,e,q⟩|⟨p,i,j,e,q⟩<;>rw[e]at h
 ·refine za1 (zel h) λv hzz h1=>?_
  subst hzz;clear h;obtain⟨u,rfl⟩:=h1.str;cases hf:zhC l p 0 l.length with
  |some j=>
   rw[hf]at q;exact call_gives F.slot_str_rindex (typeIs_str _ _ _) F.entry_str_rindex (F.args_str_rindex_2 _ _) (gives_str_rindex (mk l) (mk p) t u j (by rw[zaG,zkL];exact hf)) (zbG R (zms q))
  |none=>
   rw[hf]at q;exact call_meets F.slot_str_rindex (typeIs_str _ _ _) F.entry_str_rindex (F.args_str_rindex_2 _ _) (raises_str_rindex (mk l) (mk p) t u (by rw[zaG,zkL];exact hf)) ⟨(f.calm (zgr q).1).1,λh' tk e hn=>zh1 R (c:=.value) (by decide) hn ((zgr q).2 [])⟩
 ·refine zuz (zuV h) λv w z hzz h1 h2 h3=>?_
  subst hzz;clear h;obtain⟨u,rfl⟩:=h1.str;obtain⟨u',rfl⟩:=h2.int;obtain⟨u'',rfl⟩:=h3.int;cases hf:zhC l p (zfZ l.length i) (min (zfZ l.length j) l.length)with
  |some k=>
   rw[hf]at q;exact call_gives F.slot_str_rindex (typeIs_str _ _ _) F.entry_str_rindex (F.args_str_rindex_4 _ _ _ _) (zhG (mk l) (mk p) i j t u u' u'' k (by rw[zaG,zkL];exact hf)) (zbG R (zms q))
  |none=>
   rw[hf]at q;exact call_meets F.slot_str_rindex (typeIs_str _ _ _) F.entry_str_rindex (F.args_str_rindex_4 _ _ _ _) (zg2 (mk l) (mk p) i j t u u' u'' (by rw[zaG,zkL];exact hf)) ⟨(f.calm (zgr q).1).1,λh' tk e hn=>zh1 R (c:=.value) (by decide) hn ((zgr q).2 [])⟩
end
end
end Mine.Internal
end
section
open PySem PySem.W PySem.Calls PyProof.Rows
set_option tactic.hygienic false
set_option maxRecDepth 100000
namespace Mine.Internal.FZ
theorem plainAttrs_frozenset:PlainAttrs "frozenset":=
 ⟨(zbO ("object.__getattribute__") (by rw[typeLookup_type,builtinLookup_eq_fast];kernel_rfl) (by right)),by rw[typeLookup_type,builtinLookup_eq_fast];kernel_rfl⟩
theorem slot_issuperset:PySem.Slot "frozenset" "issuperset" "frozenset.issuperset":=
 PySem.Slot.of (owner:="frozenset") (n:="issuperset") (by rw[typeLookup_type,builtinLookup_eq_fast];kernel_rfl) (by right) (by right) (by right)
  (by first|exact .inl (by right)|exact .inr (by right)) (by rw[isSubtype_type];kernel_rfl)
theorem type_issuperset:typeOf (.builtin "frozenset.issuperset")=pure (.type "method_descriptor"):=by show builtinType _=_;rw[builtinType_eq_fast];kernel_rfl
theorem entry_issuperset:entryFor table "frozenset.issuperset"=some Builtin.«frozenset.issuperset»:=entryFor_of_tree (by kernel_rfl)
theorem args_issuperset(a b:Value):argsOk "frozenset.issuperset" ⟨[a,b],[]⟩:=by
 unfold argsOk;rw[signature?_of (id:="frozenset.issuperset") (n:="issuperset".toList.reverse) (o:="frozenset".toList.reverse) (by kernel_rfl) W.FB.owner_frozenset];kernel_rfl
theorem entry_issuperset_loop:entryFor table "frozenset.issuperset.loop"=some Builtin.«frozenset.issuperset.loop»:=entryFor_of_tree (by kernel_rfl)
theorem plain_issuperset_loop:plainId "frozenset.issuperset.loop"=true:=by kernel_rfl
end Mine.Internal.FZ
namespace Mine.Internal
section
variable{prog:Program}{w:World}{A:Around}{E:Value->Shared->Prop}
noncomputable def Looks(prog:Program)(w:World)(d:zc3)(v:Value)(b:Bool):Prop:=
 ∀(A:Around)(E:Value->Shared->Prop)(S:Addr)(s:Shared)(Q:Bool->Shared->Prop),s.heap.get? S=some (zan d)->(∀tk,Q b {s with toks:=tk})->wpAny (model prog w) A (setContains S v) Q E s
theorem zlF{d:zc3}{l:List Str}(F:zao prog w d l)(x:Str)(t:Tok):Looks prog w d (.str x t) (decide (x∈l)):=λA E S s Q ho q=>by
 unfold setContains;refine yE (yk ((PySem.strKind prog w).pyHash (k:=x) (v:=.str x t) (by show Value.isStrOf x (.str x t)=true;simp[Value.isStrOf]) ?_));refine yk (setFind_any (knd:=PySem.strKind prog w) (S:=λk=>decide (k∈l)) (by show Value.isStrOf x (.str x t)=true;simp[Value.isStrOf]) rfl ho rfl F.el (λk=>by rw[decide_eq_true_eq];exact F.mem k) F.bound F.fits λr hr=>yn ?_);rw[hr];exact q _
theorem zlx{x:Str}{t:Tok}{s:Shared}{Q:Bool->Shared->Prop}(h:Q false s):wpAny (model prog w) A (eqBool (.str x t) .none) Q E s:=by
 unfold eqBool;refine yE ?_;rw[if_neg (by simp)];exact yk (EqNone.eq_str_none (wpAny_truthy_bool h))
theorem zmb{d:zc3}{l:List Str}(Fs:zao prog w d l){S:Addr}{hn:Int}{Q:ScanMet->Shared->Prop}:∀(es:List (Int×Value))(i:Nat)(s:Shared),s.heap.get? S=some (zan d)->(∀e∈es,∃x t,e.2=.str x t)->A.units+1<cLine->Q .absent s ->
  wpAny (model prog w) A (setScanFrom S .none hn false es i) Q E s
 |[],i,s,ho,he,hu,q=>yn q
 |(h',y)::es,i,s,ho,he,hu,q=>by
  have hrest:=zmb Fs (hn:=hn) es (i+1) s ho (λe h=>he e (ym _ h)) hu q;unfold setScanFrom;by_cases hh:(h'==hn)=true
  ·refine zdu hh ?_
   refine zzj (he _ yp) λx t e=>?_;dsimp only at e;clear he;subst e;refine yk (wpAny_setEpoch_of ho rfl Fs.fits ?_);refine yk (zlx ?_);simp only[Bool.and_false,Bool.false_eq_true,if_false];refine yk (wpAny_setEpoch_of ho rfl Fs.fits ?_);simp only[bne_self_eq_false,Bool.false_eq_true,↓reduceIte];exact hrest
  ·refine zbW hh ?_
   exact hrest
theorem zpv{d:zc3}{l:List Str}(Fs:zao prog w d l):∀(A:Around)(E:Value->Shared->Prop)(S:Addr)(s:Shared)(Q:Bool->Shared->Prop),A.units+10<cLine->s.heap.get? S=some (zan d)->(∀tk,Q false {s with toks:=tk})->wpAny (model prog w) A (setContains S .none) Q E s:=λA E S s Q hu ho q=>by
 unfold setContains;refine yE (yk ?_);show wpAny _ _ (pyHashByItsType .none) _ _ _;refine pyHash_slot (T:="NoneType") rfl F.slot_NoneType_hash F.entry_NoneType_hash (F.args_NoneType_hash_1 _) (PySem.beq_builtin_none _) (.inl rfl) (yk (yn (yk (wpAny_mkInt (yn (zlq _ _ rfl ?_))))));have hel:∀e∈d.1.toList,∃x t,e.2=.str x t:=λe he=>by
  left;obtain⟨⟨k,hk,_⟩,_⟩:=Fs.el e he;obtain⟨t,q⟩:=Value.isStrOf_shape hk;exact zxR k t q
 unfold setFind setFindIn;refine yk (yk (wpAny_setState_of (s:={s with toks:=_}) ho rfl Fs.fits ?_));dsimp only;rw[byScan_of (knd:=PySem.strKind prog w) rfl Fs.bound Fs.el];simp only[↓reduceIte];refine yk (wpAny_rule (yk ?_));show wpAny _ _ (setScanFrom S .none _ false d.1.toList 0) _ _ _;refine zmb Fs d.1.toList 0 _ ho hel (by lia) ?_;dsimp only;exact yn (yn (q _))
theorem zyF{d:zc3}{v:Value}{b:Bool}{S:Addr}{s:Shared}{Q:Bool->Shared->Prop}(ho:s.heap.get? S=some (zan d))(hL:∀(A':Around)(E:Value->Shared->Prop)(Q:Bool->Shared->Prop),A'.units≤A.units+1->(∀tk,Q b {s with toks:=tk})->wpAny (model prog w) A' (setContains S v) Q E s)
  (h:∀tk,Q b {s with toks:=tk}):wpAny (model prog w) A (contains (.ref S) v) Q E s:=by
 have hT:s.TypeIs (.ref S) "frozenset":=(zbO _ ho rfl);unfold contains
 try with_reducible refine yE ?_
 refine yk (wpAny_specialOf hT FB.slot_frozenset_contains.lookup ?_);show wpAny _ _ (if(some (Value.builtin "frozenset.__contains__")==some Value.none)=true then _ else _) _ E s;refine zbW (by rw[PySem.beq_builtin_none];exact yA) ?_;refine yk (wpAny_callSpecialUnlessNone?_slot (name:=ofString "__contains__") hT FB.slot_frozenset_contains
  (wpAny_call_entry FB.slot_frozenset_contains hT FB.entry_frozenset_contains ?_ (FB.args_frozenset_contains_2 _ _)))
 unfold Builtin.«frozenset.__contains__» Builtin.Frozenset.oneOther;simp only[List.isEmpty_nil,bind_assoc];unfold Builtin.Frozenset.addrOf Builtin.Frozenset.withSetAsKey;refine yk (yn ?_)
 try dsimp only
 refine yk (yn ?_)
 try dsimp only
 refine yk (wpAny_tryCatch ?_);refine hL A.in1 _ _ (yq _) λtk=>?_;show wpAny _ _ (ret (Value.bool b)) _ _ _;exact yn (zbO _ rfl (wpAny_truthy_bool (h _)))
end
section
variable{S:St0}{sh:zai}{a:Act}{ow:Nat->Option Addr}{st:Sl}{s:Shared}
theorem zdH.fset{h:Heap}{P:Addr->Prop}{v:Value}{l:List (List Nat)}(x:zdH S h P v (.fset l)):∃b d,v=.ref b∧h.get? b=some (zan d)∧zao S.prog S.w d (l.map mk):=by
 left;rcases x with x|⟨_,_,_,_,_,_,e,_⟩
 ·cases x;exact zlk _ _ rfl (by assumption) (by assumption)
 ·cases e
noncomputable def zrh:D->List (List Nat)->Option Bool
 |.str k,l=>some (decide (k∈l))
 |.none,_=>some false
 |_,_=>none
set_option tactic.hygienic true in
theorem zgb(f:a.Fits S sh)(R:Rel S sh a noX ow st s){v c:Value}{d:D}{l:List (List Nat)}{b:Bool}(hb:zrh d l=some b)(hv:zdH S s.heap (Pv a noX ow) v d)(hc:zdH S s.heap (Pv a noX ow) c (.fset l)){E:Value->Shared->Prop}{Q:Bool->Shared->Prop}
  (q:∀tk,Q b {s with toks:=tk}):wpAny (model S.prog S.w) a.A (contains c v) Q E s:=by
 refine zfQ hc.fset λB dd hzz ho F=>?_;subst hzz;left;cases d
 case none=>
  obtain rfl:=hv.none;obtain rfl:false=b:=yi hb;exact zyF ho (λA' E' Q' hu q'=>zpv F A' E' B s Q' (by have:=zhO f;lia) ho q') q
 case str k=>
  have hb:decide (k∈l)=b:=yi hb;obtain⟨t,rfl⟩:=hv.str;have e:decide (mk k∈l.map mk)=b:=by
   rw[←hb];refine yS.mpr ⟨λh=>?_,λh=>List.mem_map_of_mem h⟩;refine za1 (List.mem_map.mp h) λx hx e=>?_;exact zlG e▸hx
  exact zyF ho (λA' E' Q' hu q'=>by
   have:=zlF F (mk k) t A' E' B s Q' ho;rw[e]at this;exact this q') q
 all_goals exact zad (show(none:Option Bool)=some b from hb)
end
end Mine.Internal
end
section
open PySem PySem.W PySem.Calls PyProof.Rows
set_option tactic.hygienic false
set_option genInjectivity false
set_option genSizeOfSpec false
set_option maxRecDepth 100000
namespace Mine.Internal
section
open Builtin Builtin.Str
section
variable{S:St0}{sh:zai}{a:Act}{ow:Nat->Option Addr}{st:Sl}{s:Shared}
noncomputable def zzC(d e:D):Option Bool:=match e with
 |.str y=>(match d with
  |.str x=>some (zca y x 0 y.length).isSome
  |_=>none)
 |.fset l=>zrh d l
 |_=>none
theorem zob{d e:D}{b:Bool}(h:zzC d e=some b):(∃x y,d=.str x∧e=.str y∧(zca y x 0 y.length).isSome=b)∨∃l,e=.fset l∧zrh d l=some b:=by
 cases e with
 |str y=>cases d<;>first|((first|exact zad h|cases h);done)|exact .inl (zlk _ _ rfl rfl (yi h))
 |fset l=>exact .inr (zbO _ rfl h)
 |_=>exact zad h
noncomputable def inD:D->D->PV:=λd e Q _=>oM (zzC d e) λb=>Q (.pl (.bool b))
noncomputable def zy4:D->D->PV:=λd e Q _=>oM (zzC d e) λb=>Q (.pl (.bool (!b)))
theorem zhq(x y:List Nat):Txt.contains (mk y) (mk x)=(zca y x 0 y.length).isSome:=by
 unfold Txt.contains;rw[zaG];cases h:zca y x 0 y.length with
 |none=>rw[zlI h];rfl
 |some i=>obtain⟨r,hr⟩:=zmf h;rw[hr];rfl
theorem zkJ:zcK S sh (compareOp .In) inD:=λa ow st s v1a v2a d₁ d₂ Q X f R h1 h2 q=>by
 left;refine za1 (oM_inv q) λb hb q=>?_;rcases zob hb with⟨x,y,e1,e2,hb⟩|⟨l,e2,hb⟩
 ·rw[e1]at h1
  rw[e2]at h2;obtain⟨t,rfl⟩:=h1.str;obtain⟨u,rfl⟩:=h2.str;refine SB.contains ?_;rw[zhq,hb];exact zcI (tk:=s.toks) R q
 ·rw[e2]at h2
  show wpAny _ _ (do return Value.bool (←contains v2a v1a)) _ _ s;exact yk (zgb f R hb h1 h2 λtk=>yn (zcI (tk:=tk) R q))
theorem zos:zcK S sh (compareOp .NotIn) zy4:=λa ow st s v1a v2a d₁ d₂ Q X f R h1 h2 q=>by
 left;refine za1 (oM_inv q) λb hb q=>?_;rcases zob hb with⟨x,y,e1,e2,hb⟩|⟨l,e2,hb⟩
 ·rw[e1]at h1
  rw[e2]at h2;obtain⟨t,rfl⟩:=h1.str;obtain⟨u,rfl⟩:=h2.str;refine SB.notContains ?_;rw[zhq,hb];exact zcI (tk:=s.toks) R q
 ·rw[e2]at h2
  show wpAny _ _ (do return Value.bool (!(←contains v2a v1a))) _ _ s;exact yk (zgb f R hb h1 h2 λtk=>yn (zcI (tk:=tk) R q))
end
section
variable{prog:Program}{w:World}
theorem ztg{A:Around}{E:Value->Shared->Prop}{I:Addr}{x:Str}{t:Tok}{i:Nat}{kind:String}(hk:kind="str_ascii_iterator"∨kind="str_iterator")(hA:A.handled=none){s:Shared}{Q:Option Value->Shared->Prop}(hit:s.heap.IsStrIter I kind x t i)(hx:x.cps[i]?=none)
  (q:∀h',Heap.ExtBut I s.heap h'->Q none {s with heap:=h'}):wpAny (model prog w) A (pyNext (.ref I)) Q E s:=by
 rcases hk with rfl|rfl
 ·exact wpAny_pyNext_ascii_end hA hit hx q
 ·exact wpAny_pyNext_wide_end hA hit hx q
theorem zrm{A:Around}{E:Value->Shared->Prop}{I:Addr}{x:Str}{t:Tok}{i c:Nat}{kind:String}(hk:kind="str_ascii_iterator"∨kind="str_iterator"){s:Shared}{Q:Option Value->Shared->Prop}(hit:s.heap.IsStrIter I kind x t i)(hx:x.cps[i]?=some c)
  (q:∀h',h'.IsStrIter I kind x t (i+1)->Heap.SameBut I s.heap h'->Q (some (.str ⟨#[c]⟩ s.toks)) {s with heap:=h',toks:=s.toks+1}):wpAny (model prog w) A (pyNext (.ref I)) Q E s:=by
 rcases hk with rfl|rfl
 ·exact wpAny_pyNext_ascii_item hit hx q
 ·exact wpAny_pyNext_wide_item hit hx q
theorem zpd{d:zc3}{l:List Str}(Fs:zao prog w d l){T:Addr}{I:Addr}{x:Str}{t:Tok}{kind:String}(hk:kind="str_ascii_iterator"∨kind="str_iterator"){A:Around}(hA:A.handled=none){h₀:Heap}(hI0:h₀.get? I=none)(hT0:h₀.get? T=some (zan d)) :
  ∀(n i:Nat)(s:Shared)(R:Result->Shared->Prop),x.cps.size-i=n->(∀b o,h₀.get? b=some o->s.heap.get? b=some o)->s.heap.IsStrIter I kind x t i ->
   (∀h' tk,(∀b o,h₀.get? b=some o->h'.get? b=some o)->R (.ok (.ret (.bool ((x.cps.toList.drop i).all λc=>decide ((⟨#[c]⟩:Str)∈l))))) {s with heap:=h',toks:=tk}) ->
   codeAny (model prog w) A (.builtin "frozenset.issuperset.loop" ⟨[.ref T,.ref I],[]⟩) R s:=by
 intro n
 induction n with
 |zero=>
  intro i s R hn hkp hit q;refine codeAny_builtin FZ.entry_issuperset_loop ?_;rw[Around.under_plainId FZ.plain_issuperset_loop _];unfold Builtin.«frozenset.issuperset.loop»;dsimp only;have hx:x.cps[i]?=none:=by rw[Array.getElem?_eq_none_iff];exact Nat.sub_eq_zero_iff_le.mp hn
  have hd:x.cps.toList.drop i=[]:=List.drop_eq_nil_of_le (Array.length_toList▸(Nat.sub_eq_zero_iff_le.mp hn));rw[hd]at q;refine yk (ztg (A:=A.in1) hk hA hit hx λh' hb=>?_);dsimp only;exact yn (q h' s.toks λb o e=>hb b o (λz=>by rw[z,hI0]at e;exact zad e) (hkp b o e))
 |succ n ih=>
  intro i s R hn hkp hit q;refine codeAny_builtin FZ.entry_issuperset_loop ?_;rw[Around.under_plainId FZ.plain_issuperset_loop _];unfold Builtin.«frozenset.issuperset.loop»;dsimp only;have hlt:i<x.cps.size:=Nat.lt_of_sub_eq_succ hn;have hx:x.cps[i]?=some x.cps[i]:=Array.getElem?_eq_getElem hlt;have hd:x.cps.toList.drop i=x.cps[i]::x.cps.toList.drop (i+1):=by
   rw[List.drop_eq_getElem_cons (by exact hlt)];simp
  rw[hd]at q;refine yk (zrm hk hit hx λh' hi hb=>?_);dsimp only;have hkp':∀b o,h₀.get? b=some o->h'.get? b=some o:=λb o e=>(hb.2 b λz=>by rw[z,hI0]at e;exact zad e).trans (hkp b o e);refine yk (yE (zlF Fs _ _ _ _ T _ _ (hkp' _ _ hT0) λtk'=>?_));cases hc:decide ((⟨#[x.cps[i]]⟩:Str)∈l)with
  |false=>
   dsimp only;have:=q h' tk' hkp';rw[List.all_cons,hc]at this
   first
    |(rw[if_pos rfl];exact yn this)
    |(refine zbW (by decide) ?_;exact yn this)
  |true=>
   have go:∀h'' tk'',(∀b o,h₀.get? b=some o->h''.get? b=some o)->R (.ok (.ret (.bool ((x.cps.toList.drop (i+1)).all λc=>decide ((⟨#[c]⟩:Str)∈l))))) {s with heap:=h'',toks:=tk''}:=λh'' tk'' hk''=>by
    have:=q h'' tk'' hk'';rw[List.all_cons,hc]at this;exact this
   first
    |(rw[if_neg (by decide)];exact yn ⟨plainId_quiet FZ.plain_issuperset_loop _,ih (i+1) _ R (by rw[←Nat.sub_sub,hn];rfl) hkp' hi go⟩)
    |(refine zdu rfl ?_;exact yn ⟨plainId_quiet FZ.plain_issuperset_loop _,ih (i+1) _ R (by rw[←Nat.sub_sub,hn];rfl) hkp' hi go⟩)
theorem zrK{A:Around}{E:Value->Shared->Prop}{x:Str}{t:Tok}{s:Shared}{Q:Value->Shared->Prop}(q:∀kind I h',(kind="str_ascii_iterator"∨kind="str_iterator")->s.heap.get? I=none->(∀b o,s.heap.get? b=some o->h'.get? b=some o)->h'.IsStrIter I kind x t 0->Q (.ref I) {s with heap:=h'}):wpAny (model prog w) A (pyIter (.str x t)) Q E s:=by
 have hn:s.heap.get? s.heap.objs.size=none:=yP (yq _);left;cases ha:x.cps.all (·<128)with
 |true=>exact wpAny_pyIter_ascii ha (q _ _ _ (.inl rfl) hn (λb o e=>yB _ e) (zf8 _ (yF _ rfl) rfl rfl))
 |false=>exact wpAny_pyIter_wide ha (q _ _ _ (.inr rfl) hn (λb o e=>yB _ e) (zf8 _ (yF _ rfl) rfl rfl))
theorem zpJ{d:zc3}{l:List Str}(Fs:zao prog w d l){T:Addr}{x:Str}{t:Tok}{A:Around}(hA:A.handled=none){E:Value->Shared->Prop}{s:Shared}{Q:Value->Shared->Prop}(ho:s.heap.get? T=some (zan d))
  (q:∀h' tk,(∀b o,s.heap.get? b=some o->h'.get? b=some o)->Q (.bool (x.cps.toList.all λc=>decide ((⟨#[c]⟩:Str)∈l))) {s with heap:=h',toks:=tk}):wpAny (model prog w) A (call (.builtin "frozenset.issuperset") [.ref T,.str x t]) Q E s:=by
 have hT:s.TypeIs (.ref T) "frozenset":=(zbO _ ho rfl);refine wpAny_call (codeAny_call_builtin FZ.slot_issuperset.plain FZ.entry_issuperset (FZ.slot_issuperset.check _ _ _ _ _ _ _ _ hT (FZ.args_issuperset _ _) ?_));unfold Builtin.«frozenset.issuperset» Builtin.Frozenset.oneOther Builtin.Frozenset.addrOf;simp only[List.isEmpty_nil,bind_assoc];refine yk (yn ?_)
 try dsimp only
 refine yk (yn ?_)
 try dsimp only
 unfold Builtin.Frozenset.isAnySet;have h1:isSubtype (.type "str") (.type "set")=pure false:=by rw[isSubtype_type];kernel_rfl
 have h2:isSubtype (.type "str") (.type "frozenset")=pure false:=by rw[isSubtype_type];kernel_rfl
 refine yk ?_;unfold orM;refine yk (wpAny_isInstance (typeIs_str _ x t) h1 ?_);refine wpAny_isInstance (typeIs_str _ x t) h2 ?_;refine zbW (by decide) ?_;refine yk (zrK λkind I h' hk hI hkp hit=>?_);refine yn ⟨plainId_quiet FZ.plain_issuperset_loop _,zpd Fs hk hA hI ho _ 0 _ _ rfl hkp hit λh'' tk hk''=>?_⟩;exact q h'' tk hk''
end
section
variable{S:St0}{sh:zai}
noncomputable def zyR(S:St0)(sh:zai)(m:String)(p:List (List Nat)->List D->PV):Prop:=
 ∀(a:Act)(ow:Nat->Option Addr)(st:Sl)(s:Shared)(v:Value)(l:List (List Nat))(vs:List Value)(ds:List D)(Q:Res->Prop)(X:Err->Prop),a.Fits S sh->Rel S sh a noX ow st s->zcj S s.heap (Pv a noX ow) v (.fset l)->zlH S s.heap (Pv a noX ow) vs ds->p l ds Q X ->
  wpAny (model S.prog S.w) a.A (call (.builtin m) (v::vs)) (OkP S a ow st s Q) (zsB S a st s X) s
@[reducible]noncomputable def zsr(c:PE)(cs:PEs)(p:List (List Nat)->List D->PV):PE:=λQ X st=>c (λr st₁=>r.oM D.fset? λl=>cs (λrs st₂=>p l (rs.map Res.d) (λr'=>Q r' st₂) (λx=>X x st₂)) X st₁) X st
theorem zs0{o:Expr}{name:Str}{m:String}{apos pos:Pos}{e:Expr}{es:List Expr}{c:PE}{cs:PEs}{p:List (List Nat)->List D->PV}(H:zat S sh o c)(Hs:zb0 S sh (e::es) cs)(P:zyR S sh m p)
  (hsl:PySem.Slot "frozenset" name m)(hty:typeOf (.builtin m)=pure (.type "method_descriptor"))
  (hline:(apos.endLine==pos.line)=true)(hbase:∀env,attributeBase o name env (eval o env)=eval o env:=by intro;rfl)
  (hform:∀env,methodCallForm ((e::es).length+([]:List Keyword).length) (backTo pos (starEach (e::es) env)) (backToKw pos (keywordEach [] env))=true:=by intro;rfl)
  (hplain:∀env,(backTo pos (starEach (e::es) env)).any (·.1)=false:=by intro;rfl)
  (he:∀env,starEach (e::es) env=(false,eval e env)::starEach es env:=by intro;rfl):zat S sh (.Call (.Attribute o name apos) (e::es) [] pos) (zsr c cs p):=λa ow st s Q X f R q=>by
 simp only[arm_eval_Call,hbase];refine yk (yr (H a ow st s _ X f R q) (λov s₁ h=>yk (yT ?_)) λ_ _ x=>x);obtain⟨r,st₁,q,K,hr⟩:=h;refine za1 (Res.fset_inv q) λl hzz q=>?_;subst hzz;obtain⟨hr,_⟩:=hr;have R1:=R.step f K;obtain⟨b,d,rfl,ho,hb,Fs⟩:=hr.inv;unfold methodCall;rw[hform];refine yk (yE (getMethod_builtin (T:="frozenset") (zbO _ ho rfl) FZ.plainAttrs_frozenset hsl hty (λc e=>by cases e;exact(zbO _ ho rfl)) ?_));have hpos:methodCallPos true o a.env apos pos=Pure.pure pos:=by unfold methodCallPos;simp[hline]
 refine yk (wpAny_of_eq hpos ?_);show wpAny _ _ (callWith pos (.builtin m) [.ref b] (backTo pos (starEach (e::es) a.env)) []) _ _ _;refine Calls.callWith_builtin (hplain _) ?_;have hb':backTo pos (starEach (e::es) a.env)=(false,eval e a.env)::backTo pos (starEach es a.env):=by rw[he];rfl
 have hgo:=Hs pos a _ st₁ s₁ _ X f R1 q;rw[hb']at hgo⊢;refine Calls.evalArgs_plain (yr hgo (λvs s₂ h=>?_) λ_ _ x=>zaF K x);refine zfQ h λrs st₂ g1 g2 g3=>?_;have c2:=g3.cs;rw[zaq g2.frz]at c2;have KK:=K.trans g2;have hr2:=hr.goes (R1.goes f (P':=Pv a noX (restr (restr ow st₁) st₂)) g2.keep λb _ q=>q.restr);rw[zaq g2.frz]at hr2;exact yr (P a _ st₂ s₂ (.ref b) l vs _ _ _ f (R.step f KK) hr2 c2 g1) (λ_ _ x=>x.toE KK) λ_ _ x=>x.toE KK
theorem zwO{c:Nat}{l:List (List Nat)}:decide ((⟨#[c]⟩:Str)∈l.map mk)=decide ([c]∈l):=
 yS.mpr ⟨λh=>by
  obtain⟨x,hx,e⟩:=List.mem_map.mp h;exact zlG (a:=x) (b:=[c]) e▸hx,λh=>List.mem_map_of_mem (f:=mk) h⟩
noncomputable def zuO(calm:Bool):List (List Nat)->List D->PV
 |l,[.str x],Q,_=>calm=true∧Q (.pl (.bool (x.all λc=>decide ([c]∈l))))
 |_,_,_,_=>False
set_option tactic.hygienic true in
set_option tactic.hygienic true in
theorem zoJ:zyR S sh "frozenset.issuperset" (zuO sh.calm):=λa ow st s v l vs ds Q X f R hv h q=>by
 left;rcases ds with _|⟨d,_|⟨d2,ds⟩⟩
 ·exact q.elim
 ·cases d<;>first
   |exact q.elim
   |skip
  rename_i x
  obtain⟨w,rfl,h1⟩:=zel h;clear h;obtain⟨u,rfl⟩:=h1.str;refine zfQ (zdH.fset (.inl hv)) λb d hzz ho Fs=>?_;subst hzz;refine zpJ Fs (f.calm q.1).1 ho λh' tk hk=>?_;refine⟨_,q.2,⟨.refl _,.of_keeps hk,rfl,rfl⟩,?_,λz=>zaD z⟩;have e:((mk x).cps.toList.all λc=>decide ((⟨#[c]⟩:Str)∈l.map mk))=(x.all λc=>decide ([c]∈l)):=by
   rw[show(mk x).cps.toList=x from by simp[mk]];exact ya (λp=>x.all p) (funext λc=>zwO)
  exact e▸(.bool _)
 ·clear h
  cases d<;>exact q.elim
end
end
section
open Builtin
section
variable{S:St0}{sh:zai}
noncomputable def znm(S:St0)(sh:zai)(fv:Value)(p:List D->PV):Prop:=
 ∀(a:Act)(ow:Nat->Option Addr)(st:Sl)(s:Shared)(vs:List Value)(ds:List D)(Q:Res->Prop)(X:Err->Prop),a.Fits S sh->Rel S sh a noX ow st s->zlH S s.heap (Pv a noX ow) vs ds->p ds Q X ->
  wpAny (model S.prog S.w) a.A (call fv vs) (OkP S a ow st s Q) (zsB S a st s X) s
@[reducible]noncomputable def peN(cs:PEs)(p:List D->PV):PE:=λQ X st=>cs (λrs st₁=>p (rs.map Res.d) (λr'=>Q r' st₁) (λx=>X x st₁)) X st
theorem zq5(D0:Std S){x:Str}{id:String}{np pos:Pos}{e:Expr}{es:List Expr}{cs:PEs}{p:List D->PV}(hx:sh.scope.names.lookup x=some .globalImplicit)(hg:S.mg x=none)(hn:x≠"__name__")(hb:bootBuiltins x=some (.builtin id))(H:zb0 S sh (e::es) cs)(P:znm S sh (.builtin id) p)
  (hplain:∀env,(backTo pos (starEach (e::es) env)).any (·.1)=false:=by intro;rfl)(he:∀env,starEach (e::es) env=(false,eval e env)::starEach es env:=by intro;rfl)(hd:(x==("__debug__":Str))=false:=by decide):zat S sh (.Call (.Name x np) (e::es) [] pos) (peN cs p):=λa ow st s Q X f R q=>by
 show wpAny _ _ (do callWith pos (←eval (.Name x np) a.env) [] (backTo pos (starEach (e::es) a.env)) (backToKw pos (keywordEach [] a.env))) _ _ _;refine yk (zda f hx (D0.g.keeps (R.stays f)) (D0.b.keeps (R.stays f)) hg ((D0.blt x hn).trans hb) ?_ hd);refine Calls.callWith_builtin (hplain _) ?_;have hb':backTo pos (starEach (e::es) a.env)=(false,eval e a.env)::backTo pos (starEach es a.env):=by rw[he];rfl
 have hgo:=H pos a _ st s _ X f R q;rw[hb']at hgo⊢;refine Calls.evalArgs_plain (yr hgo (λvs s₂ h=>?_) λ_ _ x=>x);refine zfQ h λrs st₂ g1 K g3=>?_;rw[List.nil_append];exact yr (P a _ st₂ s₂ vs _ _ _ f (R.step f K) g3.cs g1) (λ_ _ x=>x.toE K) λ_ _ x=>x.toE K
theorem zgh(D0:Std S){x:Str}{id:String}{np pos:Pos}{e:Expr}{es:List Expr}{cs:PEs}{p:List D->PV}(hx:sh.scope.names.lookup x=some .globalImplicit)(hg:S.mg x=none)(hn:x≠"__name__")(hb:bootBuiltins x=some (.type id))(H:zb0 S sh (e::es) cs)(P:znm S sh (.type id) p)
  (hplain:∀env,(backTo pos (starEach (e::es) env)).any (·.1)=false:=by intro;rfl)(he:∀env,starEach (e::es) env=(false,eval e env)::starEach es env:=by intro;rfl)(hd:(x==("__debug__":Str))=false:=by decide):zat S sh (.Call (.Name x np) (e::es) [] pos) (peN cs p):=λa ow st s Q X f R q=>by
 show wpAny _ _ (do callWith pos (←eval (.Name x np) a.env) [] (backTo pos (starEach (e::es) a.env)) (backToKw pos (keywordEach [] a.env))) _ _ _;refine yk (zda f hx (D0.g.keeps (R.stays f)) (D0.b.keeps (R.stays f)) hg ((D0.blt x hn).trans hb) ?_ hd);refine PySem.callWith_type (hplain _) ?_;have hb':backTo pos (starEach (e::es) a.env)=(false,eval e a.env)::backTo pos (starEach es a.env):=by rw[he];rfl
 have hgo:=H pos a _ st s _ X f R q;rw[hb']at hgo⊢;refine Calls.evalArgs_plain (yr hgo (λvs s₂ h=>?_) λ_ _ x=>x);refine zfQ h λrs st₂ g1 K g3=>?_;rw[List.nil_append];exact yr (P a _ st₂ s₂ vs _ _ _ f (R.step f K) g3.cs g1) (λ_ _ x=>x.toE K) λ_ _ x=>x.toE K
variable{a:Act}{ow:Nat->Option Addr}{st:Sl}{s:Shared}
theorem ztN{d:D}{v:Value}{Q:Res->Prop}{h':Heap}{tk:Nat}(hk:∀b o,s.heap.get? b=some o->h'.get? b=some o)(x:zcj S h' (Pv a noX ow) v d)(q:Q (.pl d))(hd:d.isExc=false:=by rfl):OkP S a ow st s Q v {s with heap:=h',toks:=tk}:=
 ⟨_,q,⟨.refl _,.of_keeps hk,rfl,rfl⟩,x,λz=>by exact zaD (hd.symm.trans z)⟩
noncomputable def zzb(ds:List D)(Q:Res->Prop)(_:Err->Prop):Prop:=one cI ds λi=>0≤i∧i≤1114111∧Q (.pl (.str [i.toNat]))
theorem zkx:znm S sh (.builtin "chr") zzb:=λa ow st s vs ds Q X f R h q=>by
 refine za1 (ze2 q) λi e q=>?_;rw[e]at h;refine za1 (zel h) λv hzz h1=>?_;subst hzz;obtain⟨u,rfl⟩:=h1.int;exact chr_of_range q.1 q.2.1 (zcb R rfl q.2.2)
noncomputable def zjE(ds:List D)(Q:Res->Prop)(_:Err->Prop):Prop:=zwH cI cI ds (λn=>-1000000≤n∧n≤1000000∧Q (.pl (.rng ((List.range n.toNat).map λj:Nat=>.int (0+(j:Int)))))) λx y=>-1000000≤x∧x≤1000000∧-1000000≤y∧y≤1000000∧Q (.pl (.rng ((List.range (y-x).toNat).map λj:Nat=>.int (x+(j:Int)))))
theorem zjR{x y:Int}:((y-x).toNat:Int)=Builtin.Range.rangeSize x y 1:=by
 unfold Builtin.Range.rangeSize;rw[if_pos (by decide)]
 split<;>lia
theorem zmJ{x y:Int}(h1:-1000000≤x)(h2:x≤1000000)(h3:-1000000≤y)(h4:y≤1000000):Builtin.Range.small x y 1=true:=by
 have hs:=zjR (x:=x) (y:=y);unfold Builtin.Range.small Builtin.Range.rangeFitsLong;rw[←hs];simp;omega
theorem zgM:znm S sh (.type "range") zjE:=λa ow st s vs ds Q X f R h q=>by
 have hn:s.heap.get? s.heap.objs.size=none:=yP (yq _);have mk:∀(x y:Int)(t u v:Tok)(tk:Nat),-1000000≤x->x≤1000000->-1000000≤y->y≤1000000->Q (.pl (.rng ((List.range (y-x).toNat).map λj:Nat=>.int (x+(j:Int))))) ->
   OkP S a ow st s Q (.ref s.heap.objs.size) {s with heap:=s.heap.push {cls:=.type "range",data:=.fields #[.int x t,.int y u,.int 1 v]},toks:=tk}:=λx y t u v tk h1 h2 h3 h4 q=>
  ztN (λb o e=>yB _ e) (.rng (yF _ rfl) (R.fresh0 f hn) zjR (zmJ h1 h2 h3 h4) (zln _ _).symm) q
 left;rcases zmj q with⟨n,e,q1,q2,q⟩|⟨i,j,e,q1,q2,q3,q4,q⟩<;>rw[e]at h
 ·refine za1 (zel h) λv hzz h1=>?_
  subst hzz;clear h;refine zfh h1.int λu hzz=>?_;subst hzz;refine call_range_1 (mk 0 n _ _ _ _ (by decide) (by decide) q1 q2 ?_);rw[Int.sub_zero];exact q
 ·refine zfQ (zn1 h) λv w hzz h1 h2=>?_
  subst hzz;clear h;refine zfh h1.int λu hzz=>?_;subst hzz;refine zfh h2.int λu' hzz=>?_;subst hzz;exact call_range_2 (mk i j _ _ _ _ q1 q2 q3 q4 q)
noncomputable def zAe(d₁ d₂:D)(Q:Res->Prop)(_:Err->Prop):Prop:=zw8 d₁ d₂ λx y=>2≤x∧0≤y∧x≤1000000000∧y≤10000∧Q (.pl (.int (x^y.toNat)))
theorem zwS{x y:Int}(h1:2≤x)(h2:0≤y)(h3:x≤1000000000)(h4:y≤10000):(Builtin.Int.intBits x:Int)*y≤300000:=by
 have hb:Builtin.Int.intBits x≤30:=by
  unfold Builtin.Int.intBits
  split
  ·decide
  ·have:x.natAbs.log2<30:=(Nat.log2_lt (by omega)).mpr (by omega)
   lia
 exact Int.mul_le_mul (yR.mpr hb) h4 h2 (by decide)
theorem ztV:zcK S sh (binaryOp .Pow) zAe:=λa ow st s v1a v2a d₁ d₂ Q X f R h1 h2 q=>by
 left;obtain⟨x,y,e1,e2,q1,q2,q3,q4,q⟩:=zdi q;rw[e1]at h1;rw[e2]at h2;refine zfh h1.int λt hzz=>?_;subst hzz;refine zfh h2.int λu hzz=>?_;subst hzz;have hp:=zwS q1 q2 q3 q4;clear h1 h2 e1 e2;clear q4;by_cases hy:y=0
 ·subst hy
  exact AutoIntOps.pow_0 (by clear hp R;omega) rfl (zbG R (by simpa using q))
 ·refine AutoIntOps.pow_4 q2 (by simpa using hy) (by clear hp R q;simp;lia) (by clear hp R q;simp;lia) ?_ (zbG R q)
  have h3:(300000:Int)≤bitsLine:=by right
  unfold Builtin.Int.intTooBig;rw[decide_eq_true_eq];exact yZ.mpr (Int.le_trans hp h3)
end
end
section
open Builtin
section
variable{S:St0}{sh:zai}{a:Act}{ow:Nat->Option Addr}{st:Sl}{s:Shared}
theorem zke{o:Obj}{c:Value}{d:Data}(hc:o.cls=c)(hd:o.data=d):o={cls:=c,dict:=o.dict,data:=d,slots:=o.slots}:=by
 cases o;simp only at hc hd;subst hc hd;rfl
noncomputable def zdb:D->D->PV
 |.lst x,.lst y,Q,_=>x.length+y.length≤LIM∧Q (.fr (x++y))
 |.tup x,.tup y,Q,_=>x.length+y.length≤LIM∧Q (.pl (.tup (x++y)))
 |d,e,Q,X=>zye d e Q X
theorem zrn(f:a.Fits S sh)(R:Rel S sh a noX ow st s){v1a v2a:Value}{x y:List D}{Q:Res->Prop}(h1:zdH S s.heap (Pv a noX ow) v1a (.tup x))(h2:zdH S s.heap (Pv a noX ow) v2a (.tup y))(hl:x.length+y.length≤LIM)(q:Q (.pl (.tup (x++y)))){E:Value->Shared->Prop} :
  wpAny (model S.prog S.w) a.A (call (.builtin "tuple.__add__") [v1a,v2a]) (OkP S a ow st s Q) E s:=by
 left;obtain⟨b,o,vs,n,rfl,g1,g2,g3,g4⟩:=h1.tup;obtain⟨b',o',ws,n',rfl,k1,k2,k3,k4⟩:=h2.tup;have ho:=zke g2 g3;have ho':=zke k2 k3;clear h2;rw[ho]at g1;clear h1;rw[ho']at k1;have e1:vs.size=x.length:=by rw[←g4.length];simp
 have e2:ws.size=y.length:=by rw[←k4.length];simp
 left;by_cases hv:vs.isEmpty=true
 ·refine call_meets PySem.F.slot_tuple_add (zbO _ g1 rfl) PySem.F.entry_tuple_add (PySem.F.args_tuple_add_2 _ _) (tuple_addW0 b b' vs ws n n' _ _ _ _ hv) ⟨g1,k1,?_⟩
  have hx:x=[]:=yJ (e1.symm.trans (yC hv));subst hx;exact okP (tk:=s.toks) R (.tup k1 rfl rfl k4) q
 ·by_cases hw:ws.isEmpty=true
  ·refine call_meets PySem.F.slot_tuple_add ⟨_,g1,rfl⟩ PySem.F.entry_tuple_add (PySem.F.args_tuple_add_2 _ _) (tuple_addW1 b b' vs ws n n' _ _ _ _ hv hw) ⟨g1,k1,?_⟩
   have hy:y=[]:=yJ (e2.symm.trans (yC hw));clear e2 k4 hl;subst hy;rw[List.append_nil]at q;exact okP (tk:=s.toks) R (.tup g1 rfl rfl g4) q
  ·refine call_meets PySem.F.slot_tuple_add ⟨_,g1,rfl⟩ PySem.F.entry_tuple_add (PySem.F.args_tuple_add_2 _ _) (tuple_addW2 b b' vs ws n n' _ _ _ _ hv hw (by rw[e1,e2];exact zdP hl)) ⟨g1,k1,?_⟩
   have hk:∀b o,s.heap.get? b=some o->(s.heap.push {cls:=.type "tuple",data:=.seq (vs++ws)}).get? b=some o:=λb o e=>yB _ e;refine⟨_,q,⟨.refl _,.of_keeps hk,rfl,rfl⟩,.tup (yF _ rfl) rfl rfl ?_,λz=>zaD z⟩;rw[Array.toList_append];exact zaO.append (k4.goes (R.goes f (.of_keeps hk) λ_ _ q=>q)) (g4.goes (R.goes f (.of_keeps hk) λ_ _ q=>q))
theorem zga{h:Heap}{P:Addr->Prop}{v:Value}{x:List D}{s:Shared}(hs:s.heap=h)(h1:zdH S h P v (.tup x)):s.TypeIs v "tuple":=by
 obtain⟨b,o,vs,n,rfl,g1,g2,g3,g4⟩:=h1.tup;exact zbO o (hs▸g1) g2
set_option tactic.hygienic true in
theorem zal:zcK S sh (binaryOp .Add) zdb:=λa ow st s v1a v2a d₁ d₂ Q X f R h1 h2 q=>by
 cases d₁<;>first
  |exact ztq a ow st s v1a v2a _ _ Q X f R h1 h2 q
  |skip
 case tup x=>
  cases d₂<;>first
   |exact q.elim
   |skip
  exact wpAny_binaryOp_concat (zga rfl h1) (zga rfl h2) noFill_tuple_add seq_tuple_add (zrn f R h1 h2 q.1 q.2)
 case lst x=>
  cases d₂<;>first
   |exact q.elim
   |skip
  rename_i y
  refine zbP q λhl q=>?_;left;obtain⟨b,o,vs,n,rfl,g1,g2,g3,g4⟩:=h1.lst;obtain⟨b',o',ws,n',rfl,k1,k2,k3,k4⟩:=h2.lst;have ho:=zke g2 g3;have ho':=zke k2 k3;rw[ho]at g1;rw[ho']at k1;have e1:vs.size=x.length:=by rw[←g4.length];simp
  have e2:ws.size=y.length:=by rw[←k4.length];simp
  refine concat_meets (zbO _ g1 rfl) (zbO _ k1 rfl) noFill_list_add seq_list_add PySem.F.slot_list_add PySem.F.entry_list_add (PySem.F.args_list_add_2 _ _) (list_addW b b' vs ws n n' _ _ _ _ (by rw[e1,e2];exact zdP hl)) ⟨g1,k1,?_⟩;have hk:∀b o,s.heap.get? b=some o->(s.heap.push {cls:=.type "list",data:=.seq (vs++ws)}).get? b=some o:=λb o e=>yB _ e;have hn:s.heap.get? s.heap.objs.size=none:=yP (yq _);have G:zfi S s.heap (s.heap.push {cls:=.type "list",data:=.seq (vs++ws)}) (Pv a noX ow) (Pv a (λc=>c=s.heap.objs.size) ow):=ze3 λb hb q=>by
   rcases q with q|q|q|q
   ·exact .inl q
   ·exact .inr (.inl q)
   ·rw[q,hn]at hb;exact zaD hb
   ·exact .inr (.inr (.inr q))
  refine⟨_,q,⟨.refl _,.of_keeps hk,rfl,rfl⟩,_,_,_,_,rfl,hn,yF _ rfl,rfl,rfl,?_,rfl⟩;rw[Array.toList_append];exact zaO.append (k4.goes G) (g4.goes G)
noncomputable def zdB:D->D->PV
 |.tup x,.tup y,Q,_=>x.length+y.length≤LIM∧Q (.pl (.tup (x++y)))
 |d,e,Q,X=>zye d e Q X
theorem zlb:typeLookup (.type "tuple") (dunderI "add")=pure none:=by rw[typeLookup_type,builtinLookup_eq_fast];kernel_rfl
set_option tactic.hygienic true in
theorem zaM:zcK S sh (inplaceOp .Add) zdB:=λa ow st s v1a v2a d₁ d₂ Q X f R h1 h2 q=>by
 cases d₁<;>first
  |exact zrx a ow st s v1a v2a _ _ Q X f R h1 h2 q
  |skip
 case tup x=>
  cases d₂<;>first
   |exact q.elim
   |skip
  exact wpAny_inplaceOp_concat (zga rfl h1) (zga rfl h2) zlb noFill_tuple_add seq_tuple_add (zrn f R h1 h2 q.1 q.2)
noncomputable def zxk(x:List Nat)(n:Int):List Nat:=(List.replicate n.toNat x).flatten
noncomputable def zxh(d e:D)(Q:Res->Prop)(_:Err->Prop):Prop:=oM d.str? λx=>oM e.int? λn=>n≤1000000∧-1000000≤n∧x.length*n.toNat≤LIM∧Q (.pl (.str (zxk x n)))
theorem zqI(x:List Nat):∀(n:Nat)(acc:Array Nat),(List.replicate n (mk x).cps).foldl (·++·) acc=acc++((List.replicate n x).flatten).toArray
 |0,acc=>rfl
 |n+1,acc=>by
  rw[List.replicate_succ,List.foldl_cons,zqI x n,List.replicate_succ,List.flatten_cons];simp[mk]
set_option tactic.hygienic true in
theorem zwX(x:List Nat)(n:Int):Txt.mul (mk x) n=mk (zxk x n):=by
 unfold Txt.mul zxk;by_cases h1:n<1
 ·rw[if_pos h1,show n.toNat=0 by lia];rfl
 ·rw[if_neg h1]
  split
  ·rename_i h
   clear h1;rw[zaG,Bool.or_eq_true]at h;rcases h with h|h
   ·have:n=1:=by exact yC h
    clear h;subst this;simp
   ·have:x=[]:=yJ (by exact yC h)
    clear h;subst this;rw[show(List.replicate n.toNat ([]:List Nat)).flatten=[]from by simp]
  ·rw[zqI];simp[mk]
theorem zw6{x:List Nat}{n:Int}(q1:n≤1000000)(q3:x.length*n.toNat≤LIM)(h1:0<n):(x.length:Int)≤(2^63-1)/n:=by
 refine Int.le_ediv_of_mul_le h1 ?_;obtain⟨m,rfl⟩:=Int.eq_ofNat_of_zero_le (Int.le_of_lt h1);have h5:x.length*m≤1000000:=q3;exact Int.le_trans (yR.mpr h5) (by decide)
theorem zqZ{n:Int}(q1:n≤1000000)(q2:-1000000≤n):(decide (n < -(2^63:Int))||decide (n ≥ 2^63))=false:=by
 rw[decide_eq_false (Int.not_lt.mpr (Int.le_trans (by decide) q2)),decide_eq_false (Int.not_le.mpr (Int.lt_of_le_of_lt q1 (by decide)))];rfl
theorem zlj:zcK S sh (binaryOp .Mult) zxh:=λa ow st s v1a v2a d₁ d₂ Q X f R h1 h2 q=>by
 refine za1 (oM_inv q) λx e1 q=>?_;refine zAt (oM_inv q) λn e2 q1 q2 q3 q=>?_;rw[D.str?_inv e1]at h1;rw[D.int?_inv e2]at h2;obtain⟨t,rfl⟩:=h1.str;obtain⟨u,rfl⟩:=h2.int;refine SB.mul ⟨zqZ q1 q2,λh1 h2 h3=>?_,λh1 h2=>?_⟩ λt' k=>zcb R (zwX x n) q
 ·rw[zaG]at h3
  exact absurd h3 (yZ.mpr (zw6 q1 q3 (Int.lt_of_lt_of_le (by decide:(0:Int)<1) (yZ.mp h1))))
 ·rw[zaG]
  unfold Builtin.Str.tooLong;exact yv (yg.mpr (zdP q3))
@[reducible]noncomputable def zmS(c₁ c₂ c3:PE)(p1 p2:D->D->PV):PE:=λQ X st=>c₁ (λr1 st₁=>c₂ (λr2 st₂=>p1 r1.d r2.d (λr=>r.oM D.bool? λb=>ifB b (c3 (λr3 st3=>p2 r2.d r3.d (λr'=>Q r' st3) (λx=>X x st3)) X st₂) (Q (.pl (.bool false)) st₂)) (λx=>X x st₂)) X st₁) X st
theorem znX{l m r:Expr}{o1 o2 pos}{c₁ c₂ c3a:PE}{p1 p2:D->D->PV}(H1a:zat S sh l c₁)(H2:zat S sh m c₂)(H3:zat S sh r c3a)(P1:zcK S sh (compareOp o1) p1)(P2:zcK S sh (compareOp o2) p2)(hm:lastMarks [o1,o2] [m,r]=false:=by with_unfolding_all rfl) :
  zat S sh (.Compare l [o1,o2] [m,r] pos) (zmS c₁ c₂ c3a p1 p2):=λa ow st s Q X f R q=>by
 refine Compare_chain (yr (H1a a ow st s _ X f R q) (λv1a s₁ h=>?_) λ_ _ x=>x) hm;left;obtain⟨r1,st₁,h1,h2,h3⟩:=h;have R1:=R.step f h2;refine chain_link (yr (H2 a _ st₁ s₁ _ X f R1 h1) (λv2a s₂ h=>?_) λ_ _ x=>zaF h2 x);left;obtain⟨r2,st₂,g1,g2,g3⟩:=h;have K:=h2.trans g2;have R2:=R.step f K;have c1:=h3.c.step f R1 g2;have c2:=g3.c;rw[zaq g2.frz]at c1 c2;refine yr (P1 a _ st₂ s₂ _ _ r1.d r2.d _ _ f R2 c1 c2 g1) (λv3 s3a h=>?_) λ_ _ x=>x.toE K;refine zcN h λr hq K3 hr=>?_;refine za1 (Res.bool_inv hq) λb hzz hq=>?_;subst hzz;obtain⟨hr,_⟩:=hr;have KK:=K.trans K3;obtain rfl:=hr.inv;refine wpAny_truthy_bool ?_;clear hr
 induction b with
 |false=>exact⟨_,st₂,(zht hq),KK,.bool _,λz=>zaD z⟩
 |true=>
  show wpAny _ _ _ _ _ _;have R3:=R.step f KK;refine chain_last (yr (H3 a _ st₂ s3a _ X f R3 (zhm hq)) (λv4a s4a h=>?_) λ_ _ x=>zaF KK x);left;obtain⟨r3,st3,k1,k2,k3⟩:=h;have KKK:=KK.trans k2;have c2':=(c2.step f R2 K3);rw[zaq (Frz.refl st₂)]at c2';have c2'':=c2'.step f R3 k2;have c3:=k3.c;rw[zaq k2.frz]at c2'' c3;exact yr (P2 a _ st3 s4a _ _ r2.d r3.d _ _ f (R.step f KKK) c2'' c3 k1) (λ_ _ x=>x.toE KKK) λ_ _ x=>x.toE KKK
end
end
end Mine.Internal
end
section
open PySem PySem.W PySem.Calls PyProof.Rows
set_option tactic.hygienic false
set_option genInjectivity false
set_option genSizeOfSpec false
set_option maxRecDepth 100000
open Builtin NumText
namespace Mine.Internal
section
noncomputable def zd9(c:Nat):Nat:=(NumText.digit? c).getD 0
noncomputable def zbr(c:Nat):Bool:=(48≤c&&c≤57)||(97≤c&&c≤102)||(65≤c&&c≤70)
noncomputable def zbI(l:List Nat):Nat:=l.foldl (λacc c=>acc*16+zd9 c) 0
theorem zvc{c:Nat}(h:zbr c=true):c<128:=by
 rcases Nat.lt_or_ge c 128 with q|q
 ·exact q
 ·have hn:∀n,n<128->decide (c≤n)=false:=λn hn=>yv λz=>yg.mpr q (yU z hn)
  have:zbr c=false:=by
   unfold zbr;simp only[hn 57 (by decide),hn 102 (by decide),hn 70 (by decide)];simp only[Bool.and_false,Bool.or_false]
  exact zaD (this.symm.trans h)
theorem zeS{c:Nat}(h:zbr c=true):(c==95)=false∧NumText.blank c=false∧(c==120||c==88)=false∧c≠43∧c≠45∧48≤c∧c<128:=by
 have:∀c:Fin 128,zbr c.1=true->(c.1==95)=false∧NumText.blank c.1=false∧(c.1==120||c.1==88)=false∧c.1≠43∧c.1≠45∧48≤c.1∧c.1<128:=by right
 exact this ⟨c,zvc h⟩ h
theorem zmU{c:Nat}(h:zbr c=true):NumText.digit? c=some (zd9 c)∧zd9 c<16:=by
 have:∀c:Fin 128,zbr c.1=true->NumText.digit? c.1=some (zd9 c.1)∧zd9 c.1<16:=by right
 exact this ⟨c,zvc h⟩ h
theorem zlV:∀(l:List Nat)(ds:Array Nat)(b:Bool),l.all zbr=true->l.foldlM (NumText.step 16) (ds,b)=some (ds++(l.map zd9).toArray,if l=[]then b else true)
 |[],ds,b,_=>rfl
 |c::l,ds,b,h=>by
  simp only[List.all_cons,Bool.and_eq_true]at h;refine zbP (zmU h.1) λe hd=>?_;rw[List.foldlM_cons];have h95:(c==95)=false:=(zeS h.1).1;have hs:NumText.step 16 (ds,b) c=some (ds.push (zd9 c),true):=by
   unfold NumText.step;rw[h95];simp only[Bool.false_eq_true,if_false];rw[e];dsimp only;rw[if_pos hd]
  rw[hs];refine(zlV l _ true h.2).trans ?_;simp
set_option tactic.hygienic true in
theorem zti{l:List Nat}(hl:l.all zbr=true)(hne:l≠[]):(int_private% "readNumeral") 0 16 l=(int_private% "Numeral.value") (zbI l:Int):=by
 refine(readNumeral_eq 0 16 l).trans ?_;have hx:∀c∈l,zbr c=true:=yK.mp hl;have nb:∀c,zbr c=true->NumText.blank c=false:=λc h=>by
  exact(zeS h).2.1
 have d0:l.dropWhile NumText.blank=l:=by
  clear hl
  induction l with
  |nil=>rfl
  |cons c r=>rw[List.dropWhile_cons,nb c (hx c List.mem_cons_self)];rfl
 have s0:NumText.sign l=(false,l):=by
  clear d0 hl
  induction l with
  |nil=>rfl
  |cons c r=>
   have h:=zeS (hx c yp);unfold NumText.sign
   split
   ·rename_i e;injection e with e1 e2;first|exact absurd e1 h.2.2.2.1|exact absurd e1 h.2.2.2.2.1
   ·rename_i e;injection e with e1 e2;first|exact absurd e1 h.2.2.2.1|exact absurd e1 h.2.2.2.2.1
   ·rfl
 have b0:NumText.based 16 l=(16,false,l):=by
  unfold NumText.based
  split
  ·rename_i p hp
   have hp16:p≠16:=by
    unfold NumText.prefix? at hp
    split at hp
    ·rename_i c r
     have:(c==120||c==88)=false:=(zeS (hx c (by simp))).2.2.1;rw[this]at hp;simp only[Bool.false_eq_true,if_false]at hp
     split at hp
     ·left
      obtain rfl:=yi hp;decide
     ·split at hp
      ·obtain rfl:=yi hp;decide
      ·exact zad hp
    ·exact zad hp
   have:((16:Nat)==0||(16:Nat)==p)=false:=by rw[beq_false_of_ne (Ne.symm hp16)];rfl
   rw[this];rfl
  ·rfl
 have r0:(l.reverse.dropWhile NumText.blank).reverse=l:=by
  have:l.reverse.dropWhile NumText.blank=l.reverse:=by
   cases hr:l.reverse with
   |nil=>rfl
   |cons c r=>
    have hc:c∈l:=by rw[←List.mem_reverse,hr];exact yp
    rw[List.dropWhile_cons,nb c (hx c hc)];rfl
  rw[this,List.reverse_reverse]
 have g0:NumText.digits? 16 l=some (l.map zd9).toArray:=by
  unfold NumText.digits?;rw[zlV l #[] false hl];simp[hne]
 rw[d0,s0];dsimp only;rw[b0];dsimp only;rw[r0,g0];have e1:(![2,4,8,16,32].contains 16&&(0:Nat) != 0&&decide ((l.map zd9).toArray.size > 0))=false:=by rfl
 have e2:((16:Nat)==10&&decide ((l.map zd9).toArray.size > 6000))=false:=by rfl
 have e3:(l.map zd9).toArray.foldl (λacc d=>acc*16+d) 0=zbI l:=by
  unfold zbI;rw[List.foldl_toArray,List.foldl_map]
 unfold NumText.judge;dsimp only;refine(if_neg (by rw[e1];exact yA)).trans ((if_neg (by rw[e2];exact yA)).trans ?_);rw[e3];rfl
end
namespace HX
theorem zq1{M:Model}{A:Around}{E:Value->Shared->Prop}{s:Shared}{Q:Value->Shared->Prop}{v:Value}{text:List Nat}{n:Int}
  (hs:(text.takeWhile (· != 0)).length≤640)(hr:(int_private% "readNumeral") 0 16 (text.takeWhile (· != 0))=(int_private% "Numeral.value") n)
  (ha:((text.takeWhile (· != 0)).length==text.length)=true)(h:Q (.int n s.toks) {s with toks:=s.toks+1}) :
  wpAny M A ((int_private% "intFromText") v text 16) Q E s:=by
 obtain⟨hp,g,d,tk,os⟩:=s
 repeat (any_goals (first
  |assumption
  |(with_reducible refine wpAny_ite_true (yt hs) ?_)
  |(with_reducible refine wpAny_ite_true (yt ha) ?_)
  |wp_step))
 all_goals (try rw[hr])
 all_goals (try dsimp only)
 repeat (any_goals (first
  |assumption
  |(with_reducible refine wpAny_ite_true (yt hs) ?_)
  |(with_reducible refine wpAny_ite_true (yt ha) ?_)
  |wp_step))
structure Hid(p:Prop):Prop where
 out:p
set_option maxHeartbeats 4000000 in
theorem gives_text16{x:PySem.Str}{u v:Tok}{n:Int}(hs:(numSeenOf x).length≤640)(hr:(int_private% "readNumeral") 0 16 (numSeenOf x)=(int_private% "Numeral.value") n)(ha:((numSeenOf x).length==(numTextOf x).length)=true):Gives (Builtin.«int.__new__» ⟨[.type "int",.str x u,.int 16 v],[]⟩) (.int n):=
 .of_wp λM A E s Q h=>by
  obtain⟨hp,g,d,tk,os⟩:=s;have f1:=F.conv_sub_int;have f2:=F.madeHere_int;have f3:=W.KIN.str_int;have f4:=W.KIN.str_idx;have f5:=W.KIN.str_trunc;have f6:typeOf (.str x u)=pure (.type "str"):=rfl;have hk:=Hid.mk (yl hs (yl hr ha));clear hs hr ha
  repeat (any_goals (first
   |assumption
   |((with_reducible show wpAny _ _ ((int_private% "intFromText") _ _ _) _ _ _);refine zq1 hk.out.1 hk.out.2.1 hk.out.2.2 ?_)
   |wp_step))
  all_goals first|exact(zbO _ rfl h)|skip
theorem zi3(a b:Value):checkTypeCall "int" ⟨[a,b],[]⟩=pure ():=by kernel_rfl
theorem zj9(a b:Value):checkBuiltinCall "int.__new__" ⟨[.type "int",a,b],[]⟩=pure ():=by kernel_rfl
theorem zmM(o a b:Value):argsOk "object.__init__" ⟨[o,a,b],[]⟩:=by kernel_rfl
theorem call_int_2{prog:Program}{w:World}{A:Around}{E:Value->Shared->Prop}{s:Shared}{x y:Value}{S:PySem.Spec}{Q:Value->Shared->Prop}(g:Meets (Builtin.«int.__new__» ⟨[.type "int",x,y],[]⟩) S)(h:S A.in1 (wants (λobj s₁=>s₁.TypeIs obj "int"∧Q obj s₁) E) s) :
  wpAny (model prog w) A (call (.type "int") [x,y]) Q E s:=
 callType_new F.called_int F.newNe_int (zi3 x y) (zj9 x y) (λobj=>zmM obj x y) F.entry_int_new g h
end HX
theorem ztF{l:List Nat}(h:l.all zbr=true):numTextOf (mk l)=l∧numSeenOf (mk l)=l:=by
 have hx:∀c∈l,48≤c∧c<128:=λc hc=>(zeS (yK.mp h c hc)).2.2.2.2.2;have e1:numTextOf (mk l)=l:=by
  unfold numTextOf;rw[if_pos (by simp only[mk];simp;intro c hc;exact(hx c hc).2)];simp[mk]
 refine⟨e1,?_⟩;unfold numSeenOf;rw[e1];have tw:∀l:List Nat,(∀c∈l,c≠0)->l.takeWhile (· != 0)=l:=λl=>by
  induction l with
  |nil=>intro _;rfl
  |cons c r ih=>intro h;rw[List.takeWhile_cons,if_pos (by simpa using h c List.mem_cons_self),ih λd hd=>h d (List.mem_cons_of_mem _ hd)]
 exact tw l λc hc=>Nat.ne_of_gt (yy (by decide) (hx c hc).1)
section
variable{S:St0}{sh:zai}
noncomputable def zxK(d:D)(Q:Res->Prop):Prop:=match d with
 |.int n=>Q (.pl (.int n))
 |.str x=>x.length≤640∧∃n,PySem.intText? (mk x)=some n∧Q (.pl (.int n))
 |_=>False
noncomputable def intD(ds:List D)(Q:Res->Prop)(_:Err->Prop):Prop:=match ds with
 |[]=>False
 |d::ds=>match ds with
  |[]=>zxK d Q
  |e::ds=>Mine.Internal.zxj ds (Mine.Internal.oM d.str? λx=>Mine.Internal.oM e.int? λb=>b=16∧x≠[]∧x.all zbr=true∧x.length≤640∧Q (.pl (.int (zbI x))))
theorem zop:znm S sh (.type "int") intD:=λa ow st s vs ds Q X f R h q=>by
 cases ds with
 |nil=>exact q.elim
 |cons d ds=>
  cases ds with
  |nil=>
   left;refine za1 (zel h) λv hzz h1=>?_;subst hzz;clear h;cases d with
   |int n=>
    obtain⟨u,rfl⟩:=h1.int;exact call_int_int (zbG (tk:=s.toks) R q)
   |str x=>
    obtain⟨u,rfl⟩:=h1.str;obtain⟨hl,n,hn,q⟩:=q;exact W.KIN.call_text hn (by rw[zaG];exact hl) (zbG R q)
   |_=>exact q.elim
  |cons e ds=>
   obtain⟨e1,q⟩:=zhM q;left;refine za1 (oM_inv q) λx e2 q=>?_;refine zAU (oM_inv q) λb e3 hb hne hx hl q=>?_;simp only[e1,D.str?_inv e2,D.int?_inv e3,hb]at h;refine zfQ (zn1 h) λv w hzz h1 h2=>?_;subst hzz;clear h;obtain⟨u,rfl⟩:=h1.str;obtain⟨u',rfl⟩:=h2.int;refine zbP (ztF hx) λe1 e2=>?_;exact HX.call_int_2 (HX.gives_text16 (n:=zbI x) (e2.symm▸hl) (by rw[e2];exact zti hx hne) (by rw[e1,e2];simp)).meets (show(Made.int (zbI x)).post _ s from⟨rfl,zbG R q⟩)
end
end Mine.Internal
end
section
open PySem PySem.W PySem.Calls PyProof.Rows
set_option tactic.hygienic false
set_option genInjectivity false
set_option genSizeOfSpec false
set_option maxRecDepth 100000
namespace Mine.Internal
section
variable{S:St0}{sh:zai}
@[reducible]noncomputable def zvq(c:PE):PE:=λQ X st=>c (λr st₁=>r.oM D.str? λm=>Q (.pl (.exc .toml m)) st₁) X st
theorem zww(D0:Std S){np pos:Pos}{e:Expr}{c:PE}(hx:sh.scope.names.lookup (ofString "TOMLDecodeError")=some .globalImplicit)(H:zat S sh e c)
  (hs:∀env,backTo pos (starEach [e] env)=[(false,eval e env)]:=by intro;rfl):zat S sh (.Call (.Name "TOMLDecodeError" np) [e] [] pos) (zvq c):=λa ow st s Q X f R q=>by
 refine zfh D0.own λC O=>?_;have k:=R.stays f;show wpAny _ _ (do callWith pos (←eval (.Name "TOMLDecodeError" np) a.env) [] (backTo pos (starEach [e] a.env)) (backToKw pos (keywordEach [] a.env))) _ _ _;refine yk (zex f hx (D0.g.keeps k) O.bound ?_);rw[hs];show wpAny _ _ (callWith pos (.ref C) [] [(false,eval e a.env)] []) _ _ _;unfold callWith;refine yk (yE (Calls.evalArgs_plain (Calls.spliced_cons (yr (H a ow st s _ X f R q) (λv s₁ h1=>Calls.spliced_nil (yk (yT ?_))) λ_ _ x=>x))));left;obtain⟨r,st₁,hq,K,hr⟩:=h1;refine za1 (Res.str_inv hq) λm hzz hq=>?_;subst hzz;obtain⟨hr,_⟩:=hr;have R1:=R.step f K;obtain⟨zz,hC,hN,hqn,OT⟩:=zf2 (O.keeps (R1.stays f));have hcls:S.cls .toml=.ref C:=St0.cls_toml O.bound;refine zfh hr.inv λt hzz=>?_;subst hzz;clear hr;obtain⟨hp,g,dr,tk,os⟩:=s₁;refine yk (wpAny_keeperOf_exc hC ?_);refine yk (wpAny_call_exc_subT F.excBase_ValueError OT.tail hC hN (hqn _ (.head _)) (λh' e' hm=>yk (yE (wpAny_point (yn ?_)))) (by show 1≤sizeLine;decide));refine zcN hm.there λt' z1 z2 z3=>?_;have hn:=hm.new;refine⟨.pl (.exc .toml m),st₁,hq,K.trans ⟨.refl _,.of_keeps hm.keeps,rfl,rfl⟩,.exc (hcls▸z1) ?_ z3 rfl ⟨0,rfl⟩,λ_=>(zbO e' rfl (K.keep.new hn))⟩;exact λp=>R1.fresh0 f hn p
end
end Mine.Internal
end
section
open PySem PySem.W PySem.Calls PyProof.Rows
set_option tactic.hygienic false
set_option maxRecDepth 100000
namespace Mine.Internal
namespace MPX
theorem slot_getitem:PySem.Slot "mappingproxy" "__getitem__" "mappingproxy.__getitem__":=
 PySem.Slot.of (owner:="mappingproxy") (n:="__getitem__") (by rw[typeLookup_type,builtinLookup_eq_fast];kernel_rfl) (by right) (by right) (by right)
  (by first|exact .inl (by right)|exact .inr (by right)) (by rw[isSubtype_type];kernel_rfl)
theorem entry_getitem:entryFor table "mappingproxy.__getitem__"=some Builtin.«mappingproxy.__getitem__»:=entryFor_of_tree (by kernel_rfl)
theorem args_getitem(a b:Value):argsOk "mappingproxy.__getitem__" ⟨[a,b],[]⟩:=by unfold argsOk;kernel_rfl
end MPX
noncomputable def lkp(l:List (List Nat×List Nat))(k:List Nat):Option (List Nat):=match l with
 |[]=>none
 |p::r=>if p.1=k then some p.2 else lkp r k
theorem zhc{k v:List Nat}:∀{l:List (List Nat×List Nat)},lkp l k=some v->(k,v)∈l
 |[],h=>zad h
 |p::r,h=>by
  by_cases e:p.1=k
  ·have h:(if p.1=k then some p.2 else lkp r k)=some v:=h
   rw[if_pos e]at h;obtain rfl:=yi h;exact e▸yp
  ·have h:(if p.1=k then some p.2 else lkp r k)=some v:=h
   rw[if_neg e]at h;exact ym _ (zhc h)
noncomputable def zji(k:List Nat):Option (List Nat):=lkp zcY k
inductive zAM(S:St0)(M D:Addr)(oM:Obj)(vs:Array Value)(f:Str->Option Value):Prop
 |mk (qa:S.mg "BASIC_STR_ESCAPE_REPLACEMENTS"=some (.ref M)) (qb:S.base.get? M=some oM) (qc:oM.cls=.type "mappingproxy") (qd:oM.data=.fields vs) (qe:vs[0]?=some (.ref D)) (qf:(D==sysModules)=false) (qg:S.base.MapOf (PySem.strKind S.prog S.w) D f) (qh:∀k v,zji k=some v->∃t,f (mk k)=some (.str (mk v) t)) (qi:∀k,zji k=none->f (mk k)=none)
noncomputable def zaw(S:St0):Prop:=∃M D oM vs f,zAM S M D oM vs f
section
variable{S:St0}{sh:zai}
@[irreducible]noncomputable def ztj{α:Type}(o:Option α)(P:α->Prop)(N:Prop):Prop:=match o with
 |some v=>P v
 |none=>N
theorem zun{α:Type}{o:Option α}{P:α->Prop}{N:Prop}{v:α}(e:o=some v)(k:P v):ztj o P N:=by subst e;unfold ztj;exact k
theorem zsG{α:Type}{o:Option α}{P:α->Prop}{N:Prop}(e:o=none)(k:N):ztj o P N:=by subst e;unfold ztj;exact k
theorem zqo{α:Type}{P:α->Prop}{N:Prop}{v:α}(h:ztj (some v) P N):P v:=by unfold ztj at h;exact h
theorem zpW{α:Type}{P:α->Prop}{N:Prop}(h:ztj none P N):N:=by unfold ztj at h;exact h
@[reducible]noncomputable def zwu(calm:Bool)(c:PE):PE:=λQ X st=>c (λr st₁=>r.oM D.str? λk=>ztj (zji k) (λv=>Q (.pl (.str v)) st₁) (calm=true∧∀m,X (.key,m) st₁)) X st
theorem MapOf.stays{prog:Program}{w:World}{K:Type}[DecidableEq K]{knd:PySem.KeyKind prog w K}{h h':Heap}{d:Addr}{f:K->Option Value}(m:h.MapOf knd d f)(k:h.StaysIn h'):h'.MapOf knd d f:=by
 refine zAm m λo es ep h1 h2=>?_;exact zu2 o es ep (k _ _ h1) h2
theorem zxJ(D0:Std S)(E0:zaw S){p pos:Pos}{e:Expr}{c:PE}(hx:sh.scope.names.lookup (ofString "BASIC_STR_ESCAPE_REPLACEMENTS")=some .globalImplicit)(H:zat S sh e c)
  (hsub:∀o i,subscripted e false o i=operate [o,i] (getItem o i):=by intros;rfl):zat S sh (.Subscript (.Name "BASIC_STR_ESCAPE_REPLACEMENTS" p) e pos) (zwu sh.calm c):=λa ow st s Q X f R q=>by
 obtain⟨M,D,oM,vs,fm,e1,e2,e3,e4,e5,e6,e7,e8,e9⟩:=E0;rw[eval_Subscript];refine yk (zex f hx (D0.g.keeps (R.stays f)) e1 (yk (yE ?_)));refine yr (H a ow st s _ X f R q) (λv2a s₂ h=>yk (yT ?_)) λ_ _ x=>x;left;obtain⟨r,st₁,hq0,K,hr⟩:=h;refine za1 (Res.str_inv hq0) λk hzz hq=>?_;subst hzz;clear hq0;obtain⟨hr,_⟩:=hr;have R1:=R.step f K;have stay:=R1.stays f;have hT:s₂.TypeIs (.ref M) "mappingproxy":=(zbO oM (stay _ _ e2) e3);have sp:wpAny (model S.prog S.w) a.A (getitemInPython (.ref M)) (λb s'=>b=false∧s'=s₂) (λ_ _=>False) s₂:=by
  rw[getitemInPython_of_ne hT.not_modules];exact yk (wpAny_specialOf hT MPX.slot_getitem.lookup (yn ⟨rfl,rfl⟩))
 refine yk (yr sp (λb s' ⟨h1,h2⟩=>?_) λ_ _ x=>x.elim);clear sp;subst h1 h2;rw[hsub];refine zfh hr.inv λt hzz=>?_;subst hzz;have hm:=MapOf.stays e7 stay;have hkey:(PySem.strKind S.prog S.w).is (mk k) (.str (mk k) t)=true:=by show Value.isStrOf (mk k) (.str (mk k) t)=true;simp[Value.isStrOf]
 refine yk (wpAny_operating ?_);unfold getItem
 try with_reducible refine yE ?_
 refine yk (wpAny_sequenceKey hT (by decide) ?_);refine yk (wpAny_callSpecial?_slot (name:=ofString "__getitem__") hT MPX.slot_getitem
  (wpAny_call_entry MPX.slot_getitem hT MPX.entry_getitem ?_ (MPX.args_getitem _ _)))
 unfold Builtin.«mappingproxy.__getitem__»;dsimp only;have hs:slotArgs "__getitem__" 1 ⟨[.ref M,.str (mk k) t],[]⟩=pure (.ref M,[.str (mk k) t]):=rfl;refine yk (wpAny_of_eq hs ?_);dsimp only;refine yk (wpAny_field (stay _ _ e2) e4 e5 ?_);refine yk ?_;left;cases he:zji k with
 |some v=>
  refine zfh (e8 k v he) λt' hv=>?_;rw[he]at hq;replace hq:=zqo hq;refine wpAny_getItem_of hkey hm hv ?_;refine yn (zbO _ rfl (yn (yk (letGo (yn ?_)))));exact⟨.pl (.str v),st₁,hq,⟨K.frz,K.keep,K.gens,K.os⟩,.str v _,λz=>zaD z⟩
 |none=>
  have hv:=e9 k he;rw[he]at hq;replace hq:=zpW hq;refine wpAny_getItem_missing_of hkey e6 (f.calm hq.1).1 hm hv λh' e' hn=>?_;exact zsB.toE (X:=X) K (zh1 (X:=λx=>X x st₁) R1 (c:=.key) (by decide) hn (hq.2 []))
end
end Mine.Internal
end
section
open PySem PySem.W PySem.Calls PyProof.Rows
set_option tactic.hygienic false
set_option genInjectivity false
set_option genSizeOfSpec false
set_option maxRecDepth 100000
namespace Mine.Internal
section
variable{S:St0}{sh:zai}{a:Act}
theorem zqO{env:Env}{pos:Pos}{fl:Nat}{name:Str}{p:Arguments}{scope:Scope}{body:FuncBody}{A:Around}{E:Value->Shared->Prop}{s:Shared}{Q:Value->Shared->Prop}
  (hcf:zd1 S env.code)(hst:S.base.StaysIn s.heap)(ht:TabAt S s.heap)(hn:S.base.get? S.tab=none)
  (q:∀c' h' tk,zdQ [S.tab] s.heap h'->zcS h' c'->Q (.ref c') {s with heap:=h',toks:=tk}):wpAny (model S.prog S.w) A (functionCode env pos fl name Q0 p scope body) Q E s:=by
 obtain⟨c,o,vs,file,tf,flags,tg,inF,text,tt,hc,ho,hcls,hd,h11,h18,h7,h9,h10⟩:=hcf;refine za1 ht λps hP hT=>?_;have hne:c≠S.tab:=λz=>by rw[z,hn]at ho;exact zad ho
 have ho':=hst _ _ ho;have h11':vs.getD 11 .none=.ref S.tab:=by rw[Array.getD_eq_getD_getElem?,h11];rfl
 cases hca:codeAmong pos ps.toList with
 |some v=>
  refine za1 (hT.among hca) λc' hzz hq=>?_;subst hzz;unfold functionCode codeAt;rw[hc,if_neg (show ¬((Value.ref c==Value.none)=true)from Bool.false_ne_true)];refine yk (wpAny_fieldsOf ho' hd ?_);rw[h11'];refine yk (wpAny_fieldsOf hP rfl ?_);rw[hca];exact yn (q c' s.heap s.toks (.refl _ _) hq)
 |none=>
  refine wpAny_functionCodeX hc ⟨o,vs,file,tf,flags,tg,inF,text,tt,_,ho',hd,h11',h18,h7,h9,h10,hP,rfl,hT.ok,hne⟩ ⟨(zkB o vs ho' hcls hd h11),hP⟩ hca λc' h' tk hx hge hlt hok hrec htab hnew=>?_;have hq:zcS h' c':=by
   left;obtain⟨P',_,_,⟨⟨oc,ws,z1,z2,z3,_⟩,_⟩⟩:=hnew;refine zzT hrec λc₂ o2 vs2 t2 e2 g2a d₂ r2=>?_;cases e2;rw[z1]at g2a;obtain rfl:=yi g2a;exact⟨oc,vs2,t2,z1,z2,d₂,r2⟩
  refine q c' h' tk (λb ob e=>?_) hq;by_cases hb:b=S.tab
  ·subst hb
   rw[hP]at e;obtain rfl:=yi e;refine⟨λz=>absurd yp z,_,htab.2,λn=>absurd ⟨rfl,_,rfl⟩ n,λws _ hw=>?_⟩;left;cases hw;exact zbO (#[rawInt pos.line,rawInt pos.col,.ref c']) rfl (.cons hq .nil)
  ·exact⟨λ_=>hx b ob hb e,ob,hx b ob hb e,.refl _ _⟩
theorem zyZ(D0:Std S){i:Nat}{params:Arguments}{body:List Stmt}{scope:Scope}{pos:Pos}(hin:sh.inner=true)(hi:sh.names[i]?=some (ofString "coord_repr"))(hlf:S.lf=⟨ofString "coord_repr",params,body,scope,(S.mg "__name__").getD .none⟩)
  (hB:S.base.BuiltinsAt S.mg S.tab)(hfree:∀x∈scope.names,x.2≠.free)(hdoc:docOf body=none)(hexec:PlainDefTree (ofString "coord_repr") params body scope pos) :
  zba S sh (.FunctionDef (ofString "coord_repr") params body [] none [] scope none (ofString "coord_repr") pos) λQ _ st=>Q .next (st.set i (.val .lfn)):=λa ow st s Q X g R q=>by
 have f:=g.f;obtain⟨hcf,hqual⟩:=f.code hin;rw[hexec];have hm:ofString "coord_repr"∈sh.names:=yw hi;have hk:a.env.kindOf (ofString "coord_repr")=some .local:=by unfold Env.kindOf;exact f.scope▸(f.loc _ hm)
 have hq0:qualnameIn a.env (ofString "coord_repr") (ofString "coord_repr")=Q0:=by
  unfold qualnameIn;rw[hk,hqual];decide +kernel
 rw[hq0];refine yk (yT (yk (yE ?_)));have hc:closureFor scope a.env=pure []:=closureFor_none hfree;simp only[makeFunction,List.zip_nil_right,List.filterMap_nil,List.isEmpty_nil,if_true,pure_bind,hc,hdoc];refine yk (zqO hcf (R.stays f) R.tab D0.tab λc' h1 tk K hq=>?_);have K1:Step a st st s {s with heap:=h1,toks:=tk}:=⟨.refl _,K.mono λb hb=>by rw[List.mem_singleton.mp hb,←f.tab];exact ym _ yp,rfl,rfl⟩;have R1:=R.step f K1;have e0:=zdr R;rw[e0]at R1;have hst:=R1.stays f;left;obtain⟨bm,o,hbm,hne0,_,hneP,hbo,hcls,hdict,hdata⟩:=hB;have hg:=D0.g.keeps hst;have hgl:a.env.globals=mainGlobals:=f.glob;refine yk (wpAny_builtinsFor (hgl▸hg) hbm hne0 (hst _ _ hbo) hcls hdict hdata ?_);refine yk (wpAny_nsGet (hgl▸hg) ?_);simp only[newObj];refine yk (wpAny_alloc (yn ?_));have hn:h1.get? h1.objs.size=none:=yP (yq _);generalize ho:({cls:=.type "function",data:=.func _}:Obj)=oF;have K2:Step a st st {s with heap:=h1,toks:=tk} {s with heap:=h1.push oF,toks:=tk}:=⟨.refl _,.push _ _,rfl,rfl⟩;have R2:=R1.step f K2;rw[e0]at R2;have hv:zcj S (h1.push oF) (Pv a noX ow) (.ref h1.objs.size) .lfn:=by
  refine .lfn (c:=c') (o:=oF) (yF _ (ya _ ho.symm)) ?_ (hq.keep (.push _ _) (F:=[]));rw[←ho,hlf];simp only[LF.fd,hgl]
 refine yk (yT (yk (wpAny_bindName (ze4 f R2 hi hv λs' R' _=>yn ⟨.next,_,_,q,R',trivial⟩))))
end
section
variable{S:St0}{sh:zai}
theorem zmL{M:Model}{A:Around}{E:Value->Shared->Prop}{s:Shared}{pos:Pos}{a:Addr}{args:List (Bool×Sem Value)}{Q:Value->Shared->Prop}(hp:args.any (·.1)=false)
  (h:wpAny M A (evalArgs (.ref a) true args []) (λx s₁=>(∃o fd,s₁.heap.get? a=some o∧o.data=.func fd)∧wpAny M A (call (.ref a) x.pos x.kw) Q E s₁) E s) :
  wpAny M A (callWith pos (.ref a) [] args []) Q E s:=by
 unfold callWith;refine yk (yE (yr h (λx s₁ h1=>yk (yT ?_)) λ_ _ x=>x));obtain⟨⟨o,fd,ho,hd⟩,h1⟩:=h1;rw[show(args.any (·.1)||([]:List (Option Str×Sem Value)).any (·.1.isNone))=false by rw[hp];rfl];refine yk (m:=keeperOf (.ref a)) ?_;unfold keeperOf;refine yk (wpAny_load ho ?_);rw[hd];refine yn ?_;have tail:∀{t:Sem Value},wpAny M A t Q E s₁->wpAny M A (t >>= λr=>holding [r] point >>= λ_=>pure r) Q E s₁:=
  λht=>yk (yr ht (λr s₂ hr=>yk (yE (wpAny_point (yn hr)))) λ_ _ x=>x)
 dsimp only
 split
 ·exact tail h1
 ·exact tail (by unfold callMarked;exact Calls.wpAny_keep h1)
@[reducible]noncomputable def zvX(n:Nat)(calm:Bool)(sh:zai)(cf:PE)(ca:PEs)(Φ:List D->PD):PE:=λQ X st=>cf (λr st₁=>r=.pl .lfn∧n≤sh.rank∧(calm=true->sh.calm=true) ∧
 ca (λrs st₂=>Φ (rs.map Res.d) (λd=>Q (.pl d) (zbf rs st₂)) (λx=>X x (zbf rs st₂))) X st₁) X st
theorem ztU{n:Nat}{calm:Bool}{Φ:List D->PD}(hC:zjk S n calm Φ){id:Str}{p pos:Pos}{e:Expr}{es:List Expr}{cf:PE}{ca:PEs}(Hf:zat S sh (.Name id p) cf)(Ha:zb0 S sh (e::es) ca)
  (hplain:∀env,(backTo pos (starEach (e::es) env)).any (·.1)=false:=by intro;rfl)(he:∀env,starEach (e::es) env=(false,eval e env)::starEach es env:=by intro;rfl):zat S sh (.Call (.Name id p) (e::es) [] pos) (zvX n calm sh cf ca Φ):=λa ow st s Q X f R q=>by
 show wpAny _ _ (do callWith pos (←eval (.Name id p) a.env) [] (backTo pos (starEach (e::es) a.env)) (backToKw pos (keywordEach [] a.env))) _ _ _;refine yk (yr (Hf a ow st s _ X f R q) (λfv s₁ h=>?_) λ_ _ x=>x);obtain⟨r,st₁,⟨rfl,hrk,hcm,q⟩,K1,hr,_⟩:=h;have R1:=R.step f K1;obtain⟨b,rfl⟩:∃b,fv=.ref b:=by cases hr;exact⟨_,rfl⟩
 show wpAny _ _ (callWith pos (.ref b) [] (backTo pos (starEach (e::es) a.env)) []) _ _ _;refine zmL (hplain _) ?_;have hb':backTo pos (starEach (e::es) a.env)=(false,eval e a.env)::backTo pos (starEach es a.env):=by rw[he];rfl
 have hgo:=Ha pos a _ st₁ s₁ _ X f R1 q;rw[hb']at hgo⊢;refine Calls.evalArgs_plain (yr hgo (λvs s₂ h=>?_) λ_ _ x=>zaF K1 x);refine zfQ h λrs st₂ g1 K2 g3=>?_;have R2:=R1.step f K2;have hr2:=hr.goes (R1.goes f (P':=Pv a noX (restr (restr ow st₁) st₂)) K2.keep λb _ q=>q.restr);refine zbP (zhZ f R1 rs vs st₂ K2 g3) λK' hvs=>?_;have R':=R1.step f K';have hr3:=hr.goes (R1.goes f (P':=Pv a noX (restr (restr ow st₁) (zbf rs st₂))) K'.keep λb _ q=>q.restr);have hst:=R2.stays f;refine⟨by cases hr2 with|lfn h1 h2 _=>exact(zlq _ _ h1 h2),?_⟩;have C:zhp S a.A a.fr a.hands (Pv a noX (restr (restr ow st₁) (zbf rs st₂))) n calm s₂:={
  frames:=f.fronts,stays:=hst,fun_:=R'.frames
  depth:=by have:=f.depth;lia
  units:=by have:=f.units;lia
  guards:=f.guards,calm:=λh=>f.calm (hcm h),hand:=f.hand,hands:=R'.hands,gens:=R'.gens,tab:=R'.tab,tabP:=.inl (f.tab▸f.tabP),frP:=λb hb=>f.inP b (f.LFsub b hb)
  P:=λb q=>by
   rcases q with q|q|q|⟨i,q⟩
   ·obtain⟨o,ho⟩:=yI.mp (f.Pdom b q)
    exact R'.keep.there ho
   ·obtain⟨m,⟨o,_,_,ho,_⟩,_⟩:=R'.slots
    rw[q,ho];rfl
   ·exact q.elim
   ·exact R'.own_there q}
 have KK:=K1.trans K';refine yr (hC (.ref b) a.A _ a.hands _ s₂ vs _ _ _ C hr3 hvs g1) (λv s4a h=>?_) λev s4a h=>?_
 ·left
  obtain⟨d,qd,hvr,hnew,hk,hg,hos⟩:=h;replace hk:=hk.mono (G:=a.L::a.F) λb hb=>by
   rcases yx.mp hb with q|q
   ·exact q▸f.tab▸ym _ yp
   ·exact f.LFsub b q
  have K4:Step a st (zbf rs st₂) s s4a:=KK.trans ⟨.refl _,hk,hg,hos⟩;refine⟨.pl d,_,qd,K4,?_,λz=>?_⟩
  ·rw[zaq K'.frz]at hvr;exact hvr
  ·refine za1 (hnew z) λe' h1 h2=>?_
   exact zbO e' h1 (KK.keep.new h2)
 ·obtain⟨x,e',T,qx,rfl,hn,hT,hO,hk,hg,hos⟩:=h
  replace hk:=hk.mono (G:=a.L::a.F) λb hb=>by
   rcases yx.mp hb with q|q
   ·exact q▸f.tab▸ym _ yp
   ·exact f.LFsub b q
  exact⟨x,_,qx,KK.trans ⟨.refl _,hk,hg,hos⟩,e',T,rfl,KK.keep.new hn,λb hb=>KK.keep.new (hT b hb),hO a.L⟩
end
structure zf5(prog:Program)(w:World)(h0 h:Heap)(D:Addr)(Sf:Str->Bool)(n:Nat):Prop where
 new:h0.get? D=none
 set:h.SetOf (PySem.strKind prog w) D Sf n
 keep:∀b o,h0.get? b=some o->h.get? b=some o
section
variable{prog:Program}{w:World}{A:Around}{E:Value->Shared->Prop}
theorem zsK{s:Shared}{h0:Heap}{D:Addr}{Sf:Str->Bool}{n:Nat}{k:Str}{t:Tok}{Q:Bool->Shared->Prop}(F:zf5 prog w h0 s.heap D Sf n)(hn:n+1<scanBound)
  (h:∀h' n',n'≤n+1->zf5 prog w h0 h' D (λk'=>Sf k'||decide (k'=k)) n'->∀b,Q b {s with heap:=h',toks:=s.toks+1}):wpAny (model prog w) A (setAdd D (.str k t)) Q E s:=by
 unfold setAdd;refine yE (yk ((PySem.strKind prog w).pyHash (k:=k) (isStrOf_self k t) ?_));refine wpAny_setAddHashed_of (s:={s with toks:=s.toks+1}) (isStrOf_self k t) rfl F.set hn λh' hsb hS'=>?_;refine h h' _ ?_ ⟨F.new,hS',λb o e=>?_⟩ _
 ·split
  ·exact yh n
  ·exact yq _
 ·have hb:b≠D:=λz=>by rw[z,F.new]at e;exact zad e
  exact(hsb.2 b hb).trans (F.keep b o e)
theorem zjF{s:Shared}{h0:Heap}{D:Addr}{Sf:Str->Bool}{n:Nat}{Q:Unit->Shared->Prop}(F:zf5 prog w h0 s.heap D Sf n)
  (h:∀h',zf5 prog w h0 h' D Sf n->Q () {s with heap:=h'}):wpAny (model prog w) A (setUnled D) Q E s:=by
 obtain⟨o,es,ep,t,ho,hex,hd,hel,hmem,hb,hf,hn⟩:=F.set;have hf':({t with led:=false}:SetTable).fits es.size=true:=by cases t;exact hf
 unfold setUnled;refine yk (wpAny_setState_of ho hd hf ?_);dsimp only;refine wpAny_storeSet_of ho hd ?_ (fits_of_scanBound hb);refine zbP (SetOf_store (knd:=PySem.strKind prog w) ho hex hd hel hmem hb hf') λ_ hS=>?_;rw[hn]at hS;refine h _ ⟨F.new,hS,λb o' e=>?_⟩;have hbD:b≠D:=λz=>by rw[z,F.new]at e;exact zad e
 exact((Heap.SameBut.update s.heap D (Obj.putSet es {t with led:=false})).2 b hbD).trans (F.keep b o' e)
inductive zg9:List Value->List (List Nat)->Prop
 |nil:zg9 [] []
 |cons {l t vs ls}:zg9 vs ls->zg9 (.str (mk l) t::vs) (l::ls)
inductive zcE:List Expr->List (List Nat)->Prop
 |nil:zcE [] []
 |cons {x:Str} {l k pos es ls} (h:x.cps.toList=l):zcE es ls->zcE (.Constant (.str x) k pos::es) (l::ls)
theorem zcE.plain{es ls}(h:zcE es ls):es.all kdsPlain=true:=by
 induction h with
 |nil=>rfl
 |cons _ _ ih=>rw[List.all_cons,ih];rfl
theorem zcE.length{es ls}(h:zcE es ls):es.length=ls.length:=by
 induction h with
 |nil=>rfl
 |cons _ _ ih=>rw[List.length_cons,List.length_cons,ih]
theorem all_strs{env:Env}{es ls}(h:zcE es ls):∀{s:Shared}{Q:List Value->Shared->Prop},(∀vs,zg9 vs ls->∀tk,Q vs {s with toks:=tk})->KdsAll (model prog w) A E env es Q s:=by
 induction h with
 |nil=>intro s Q h;exact h [] .nil s.toks
 |cons e _ ih=>
  intro s Q h;refine wpAny_Constant_str (ih λvs hv tk=>?_);have hc:=h _ (zg9.cons (t:=s.toks) hv) tk;rw[←e,zdx]at hc;exact hc
theorem zsI{vs ls}(hv:zg9 vs ls){h0:Heap}{D:Addr}{Q:Value->Shared->Prop}:∀{s:Shared}{Sf:Str->Bool}{n:Nat},zf5 prog w h0 s.heap D Sf n->n+ls.length<scanBound ->
  (∀h' n' tk,zf5 prog w h0 h' D (λk=>Sf k||ls.any λl=>decide (k=mk l)) n'->Q (.ref D) {s with heap:=h',toks:=tk})->KdsFill (model prog w) A E true D Q vs s:=by
 induction hv with
 |nil=>
  intro s Sf n F hn h;refine kds_fill_unled rfl (zjF F λh' F'=>h h' n s.toks ?_);have:(λk=>Sf k||([]:List (List Nat)).any λl=>decide (k=mk l))=Sf:=funext λk=>Bool.or_false _;exact this.symm▸F'
 |cons _ ih=>
  intro s Sf n F hn h;rw[List.length_cons]at hn;refine kds_fill_cons (zsK F (by lia) λh' n' hn' F' b=>ih F' (by lia) λh'' n'' tk F''=>h h'' n'' tk ?_);simp only[List.any_cons,←Bool.or_assoc];exact F''
theorem zqi{env:Env}{s:Shared}{Q:Bool->Shared->Prop}{c:Addr}{o:Obj}{vs}(e:env.code=.ref c)(ho:s.heap.get? c=some o)(hd:o.data=.fields vs)(h:∀b,Q b s):wpAny (model prog w) A (inMainModule env) Q E s:=by
 unfold inMainModule
 try dsimp only
 rw[e]
 split
 ·exact yn (h _)
 ·refine yk (wpAny_fieldsOf ho hd ?_)
  split
  ·exact yk (wpAny_askSetting (yn (h _)))
  ·exact yn (h _)
theorem ztD{env:Env}{s:Shared}{Q:Value->Shared->Prop}{es ls}{pos:Pos}(hE:zcE es ls)(hlen:ls.length≤30)(hroad:displayRoad 0 es=.unsure){c:Addr}{o:Obj}{vs}(e:env.code=.ref c)(ho:s.heap.get? c=some o)(hd:o.data=.fields vs)
  (h:∀D h' n' tk,zf5 prog w s.heap h' D (λk=>false||ls.any λl=>decide (k=mk l)) n'->Q (.ref D) {s with heap:=h',toks:=tk}):wpAny (model prog w) A (eval (.Set es 0 pos) env) Q E s:=by
 rw[arm_eval_Set];refine yk (yT ?_);refine yk (zqi e ho hd λb=>?_);rw[kds_star es hE.plain,List.map_map];refine kds_core (ts:=(evalEach es env).map λt=>do let v ←t;standAt pos;pure v) (by rw[hroad];rfl) ?_ ?_ ?_ λled=>?_
 ·refine List.findIdx?_eq_none_iff.mpr λx hx=>?_
  refine za1 (List.mem_map.mp hx) λt _ hzz=>?_;subst hzz;rfl
 ·rw[List.length_map,kds_len,hE.length];exact hlen
 ·rw[List.map_map];try rfl
 ·refine kds_all pos es _ _ (all_strs hE λus hu tk=>?_)
  rw[hroad];refine zsI hu (h0:=s.heap) (Sf:=λ_=>false) (n:=0) ⟨yP (yq _),(setObjOf_fresh led).setOf (yF _ rfl) (by decide),λb o e=>yB _ e⟩ (by unfold scanBound;lia) λh' n' tk F=>h _ h' n' tk F
theorem zxq(l:List Nat)(ls:List (List Nat)):(false||ls.any λl'=>decide (mk l=mk l'))=decide (l∈ls):=by
 rw[Bool.false_or]
 induction ls with
 |nil=>simp
 |cons x xs ih=>
  rw[List.any_cons,ih];by_cases e:l=x
  ·simp[e]
  ·have:mk l≠mk x:=λz=>e (zlG z)
   simp[e,this]
end
@[reducible]noncomputable def zsl(c:PE)(ls:List (List Nat)):PT:=λQ X st=>c (λr st₁=>oM r.d.str? λl=>Q (decide (l∈ls)) st₁) X st
theorem zoZ{S:St0}{sh:zai}(hcalm:sh.calm=true){e:Expr}{c:PE}{es:List Expr}{ls:List (List Nat)}{pos pos':Pos}(H:zat S sh e c)(hE:zcE es ls)(hlen:ls.length≤30)(hroad:displayRoad 0 es=.unsure)(hm:behindInMarks .In (.Set es 0 pos')=true) :
  zdp S sh (.Compare e [.In] [.Set es 0 pos'] pos) (zsl c ls):=λa ow st s Q X f R q=>by
 refine kdi_test hm (yr (H a ow st s _ X f R q) (λv s₁ h=>?_) λ_ _ x=>x);left;obtain⟨r,st₁,h1,h2,h3⟩:=h;refine za1 (oM_inv h1) λl hl h1=>?_;have R1:=R.step f h2;have h3c:=h3.c;clear h3;rw[D.str?_inv hl]at h3c;refine zfh h3c.str λt hzz=>?_;subst hzz;refine zra (f.codeA hcalm) λc' o vs e1 e2 e3=>?_;refine ztD hE hlen hroad e1 (R1.stays f _ _ e2) e3 λD h' n' tk F=>kdi_mark (zjF F λh'' F'=>?_);refine wpAny_inSet_of (k:=mk l) (isStrOf_self (mk l) t) rfl F'.set ?_;rw[zxq];exact wpAny_truthy_bool (zbO st₁ h1 (h2.trans ⟨.refl _,.of_keeps F'.keep,rfl,rfl⟩))
@[reducible]noncomputable def zag(d:D):PE:=λQ _ st=>Q (.pl d) st
noncomputable def zAc:PS:=λ_ _ _=>False
@[reducible]noncomputable def zjd(b:Bool):PT:=λQ _ st=>Q b st
@[reducible]noncomputable def zap:PS:=λQ _ st=>Q .next st
@[reducible]noncomputable def znR:PS:=λQ _ st=>Q .cont st
@[reducible]noncomputable def zaj:PEs:=λQ _ st=>Q [] st
@[reducible]noncomputable def zzA(i:Nat):PS:=λQ _ st=>Q .next (st.set i (.val .lfn))
@[reducible]noncomputable def zgG:PO:=λQ _ st=>Q none st
section
variable{S:St0}{sh:zai}
theorem ziJ{b k pos}:zat S sh (.Constant (.bool b) k pos) (zag (.bool b)):=zwt
theorem zaA{i k pos}:zat S sh (.Constant (.int i) k pos) (zag (.int i)):=zyE
theorem zaJ{x:Str}{l:List Nat}{k pos}(h:x.cps.toList=l):zat S sh (.Constant (.str x) k pos) (zag (.str l)):=h▸zxm
theorem zyh{x:Str}{pos}{d:D}{v:Value}(D:Std S)(hx:sh.scope.names.lookup x=some .globalImplicit)(hv:S.mg x=some v)(hr:∀h P,S.base.StaysIn h->zcj S h P v d)(he:d.isExc=false)(hd:(x==("__debug__":Str))=false):zat S sh (.Name x pos) (zag d):=zv5 D hx hv hr he hd
theorem zxN{pos}:zba S sh (.Pass pos) zap:=zvx
theorem zro{pos}:zba S sh (.Continue pos) znR:=zwT
theorem zam:zaV S sh [] zap:=zwU
theorem zav:zb0 S sh [] zaj:=zw0
theorem zej{pos}:zdp S sh (.BoolOp .And [] pos) (zjd true):=zlL
theorem zuc{pos}:zdp S sh (.BoolOp .Or [] pos) (zjd false):=zmQ
theorem zhi:zka S sh none zgG:=zpN
theorem zxO{k pos}:zdp S sh (.Constant (.bool true) k pos) (zcO (zag (.bool true))):=zbh zar ziJ (by intros;rfl)
end
@[irreducible]noncomputable def zbH(r:Option (Except Err D)):PD:=λQ X=>match r with
 |some (.ok d)=>Q d
 |some (.error e)=>X e
 |none=>False
theorem zgs{Q:D->Prop}{X:Err->Prop}(h:zbH none Q X):False:=by unfold zbH at h;exact h
theorem zcw(d:D)(Q:D->Prop)(X:Err->Prop):zbH (some (.ok d)) Q X=Q d:=by unfold zbH;rfl
theorem zmZ(e:Err)(Q:D->Prop)(X:Err->Prop):zbH (some (.error e)) Q X=X e:=by unfold zbH;rfl
theorem zfR{d:D}{Q:D->Prop}{X:Err->Prop}(h:zbH (some (.ok d)) Q X):Q d:=by unfold zbH at h;exact h
noncomputable abbrev Fn:=List D->List D->Option (Except Err D)
noncomputable def zaz(l:List (Str×Ctr)):Tab:=λn=>l.lookup n
theorem zaB.nil{S:St0}:zaB S (zaz []):=⟨λn c v h=>by simp[zaz]at h⟩
theorem zaB.cons{S:St0}{l:List (Str×Ctr)}{n:Str}{c:Ctr}{a:Addr}{o:Obj}{fd:FuncData}(hm:S.mg n=some (.ref a))(ho:S.base.get? a=some o)(hd:o.data=.func fd)(h:zhH S (.ref a) c.rank c.calm c.kws c.Φ)(t:zaB S (zaz l)):zaB S (zaz ((n,c)::l)):=⟨λn' c' v h1 h2=>by
 unfold zaz at h1;by_cases e:n'=n
 ·subst e
  rw[List.lookup_cons_self]at h1;obtain rfl:=yi h1;rw[hm]at h2;obtain rfl:=yi h2;exact⟨h,a,o,fd,rfl,ho,hd⟩
 ·rw[List.lookup,show(n'==n)=false from by simpa using e]at h1
  exact t.ok n' c' v h1 h2⟩
theorem zhH.mono{S:St0}{f:Value}{n n':Nat}{calm:Bool}{kws:List Str}{Φ Φ':List D->List D->PD}(h:zhH S f n calm kws Φ)(hn:n≤n')(k:∀ds dk Q X,Φ' ds dk Q X->Φ ds dk Q X):zhH S f n' calm kws Φ':=
 λA fr hands P s vs ks ds dk Q X C hv hk hl q=>h A fr hands P s vs ks ds dk Q X {C with depth:=by have:=C.depth;lia,units:=by have:=C.units;lia} hv hk hl (k _ _ _ _ q)
theorem zjk.mono{S:St0}{n n':Nat}{calm:Bool}{Φ Φ':List D->PD}(h:zjk S n calm Φ)(hn:n≤n')(k:∀ds Q X,Φ' ds Q X->Φ ds Q X):zjk S n' calm Φ':=
 λv A fr hands P s vs ds Q X C hl hv q=>h v A fr hands P s vs ds Q X {C with depth:=by have:=C.depth;lia,units:=by have:=C.units;lia} hl hv (k _ _ _ q)
section
variable{S:St0}{sh:zai}
noncomputable def Gl(S:St0)(gl:List (Str×D)):Prop:=∀n d,gl.lookup n=some d->∃v,S.mg n=some v∧∀h P,S.base.StaysIn h->zcj S h P v d
theorem zsL{gl:List (Str×D)}{x:Str}{pos}{d:D}(D0:Std S)(G:Gl S gl)(hx:sh.scope.names.lookup x=some .globalImplicit)(hl:gl.lookup x=some d)(he:d.isExc=false)(hd:(x==("__debug__":Str))=false):zat S sh (.Name x pos) (zag d):=
 let ⟨_,h1,h2⟩:=G x d hl
 zyh D0 hx h1 h2 he hd
@[reducible]noncomputable def peC(tb:Tab)(rank:Nat)(calm:Bool)(cf:PE)(ca:PEs)(kws:List Str)(ck:PEs):PE:=λQ X st=>cf (λr st₁=>∃n c,r=.pl (.fn n)∧tb n=some c∧c.kws=kws∧c.rank≤rank∧(c.calm=true->calm=true) ∧
 ca (λrs st₂=>ck (λrk st3=>c.Φ (rs.map Res.d) (rk.map Res.d) (λd=>Q (.pl d) (zbf (rs++rk) st3)) (λx=>X x (zbf (rs++rk) st3))) X st₂) X st₁) X st
theorem zAw{tb:Tab}{rank:Nat}{calm:Bool}(hr:sh.rank=rank)(hc:sh.calm=calm)(TB:zaB S tb){id:Str}{p pos:Pos}{e:Expr}{es:List Expr}{ks:List Keyword}{cf:PE}{ca ck:PEs}{kws:List Str}(Hf:zat S sh (.Name id p) cf)(Ha:zb0 S sh (e::es) ca)(Hk:KwS S sh ks kws ck)
  (he:∀env,starEach (e::es) env=(false,eval e env)::starEach es env:=by intro;rfl):zat S sh (.Call (.Name id p) (e::es) ks pos) (peC tb rank calm cf ca kws ck):=by
 subst hr hc;exact zwm TB Hf Ha Hk he
end
noncomputable def zmg:D:=.fset [[32],[9]]
noncomputable def zc9:D:=.fset [[32],[9],[10]]
noncomputable def zg0:List Nat:=[0,1,2,3,4,5,6,7,8,9,10,11,12,13,14,15,16,17,18,19,20,21,22,23,24,25,26,27,28,29,30,31,127]
noncomputable def zcf:D:=.fset ((zg0.filter (· != 9)).map λc=>[c])
noncomputable def zbm:D:=.fset ((zg0.filter λc=>c != 9&&c != 10).map λc=>[c])
noncomputable def zuS:List Nat:=[48,49,50,51,52,53,54,55,56,57,97,98,99,100,101,102,65,66,67,68,69,70]
noncomputable def zeL:D:=.fset (zuS.map λc=>[c])
noncomputable def zlB:D:=.fn (ofString "skip_chars")
noncomputable def zdE:D:=.fn (ofString "parse_one_line_basic_str")
noncomputable def zcu:D:=.fn (ofString "parse_basic_str_escape")
noncomputable def zbq:D:=.fn (ofString "parse_basic_str_escape_multiline")
noncomputable def zhz:D:=.fn (ofString "parse_hex_char")
noncomputable def ze8:D:=.fn (ofString "parse_multiline_str")
noncomputable def zgT:D:=.fn (ofString "parse_basic_str")
noncomputable def zjg:D:=.fn (ofString "suffixed_err")
noncomputable def zd6:D:=.fn (ofString "is_unicode_scalar_value")
noncomputable def zou:List Str:=[ofString "len",ofString "abs",ofString "chr",ofString "ord",ofString "min",ofString "max",ofString "sum",ofString "range",ofString "tuple",ofString "list",ofString "int",ofString "str",ofString "isinstance",ofString "divmod",
 ofString "RecursionError",ofString "IndexError",ofString "ValueError",ofString "KeyError"]
noncomputable def NoG(S:St0):Prop:=∀x∈zou,S.mg x=none
@[reducible]noncomputable def peK(F:Fn)(ca ck:PEs):PE:=λQ X st=>ca (λrs st₂=>ck (λrk st3=>zbH (F (rs.map Res.d) (rk.map Res.d)) (λd=>Q (.pl d) (zbf (rs++rk) st3)) (λx=>X x (zbf (rs++rk) st3))) X st₂) X st
@[reducible]noncomputable def zAj(F:Fn)(cf:PE)(ca:PEs):PE:=λQ X st=>cf (λr st₁=>r.oM D.lfn? λ_=>ca (λrs st₂=>zbH (F (rs.map Res.d) []) (λd=>Q (.pl d) (zbf rs st₂)) (λx=>X x (zbf rs st₂))) X st₁) X st
section
variable{S:St0}{sh:zai}
theorem zx1{n₀:Nat}{gl:List (Str×D)}{tb:Tab}(D0:Std S)(G:Gl S gl)(TB:zc4 n₀ S tb){c:Ctr}{F:Fn}{id:Str}{p pos:Pos}{e:Expr}{es:List Expr}{ks:List Keyword}{ca ck:PEs}{kws:List Str}
  (hl:gl.lookup id=some (.fn id))(ht:tb id=some c)(hΦ:c.Φ=λds dk=>zbH (F ds dk))(hkw:c.kws=kws)(hr:c.rank≤sh.rank)(hc:c.calm=true->sh.calm=true)
  (hx:sh.scope.names.lookup id=some .globalImplicit)(hd:(id==("__debug__":Str))=false)(Ha:zgj n₀ S sh (e::es) ca)(Hk:KwS S sh ks kws ck)
  (he:∀env,starEach (e::es) env=(false,eval e env)::starEach es env):zdI n₀ S sh (.Call (.Name id p) (e::es) ks pos) (peK F ca ck):=by
 have H:=znQ TB (zsL (pos:=p) D0 G hx hl rfl hd) Ha Hk (pos:=pos) he;intro a ow st s Q X hn f R q;refine H a ow st s Q X hn f R (zAR id c rfl ht hkw hr hc ?_);rw[hΦ];exact q
theorem zkI{gl:List (Str×D)}{tb:Tab}(D0:Std S)(G:Gl S gl)(TB:zaB S tb){c:Ctr}{F:Fn}{id:Str}{p pos:Pos}{e:Expr}{es:List Expr}{ks:List Keyword}{ca ck:PEs}{kws:List Str}
  (hl:gl.lookup id=some (.fn id))(ht:tb id=some c)(hΦ:c.Φ=λds dk=>zbH (F ds dk))(hkw:c.kws=kws)(hr:c.rank≤sh.rank)(hc:c.calm=true->sh.calm=true)
  (hx:sh.scope.names.lookup id=some .globalImplicit)(hd:(id==("__debug__":Str))=false)(Ha:zb0 S sh (e::es) ca)(Hk:KwS S sh ks kws ck)
  (he:∀env,starEach (e::es) env=(false,eval e env)::starEach es env:=by intro;rfl):zat S sh (.Call (.Name id p) (e::es) ks pos) (peK F ca ck):=(zx1 D0 G TB.n hl ht hΦ hkw hr hc hx hd Ha.t Hk he).s
theorem zzN{e:Expr}{c:PE}(H:zat S sh e c):zat S sh e (λQ X st=>∃Q',(∀r st,Q' r st->Q r st)∧c Q' X st):=λa ow st s Q X f R ⟨Q',h,q⟩=>
 yr (H a ow st s Q' X f R q) (λv s' ⟨r,st',h1,h2,h3⟩=>⟨r,st',h _ _ h1,h2,h3⟩) λ_ _ x=>x
theorem zzY{n:Nat}{calm:Bool}{F:Fn}(hr:n≤sh.rank)(hc:calm=true->sh.calm=true)(hC:zjk S n calm (λds=>zbH (F ds []))){id:Str}{p pos:Pos}{e:Expr}{es:List Expr}{cf:PE}{ca:PEs}(Hf:zat S sh (.Name id p) cf)(Ha:zb0 S sh (e::es) ca)
  (hplain:∀env,(backTo pos (starEach (e::es) env)).any (·.1)=false:=by intro;rfl)(he:∀env,starEach (e::es) env=(false,eval e env)::starEach es env:=by intro;rfl):zat S sh (.Call (.Name id p) (e::es) [] pos) (zAj F cf ca):=by
 have H:=ztU hC (zzN Hf) Ha (pos:=pos) hplain he;intro a ow st s Q X f R q;refine H a ow st s Q X f R (zbO _ (λr st' h=>let ⟨h1,h2⟩:=Res.lfn_inv h;⟨h1,hr,hc,h2⟩) q)
end
noncomputable def zz7:List Nat:=[101,110,100,32,111,102,32,100,111,99,117,109,101,110,116]
noncomputable def zfI:List Nat:=[108,105,110,101,32]
noncomputable def zna:List Nat:=[44,32,99,111,108,117,109,110,32]
noncomputable def zvU:List Nat:=[32,40,97,116,32]
noncomputable def zvn:List Nat:=[41]
noncomputable def zes:List Nat:=[85,110,116,101,114,109,105,110,97,116,101,100,32,115,116,114,105,110,103]
noncomputable def zkO:List Nat:=[73,108,108,101,103,97,108,32,99,104,97,114,97,99,116,101,114,32]
noncomputable def zbd:List Nat:=[85,110,101,115,99,97,112,101,100,32,39,92,39,32,105,110,32,97,32,115,116,114,105,110,103]
noncomputable def zjN:List Nat:=[73,110,118,97,108,105,100,32,104,101,120,32,118,97,108,117,101]
noncomputable def zjI:List Nat:=[69,115,99,97,112,101,100,32,99,104,97,114,97,99,116,101,114,32,105,115,32,110,111,116,32,97,32,85,110,105,99,111,100,101,32,115,99,97,108,97,114,32,118,97,108,117,101]
noncomputable def okT(s:List Nat):Bool:=decide (s.length≤300000)&&s.all λc=>decide (c<1114112)&&decide ((zfz [c]).length≤1000)
noncomputable def zea(s:List Nat)(p:Nat):Nat:=(s.take p).count 10+1
noncomputable def zkW(s:List Nat)(p:Nat):Nat:=((s.take p).reverse.takeWhile (· != 10)).length+1
noncomputable def zbZ(s:List Nat)(p:Nat):List Nat:=if s.length≤p then zz7 else zfI++zby (zea s p)++zna++zby (zkW s p)
noncomputable def zcD(s:List Nat)(p:Nat)(m:List Nat):List Nat:=m++zvU++zbZ s p++zvn
noncomputable def zaE(s:List Nat)(cs:List (List Nat))(p:Nat):Nat:=p+((s.drop p).takeWhile λc=>decide ([c]∈cs)).length
noncomputable def cut(s:List Nat)(a b:Nat):List Nat:=(s.drop a).take (b-a)
noncomputable abbrev R:=Except (List Nat) (Nat×List Nat)
noncomputable def zbM(n:Nat):Bool:=decide (n≤55295)||(decide (57344≤n)&&decide (n≤1114111))
noncomputable def zi4(s:List Nat)(p k:Nat):R:=
 let h:=cut s p (p+k)
 if h.length≠k∨¬h.all zbr then .error (zcD s p zjN)
 else if zbM (zbI h)then .ok (p+k,[zbI h])else .error (zcD s (p+k) zjI)
noncomputable def wsL:List (List Nat):=[[32],[9]]
noncomputable def zvk:List (List Nat):=[[32],[9],[10]]
noncomputable def zmB(s:List Nat)(p:Nat):R:=
 if cut s p (p+2)=[92,10]then .ok (zaE s zvk (p+2),[])
 else match s[zaE s wsL (p+2)]? with
  |none=>.ok (zaE s wsL (p+2),[])
  |some c=>if c=10 then .ok (zaE s zvk (zaE s wsL (p+2)+1),[])else .error (zcD s (zaE s wsL (p+2)) zbd)
noncomputable def zez(s:List Nat)(p:Nat):R:=
 if cut s p (p+2)=[92,117]then zi4 s (p+2) 4
 else if cut s p (p+2)=[92,85]then zi4 s (p+2) 8
 else match zji (cut s p (p+2))with
  |some v=>.ok (p+2,v)
  |none=>.error (zcD s (p+2) zbd)
noncomputable def ze0(s:List Nat)(p:Nat)(ml:Bool):R:=
 if ml=true∧(cut s p (p+2)=[92,32]∨cut s p (p+2)=[92,9]∨cut s p (p+2)=[92,10])then zmB s p else zez s p
noncomputable def zwp:List (List Nat):=(zg0.filter (· != 9)).map λc=>[c]
noncomputable def zuk:List (List Nat):=(zg0.filter λc=>c != 9&&c != 10).map λc=>[c]
noncomputable def znp(ml:Bool):List (List Nat):=if ml then zuk else zwp
noncomputable def bOn(s:List Nat)(ml:Bool)(k:List Nat->Nat->R)(acc:List Nat)(p c:Nat):R:=if c=34 then
   if ml=false then .ok (p+1,acc)
   else if cut s p (p+3)=[34,34,34]then .ok (p+3,acc)
   else k (acc++[34]) (p+1)
  else if c=92 then match ze0 s p ml with
   |.error m=>.error m
   |.ok (p',t)=>k (acc++t) p'
  else if[c]∈znp ml then .error (zcD s p (zkO++zfz [c]))
  else k (acc++[c]) (p+1)
noncomputable def bAt(s:List Nat)(ml:Bool)(k:List Nat->Nat->R)(acc:List Nat)(p:Nat)(o:Option Nat):R:=match o with
 |none=>.error (zcD s p zes)
 |some c=>bOn s ml k acc p c
noncomputable def zfF(s:List Nat)(ml:Bool):Nat->List Nat->Nat->R
 |0,_,p=>.error (zcD s p zes)
 |n+1,acc,p=>bAt s ml (zfF s ml n) acc p s[p]?
noncomputable def zaS(s:List Nat)(ml:Bool)(acc:List Nat)(p:Nat):R:=zfF s ml (s.length+1-p) acc p
noncomputable def zcm(s:List Nat)(ml:Bool)(p:Nat):R:=zaS s ml [] p
termination_by s.length+1-p
decreasing_by all_goals (have:=(yo.mp h).1;omega)
noncomputable def toR:R->Except Err D
 |.ok (p,t)=>.ok (.tup [.int p,.str t])
 |.error m=>.error (.toml,m)
noncomputable def okB(B:Nat)(s:List Nat)(p:Int):Bool:=okT s&&(decide (0≤p)&&decide (p≤B))
noncomputable def zxd(s:List Nat)(p:Int):Bool:=okB 400000 s p
noncomputable def zx5:Bool:=true
noncomputable abbrev zjj:=Option (Except Err D)
noncomputable def gO(c:Bool)(k:zjj):zjj:=match c with
 |true=>k
 |false=>none
noncomputable def zr5(l:List D)(k:zjj):zjj:=match l with
 |[]=>k
 |_::_=>none
noncomputable def zeQ{α:Type}(A:Dc α)(l:List D)(k:α->List D->zjj):zjj:=match l with
 |[]=>none
 |d::l=>match A.of d with
  |some x=>k x l
  |none=>none
theorem zc1{l:List D}{k:zjj}{Q:D->Prop}{X:Err->Prop}(h:zbH (zr5 l k) Q X):l=[]∧zbH k Q X:=by
 induction l with
 |nil=>exact⟨rfl,h⟩
 |cons _ _=>exact(zgs h).elim
theorem zbE{α:Type}{A:Dc α}{l:List D}{k:α->List D->zjj}{Q:D->Prop}{X:Err->Prop}(h:zbH (zeQ A l k) Q X):∃x r,l=A.to x::r∧zbH (k x r) Q X:=by
 induction l with
 |nil=>exact(zgs h).elim
 |cons d l=>
  cases e:A.of d with
  |none=>unfold zeQ at h;dsimp only at h;rw[e]at h;exact(zgs h).elim
  |some x=>
   unfold zeQ at h;dsimp only at h;rw[e]at h;exact zlq x l (by rw[A.inv e]) h
theorem zdM{c:Bool}{k:zjj}{Q:D->Prop}{X:Err->Prop}(h:zbH (gO c k) Q X):c=true∧zbH k Q X:=by
 cases c with
 |true=>exact⟨rfl,h⟩
 |false=>exact(zgs h).elim
theorem zgn{c:Bool}{k:zjj}{Q:D->Prop}{X:Err->Prop}(e:c=true)(h:zbH k Q X):zbH (gO c k) Q X:=by subst e;exact h
noncomputable def zzc{α:Type}(A:Dc α)(k:α->zjj):Fn:=λds dk=>zeQ A ds λx ds=>zr5 ds (zr5 dk (k x))
noncomputable def zxb{α β:Type}(A:Dc α)(B:Dc β)(k:α->β->zjj):Fn:=λds dk=>zeQ A ds λx ds=>zeQ B ds λy ds=>zr5 ds (zr5 dk (k x y))
noncomputable def zzi{α β γ:Type}(A:Dc α)(B:Dc β)(C:Dc γ)(k:α->β->γ->zjj):Fn:=λds dk=>zeQ A ds λx ds=>zeQ B ds λy ds=>zeQ C ds λz ds=>zr5 ds (zr5 dk (k x y z))
noncomputable def zsX{α β γ:Type}(A:Dc α)(B:Dc β)(C:Dc γ)(k:α->β->γ->zjj):Fn:=λds dk=>zeQ A ds λx ds=>zeQ B ds λy ds=>zr5 ds (zeQ C dk λz dk=>zr5 dk (k x y z))
section
variable{α β γ δ ε:Type}{A:Dc α}{B:Dc β}{C:Dc γ}{E:Dc δ}{F:Dc ε}{ds dk:List D}{Q:D->Prop}{X:Err->Prop}
theorem znU{k:α->zjj}(h:zbH (zzc A k ds dk) Q X):∃x,ds=[A.to x]∧dk=[]∧zbH (k x) Q X:=by
 refine zfA (zbE h) λx r1 e1 g1=>?_;obtain⟨e2,g2⟩:=zc1 g1;obtain⟨e3,g3⟩:=zc1 g2;exact⟨x,by rw[e1,e2],e3,g3⟩
theorem zgg{k:α->β->zjj}(h:zbH (zxb A B k ds dk) Q X):∃x y,ds=[A.to x,B.to y]∧dk=[]∧zbH (k x y) Q X:=by
 left;refine zfA (zbE h) λx r1 e1 g1=>?_;refine zfA (zbE g1) λy r2 e2 g2=>?_;obtain⟨e3,g3⟩:=zc1 g2;refine zbP (zc1 g3) λe4 g4=>?_;exact zlk x y (by rw[e1,e2,e3]) e4 g4
theorem zkl{k:α->β->γ->zjj}(h:zbH (zzi A B C k ds dk) Q X):∃x y z,ds=[A.to x,B.to y,C.to z]∧dk=[]∧zbH (k x y z) Q X:=by
 left;refine zfA (zbE h) λx r1 e1 g1=>?_;refine zfA (zbE g1) λy r2 e2 g2=>?_;refine zfA (zbE g2) λz r3 e3 g3=>?_;obtain⟨e4,g4⟩:=zc1 g3;refine zbP (zc1 g4) λe5 g5=>?_;exact zxL x y z (by rw[e1,e2,e3,e4]) e5 g5
theorem zio{k:α->β->γ->zjj}(h:zbH (zsX A B C k ds dk) Q X):∃x y z,ds=[A.to x,B.to y]∧dk=[C.to z]∧zbH (k x y z) Q X:=by
 left;refine zfA (zbE h) λx r1 e1 g1=>?_;refine zfA (zbE g1) λy r2 e2 g2=>?_;obtain⟨e3,g3⟩:=zc1 g2;refine zfA (zbE g3) λz r4 e4 g4=>?_;obtain⟨e5,g5⟩:=zc1 g4;exact zxL x y z (by rw[e1,e2,e3]) (by rw[e4,e5]) g5
end
noncomputable def zcx:Fn:=zxb cS cI λs p=>gO (zxd s p) (some (.ok (.str (zbZ s p.toNat))))
noncomputable def za2:Fn:=zzi cS cI cS λs p m=>gO (zxd s p&&decide (m.length≤2000)) (some (.ok (.exc .toml (zcD s p.toNat m))))
noncomputable def zc8:Fn:=zzi cS cI cF λs p cs=>gO (zxd s p) (some (.ok (.int (zaE s cs p.toNat))))
noncomputable def za9:Fn:=zzc cI λn=>gO (decide (0≤n)) (some (.ok (.bool (zbM n.toNat))))
noncomputable def zbc:Fn:=zzi cS cI cI λs p k=>gO (zxd s p&&(decide (1≤k)&&decide (k≤8))) (some (toR (zi4 s p.toNat k.toNat)))
noncomputable def zbB:Fn:=zxb cS cI λs p=>gO (okB 350000 s p) (some (toR (ze0 s p.toNat false)))
noncomputable def zbb:Fn:=zsX cS cI cB λs p ml=>gO (okB 350000 s p&&(zx5||!ml)) (some (toR (ze0 s p.toNat ml)))
noncomputable def zaZ:Fn:=zxb cS cI λs p=>gO (okB 350000 s p&&zx5) (some (toR (ze0 s p.toNat true)))
noncomputable def zbj:Fn:=zsX cS cI cB λs p ml=>gO (okB 350000 s p&&(zx5||!ml)) (some (toR (zcm s ml p.toNat)))
noncomputable def za6:Fn:=zxb cS cI λs p=>gO (okB 340000 s p) (some (toR (zcm s false (p.toNat+1))))
noncomputable def zbg:Ctr:=⟨20,false,[],λds dk=>zbH (za2 ds dk)⟩
noncomputable def zcg:List (Str×Ctr):=[]
noncomputable def zdN:Ctr:=⟨10,true,[],λds dk=>zbH (zc8 ds dk)⟩
noncomputable def zdK:List (Str×Ctr):=(ofString "suffixed_err",zbg)::zcg
noncomputable def zbA:Ctr:=⟨10,true,[],λds dk=>zbH (za9 ds dk)⟩
noncomputable def za8:List (Str×Ctr):=(ofString "skip_chars",zdN)::zdK
noncomputable def zcq:Ctr:=⟨30,true,[],λds dk=>zbH (zbc ds dk)⟩
noncomputable def zcn:List (Str×Ctr):=(ofString "is_unicode_scalar_value",zbA)::za8
noncomputable def zbF:Ctr:=⟨40,true,[ofString "multiline"],λds dk=>zbH (zbb ds dk)⟩
noncomputable def zaU:List (Str×Ctr):=(ofString "parse_hex_char",zcq)::zcn
noncomputable def za0:Ctr:=⟨50,true,[],λds dk=>zbH (zaZ ds dk)⟩
noncomputable def zaH:List (Str×Ctr):=(ofString "parse_basic_str_escape",zbF)::zaU
noncomputable def zb4:Ctr:=⟨60,true,[ofString "multiline"],λds dk=>zbH (zbj ds dk)⟩
noncomputable def zbz:Ctr:=⟨40,true,[],λds dk=>zbH (zbB ds dk)⟩
noncomputable def zbi:List (Str×Ctr):=(ofString "parse_basic_str_escape",zbz)::(ofString "parse_basic_str_escape_multiline",za0)::zaH
noncomputable def zbs:Ctr:=⟨70,true,[],λds dk=>zbH (za6 ds dk)⟩
noncomputable def za5:List (Str×Ctr):=(ofString "parse_basic_str",zb4)::zbi
@[reducible]noncomputable def zdJ:PS:=(zaf (zeR (zcO (pe2 (zae 1) (pe1 (zae 0) zmy) (zll λx y=>decide (x ≥ y)))) (zaf (zbT (zag (.str [101,110,100,32,111,102,32,100,111,99,117,109,101,110,116]))) zap) zap) (zaf (zay 2 (pe2 (zdg (zae 0) (zab (zag (.str [10])) (zab (zag (.int 0)) (zab (zae 1) zaj))) zn9) (zag (.int 1)) zdb)) (zaf (zeR (zcO (pe2 (zae 2) (zag (.int 1)) eqP)) (zaf (zay 3 (pe2 (zae 1) (zag (.int 1)) zdb)) zap) (zaf (zay 3 (pe2 (zae 1) (zdg (zae 0) (zab (zag (.str [10])) (zab (zag (.int 0)) (zab (zae 1) zaj))) (zg6 false)) zpK)) zap)) (zaf (zbT (zjz [] [(zag (.str [108,105,110,101,32])),(pe1 (zae 2) zxg),(zag (.str [44,32,99,111,108,117,109,110,32])),(pe1 (zae 3) zxg)])) zap))))
@[reducible]noncomputable def zd4:PS:=(zaf (zzA 3) (zaf (zbT (zvq (zjz [] [(pe1 (zae 2) zxg),(zag (.str [32,40,97,116,32])),(pe1 (zAj zcx (zae 3) (zab (zae 0) (zab (zae 1) zaj))) zxg),(zag (.str [41]))]))) zap))
@[reducible]noncomputable def ze7:PS:=(zaf (zl4 (zaf (zdA (zcO (pe2 (zeY (zae 0) (zae 1)) (zae 2) inD)) (zaf (zdk 1 (zag (.int 1)) zdB) zap)) zap) [⟨.index,none,(zaf zap zap)⟩]) (zaf (zbT (zae 1)) zap))
@[reducible]noncomputable def zbC:PS:=(zaf (zbT (zzW (zmS (zag (.int 0)) (zae 0) (zag (.int 55295)) (zll λx y=>decide (x≤y)) (zll λx y=>decide (x≤y))) (zmS (zag (.int 57344)) (zae 0) (zag (.int 1114111)) (zll λx y=>decide (x≤y)) (zll λx y=>decide (x≤y))))) zap)
@[reducible]noncomputable def zdf:PS:=(zaf (zay 3 (zcQ (zae 0) (zih (zae 1)) (zih (pe2 (zae 1) (zae 2) zdb)))) (zaf (zeR (zzE (zcO (pe2 (pe1 (zae 3) zmy) (zae 2) neP)) (zzE (zl5 (zcO (zsr (zag zeL) (zab (zae 3) zaj) (zuO true)))) (zjd false))) (zaf (zeq (peK za2 (zab (zae 0) (zab (zae 1) (zab (zag (.str [73,110,118,97,108,105,100,32,104,101,120,32,118,97,108,117,101])) zaj))) zaj)) zap) zap) (zaf (zdk 1 (zae 2) zdB) (zaf (zay 4 (peN (zab (zae 3) (zab (zag (.int 16)) zaj)) intD)) (zaf (zeR (zl5 (zcO (peK za9 (zab (zae 4) zaj) zaj))) (zaf (zeq (peK za2 (zab (zae 0) (zab (zae 1) (zab (zag (.str [69,115,99,97,112,101,100,32,99,104,97,114,97,99,116,101,114,32,105,115,32,110,111,116,32,97,32,85,110,105,99,111,100,101,32,115,99,97,108,97,114,32,118,97,108,117,101])) zaj))) zaj)) zap) zap) (zaf (zbT (zev (zab (zae 1) (zab (peN (zab (zae 4) zaj) zzb) zaj)))) zap))))))
@[reducible]noncomputable def zaX:PS:=(zaf (zay 3 (zcQ (zae 0) (zih (zae 1)) (zih (pe2 (zae 1) (zag (.int 2)) zdb)))) (zaf (zdk 1 (zag (.int 2)) zdB) (zaf (zeR (zfY (zcO (zae 2)) (zfY (zsl (zae 3) [[92,32],[92,9],[92,10]]) (zjd true))) (zaf (zeR (zcO (pe2 (zae 3) (zag (.str [92,10])) neP)) (zaf (zay 1 (peK zc8 (zab (zae 0) (zab (zae 1) (zab (zag zmg) zaj))) zaj)) (zaf (zl4 (zaf (zay 4 (zeY (zae 0) (zae 1))) zap) [⟨.index,none,(zaf (zbT (zev (zab (zae 1) (zab (zag (.str [])) zaj)))) zap)⟩]) (zaf (zeR (zcO (pe2 (zae 4) (zag (.str [10])) neP)) (zaf (zeq (peK za2 (zab (zae 0) (zab (zae 1) (zab (zag (.str [85,110,101,115,99,97,112,101,100,32,39,92,39,32,105,110,32,97,32,115,116,114,105,110,103])) zaj))) zaj)) zap) zap) (zaf (zdk 1 (zag (.int 1)) zdB) zap)))) zap) (zaf (zay 1 (peK zc8 (zab (zae 0) (zab (zae 1) (zab (zag zc9) zaj))) zaj)) (zaf (zbT (zev (zab (zae 1) (zab (zag (.str [])) zaj)))) zap))) zap) (zaf (zeR (zcO (pe2 (zae 3) (zag (.str [92,117])) eqP)) (zaf (zbT (peK zbc (zab (zae 0) (zab (zae 1) (zab (zag (.int 4)) zaj))) zaj)) zap) zap) (zaf (zeR (zcO (pe2 (zae 3) (zag (.str [92,85])) eqP)) (zaf (zbT (peK zbc (zab (zae 0) (zab (zae 1) (zab (zag (.int 8)) zaj))) zaj)) zap) zap) (zaf (zl4 (zaf (zbT (zev (zab (zae 1) (zab (zwu true (zae 3)) zaj)))) zap) [⟨.key,none,(zaf (zeq (peK za2 (zab (zae 0) (zab (zae 1) (zab (zag (.str [85,110,101,115,99,97,112,101,100,32,39,92,39,32,105,110,32,97,32,115,116,114,105,110,103])) zaj))) zaj)) zap)⟩]) zap))))))
@[reducible]noncomputable def zbp:PS:=(zaf (zbT (peK zbb (zab (zae 0) (zab (zae 1) zaj)) (zab (zag (.bool true)) zaj))) zap)
@[reducible]noncomputable def zb5:PS:=(zaf (zeR (zcO (zae 2)) (zaf (zay 3 (zag zbm)) (zaf (zay 4 (zag zbq)) zap)) (zaf (zay 3 (zag zcf)) (zaf (zay 4 (zag zcu)) zap))) (zaf (zay 5 (zag (.str []))) (zaf (zay 6 (zae 1)) (zaf (zdA (zcO (zag (.bool true))) (zaf (zl4 (zaf (zay 7 (zeY (zae 0) (zae 1))) zap) [⟨.index,none,(zaf (zeq (peK za2 (zab (zae 0) (zab (zae 1) (zab (zag (.str [85,110,116,101,114,109,105,110,97,116,101,100,32,115,116,114,105,110,103])) zaj))) zaj)) zap)⟩]) (zaf (zeR (zcO (pe2 (zae 7) (zag (.str [34])) eqP)) (zaf (zeR (zl5 (zcO (zae 2))) (zaf (zbT (zev (zab (pe2 (zae 1) (zag (.int 1)) zdb) (zab (pe2 (zae 5) (zcQ (zae 0) (zih (zae 6)) (zih (zae 1))) zdb) zaj)))) zap) zap) (zaf (zeR (zcO (zdg (zae 0) (zab (zag (.str [34,34,34])) (zab (zae 1) zaj)) zdY)) (zaf (zbT (zev (zab (pe2 (zae 1) (zag (.int 3)) zdb) (zab (pe2 (zae 5) (zcQ (zae 0) (zih (zae 6)) (zih (zae 1))) zdb) zaj)))) zap) zap) (zaf (zdk 1 (zag (.int 1)) zdB) (zaf znR zap)))) zap) (zaf (zeR (zcO (pe2 (zae 7) (zag (.str [92])) eqP)) (zaf (zdk 5 (zcQ (zae 0) (zih (zae 6)) (zih (zae 1))) zdB) (zaf (zeH [1,8] (peC (zaz zbi) 50 true (zae 4) (zab (zae 0) (zab (zae 1) zaj)) [] zaj)) (zaf (zdk 5 (zae 8) zdB) (zaf (zay 6 (zae 1)) (zaf znR zap))))) zap) (zaf (zeR (zcO (pe2 (zae 7) (zae 3) inD)) (zaf (zeq (peK za2 (zab (zae 0) (zab (zae 1) (zab (zjz [] [(zag (.str [73,108,108,101,103,97,108,32,99,104,97,114,97,99,116,101,114,32])),(pe1 (zae 7) zwg)]) zaj))) zaj)) zap) zap) (zaf (zdk 1 (zag (.int 1)) zdB) zap)))))) zap))))
@[reducible]noncomputable def zb9:PS:=(zaf (zdk 1 (zag (.int 1)) zdB) (zaf (zbT (peK zbj (zab (zae 0) (zab (zae 1) zaj)) (zab (zag (.bool false)) zaj))) zap))
noncomputable def zzo(p:Program)(i:Nat)(S:St0):LF:=⟨ofString "coord_repr",zuT p i,zon p i,zh3 p i,(S.mg "__name__").getD .none⟩
theorem zew{l:List Nat}(h:∀c∈l,c<1114112):okD (.str l)=true:=by
 show SeqAt.shaped (.str (mk l))=true;unfold SeqAt.shaped PyData.canLay0 PyData.strOk;simp[mk,PyData.depth];exact h
theorem zkb(i:Int):okD (.int i)=true:=rfl
theorem znY(x y:List Nat):eqD (.str x) (.str y)=decide (x=y):=by
 show(mk x==mk y)=_;by_cases h:x=y
 ·subst h;simp
 ·rw[decide_eq_false h]
  exact beq_eq_false_iff_ne.mpr λe=>h (zlG e)
theorem zp9(x y:Int):eqD (.int x) (.int y)=decide (x=y):=by
 show(x==y)=_;rw[Bool.beq_eq_decide_eq]
set_option tactic.hygienic true in
theorem zoz{s:List Nat}{p:Nat}{Q:Res->Prop}{X:Err->Prop}(h:p≤1000000)(q:match s[p]? with|some c=>Q (.pl (.str [c]))|none=>∀m,X (.index,m)):zf4 s p Q X:=by
 unfold zf4;refine⟨by simp;omega,?_⟩;have:(seqIndex? (p:Int) s.length).bind (s[·]?)=s[p]?:=by
  unfold seqIndex?;simp only[show ¬((p:Int)<0)from by omega,if_false]
  split
  ·simp
  ·rename_i hn
   have:s.length≤p:=by
    simp at hn;exact hn
   simp only[Option.bind_none];exact(List.getElem?_eq_none this).symm
 rw[this];exact q
theorem zcs{s:List Nat}(h:okT s=true):s.length≤300000:=by
 unfold okT at h;simp at h;exact h.1
theorem zh6{s:List Nat}(h:okT s=true){c:Nat}(hc:c∈s):c<1114112∧(zfz [c]).length≤1000:=by
 unfold okT at h;simp at h;exact h.2 c hc
theorem zeT{B:Nat}{s:List Nat}{p:Int}(h:okB B s p=true):∃n:Nat,p=n∧n≤B∧okT s=true:=by
 unfold okB at h;simp at h;refine zfh (Int.eq_ofNat_of_zero_le h.2.1) λn hzz=>?_;subst hzz;exact zf8 n rfl (by omega) h.1
theorem zhK{s:List Nat}{p:Int}(h:zxd s p=true):∃n:Nat,p=n∧n≤400000∧okT s=true:=zeT h
theorem zhu{B:Nat}{s:List Nat}{p:Nat}(hs:okT s=true)(hp:p≤B):okB B s (p:Nat)=true:=by
 unfold okB;rw[hs,decide_eq_true (by lia:(0:Int)≤(p:Nat)),decide_eq_true (by lia:((p:Nat):Int)≤(B:Nat))];rfl
theorem zla{s:List Nat}{p:Nat}(hs:okT s=true)(hp:p≤400000):zxd s (p:Nat)=true:=zhu hs hp
theorem zyJ(l:List D):zjs (.lst l)=if l.length≤1000000 then some (!l.isEmpty)else Option.none:=rfl
theorem zwI(l:List Nat)(lo hi:Option Int)(Q:Res->Prop):zgv l lo hi Q=(l.length≤LIM∧Q (.pl (.str (zbk l lo hi)))):=by unfold zgv;rfl
theorem zAZ(l p:List Nat)(i j:Int)(Q:Res->Prop)(X:Err->Prop):zn9 l [.str p,.int i,.int j] Q X=Q (.pl (.int (ziY l p (zfZ l.length i) (min (zfZ l.length j) l.length)).length)):=rfl
theorem zAo(c:Bool)(l p:List Nat)(i j:Int)(Q:Res->Prop)(X:Err->Prop):zg6 c l [.str p,.int i,.int j] Q X=zsE X Q c (zhC l p (zfZ l.length i) (min (zfZ l.length j) l.length)):=rfl
theorem zcd{s:List Nat}{p c:Nat}(h:s[p]?=some c):s.drop p=c::s.drop (p+1):=by
 obtain⟨h1,h2⟩:=yo.mp h;rw[List.drop_eq_getElem_cons h1,h2]
theorem ziF{s:List Nat}{p:Nat}(h:s[p]?=none):s.drop p=[]:=List.drop_eq_nil_iff.mpr (List.getElem?_eq_none_iff.mp h)
theorem zdw{s:List Nat}{cs:List (List Nat)}{p:Nat}(h:s[p]?=none):zaE s cs p=p:=by unfold zaE;rw[ziF h];rfl
theorem zdT{s:List Nat}{cs:List (List Nat)}{p c:Nat}(h:s[p]?=some c)(hc:[c]∈cs):zaE s cs p=zaE s cs (p+1):=by
 unfold zaE;rw[zcd h,List.takeWhile_cons,if_pos (by exact decide_eq_true hc)];simp;lia
theorem zeb{s:List Nat}{cs:List (List Nat)}{p c:Nat}(h:s[p]?=some c)(hc:¬[c]∈cs):zaE s cs p=p:=by
 unfold zaE;rw[zcd h,List.takeWhile_cons,if_neg (by simpa using hc)];rfl
theorem zfo{t:PT}{b:PS}{Q:Fl->Sl->Prop}{X:Err->Sl->Prop}{st:Sl}(n:Nat)(I:Nat->Sl->Prop)(h0:I n st)(hs:∀n st,I n st->zyx t b Q X (λst'=>∃m,m<n∧I m st') st):zdA t b Q X st:=by unfold zdA;exact⟨n,I,h0,hs⟩
theorem zc7{s:List Nat}{p c:Nat}{Q:Res->Prop}{X:Err->Prop}(hc:s[p]?=some c)(h:p≤1000000)(k:Q (.pl (.str [c]))):zf4 s (p:Nat) Q X:=zoz h (by rw[hc];exact k)
theorem zgi{s:List Nat}{p:Nat}{Q:Res->Prop}{X:Err->Prop}(hc:s[p]?=none)(h:p≤1000000)(k:∀m,X (.index,m)):zf4 s (p:Nat) Q X:=zoz h (by rw[hc];exact k)
theorem zaK{s:List Nat}{p c:Nat}(h:s[p]?=some c):p<s.length:=(yo.mp h).1
theorem zy6{n q:Nat}(h:q<n):n+1-(q+1)<n+1-q:=Nat.sub_lt_sub_left (Nat.lt_succ_of_lt h) (yO q)
theorem zrE{s:List Nat}{p:Nat}{cs:List (List Nat)}{Q:D->Prop}{X:Err->Prop}(hs:okT s=true)(hp1:p≤400000)(h:Q (.int (zaE s cs p:Nat))):zf7 ze7 0 [.str s,.int (p:Nat),.fset cs] Q X:=by
 refine zfo (s.length+1-p) (λn st=>∃q:Nat,st=[.val (.str s),.val (.int q),.val (.fset cs)]∧zaE s cs q=zaE s cs p∧q≤400000∧n=s.length+1-q) (zwj p rfl rfl hp1 rfl) λn st hI=>?_;refine zu8 hI λq hst h1 h2 h3=>?_;subst hst h3;have hq:q≤1000000:=yj h2 (by decide);left;cases hc:s[q]? with
 |none=>
  rw[←h1,zdw hc]at h;exact zgi hc hq λm=>h
 |some c=>
  refine zc7 hc hq ?_;by_cases hm:[c]∈cs
  ·have hlt:=zaK hc
   exact za4 (yt hm) ⟨_,zy6 hlt,q+1,rfl,(zdT hc hm).symm.trans h1,yj hlt (yj (zcs hs) (by decide)),rfl⟩
  ·rw[←h1,zeb hc hm]at h
   exact zaY (yv hm) h
theorem zxu(ds dk:List D)(Q:D->Prop)(X:Err->Prop)(h:zbH (zc8 ds dk) Q X):ds.length+0=3∧zf7 ze7 0 (ds++dk) Q X:=by
 left;obtain⟨s,p,cs,rfl,rfl,h⟩:=zkl h;refine zbP (zdM h) λhp h=>?_;refine zcN (zhK hp) λp hzz hp1 hs=>?_;subst hzz;exact⟨rfl,zrE hs hp1 (zfR h)⟩
theorem zmN{a b:Nat}:decide (((a:Nat):Int)≤((b:Nat):Int))=decide (a≤b):=by
 by_cases h:a≤b
 ·rw[decide_eq_true h,decide_eq_true (Int.ofNat_le.mpr h)]
 ·rw[decide_eq_false h,decide_eq_false λz=>h (Int.ofNat_le.mp z)]
theorem znt{n:Nat}{Q:D->Prop}{X:Err->Prop}(h:Q (.bool (zbM n))):zf7 zbC 0 [.int (n:Nat)] Q X:=by
 refine za4 (c:=decide ((0:Int)≤(n:Nat))) (yt (yz n)) ?_;by_cases h1:n≤55295
 ·have e:decide (((n:Nat):Int)≤55295)=true:=zmN.trans (yt h1)
  refine za4 (c:=decide (((n:Nat):Int)≤55295)) e ?_;show Q (.bool (decide (((n:Nat):Int)≤55295)));rw[e,show true=zbM n by unfold zbM;rw[decide_eq_true h1];rfl];exact h
 ·have e:decide (((n:Nat):Int)≤55295)=false:=zmN.trans (yv h1)
  refine zaY (c:=decide (((n:Nat):Int)≤55295)) e ?_;have hs:zbM n=(decide (57344≤n)&&decide (n≤1114111)):=by unfold zbM;rw[decide_eq_false h1];rfl
  rw[hs]at h;by_cases h2:57344≤n
  ·refine za4 (c:=decide ((57344:Int)≤(n:Nat))) (zmN.trans (yt h2)) ?_
   show Q (.bool (decide (((n:Nat):Int)≤((1114111:Nat):Int))));rw[decide_eq_true h2]at h;rw[zmN];exact h
  ·rw[decide_eq_false h2]at h
   exact zaY (c:=decide ((57344:Int)≤(n:Nat))) (zmN.trans (yv h2)) h
theorem ztX(ds dk:List D)(Q:D->Prop)(X:Err->Prop)(h:zbH (za9 ds dk) Q X):ds.length+0=1∧zf7 zbC 0 (ds++dk) Q X:=by
 obtain⟨n,rfl,rfl,h⟩:=znU h;obtain⟨hp,h⟩:=zdM h;obtain⟨n,rfl⟩:=Int.eq_ofNat_of_zero_le (yC hp);exact⟨rfl,znt (zfR h)⟩
theorem zsx(s:List Nat)(c hi i:Nat):zdz s [c] hi i=(decide (i<hi)&&decide (s[i]?=some c)):=by
 unfold zdz;have:((s.drop i).take [c].length == [c])=decide (s[i]?=some c):=by
  cases h:s[i]? with
  |none=>rw[ziF h];simp
  |some d=>rw[zcd h];simp[List.take_cons,Bool.beq_eq_decide_eq]
 rw[this];rfl
theorem zvw(s:List Nat)(c hi:Nat):∀(k i f:Nat),f≤i->zhy s [c] hi (List.range' i k) f=(List.range' i k).filter (zdz s [c] hi)
 |0,i,f,h=>rfl
 |k+1,i,f,h=>by
  rw[List.range'_succ,zhy,List.filter_cons];have:=yt h;simp only[this,Bool.true_and];cases q:zdz s [c] hi i with
  |true=>simp only[if_true];simp only[show i + [c].length=i+1 from rfl,zvw s c hi k (i+1) (i+1) (Nat.le_refl _)]
  |false=>simp only[Bool.false_eq_true,if_false];exact zvw s c hi k (i+1) f (by lia)
theorem zjX{s:List Nat}{n:Nat}(h:n<s.length):s.take (n+1)=s.take n++[s[n]]:=by
 rw[List.take_add_one,List.getElem?_eq_getElem h];rfl
theorem zh4(s:List Nat)(c:Nat):∀n,n≤s.length->((List.range n).filter λi=>decide (s[i]?=some c)).length=(s.take n).count c
 |0,_=>by simp
 |n+1,h=>by
  rw[List.range_succ,List.filter_append,List.length_append,zh4 s c n (by lia),zjX (by omega),List.count_append,List.count_singleton];have:s[n]?=some s[n]:=ys (by omega);rw[List.filter_cons,this];by_cases q:s[n]=c
  ·simp[q]
  ·simp[q]
theorem zuD(s:List Nat)(c p:Nat):(List.range' 0 (p+1)).filter (zdz s [c] p)=(List.range p).filter λi=>decide (s[i]?=some c):=by
 simp only[←List.range_eq_range',List.range_succ,List.filter_append,List.filter_cons,zsx];simp only[Nat.lt_irrefl,decide_false,Bool.false_and,Bool.false_eq_true,if_false,List.filter_nil,List.append_nil];refine List.filter_congr λi hi=>?_;simp only[zsx,decide_eq_true (List.mem_range.mp hi),Bool.true_and]
theorem zz6{s:List Nat}{c p:Nat}(h:p≤s.length):(ziY s [c] 0 p).length=(s.take p).count c:=by
 unfold ziY;rw[zvw _ _ _ _ _ _ (Nat.le_refl _),Nat.sub_zero,zuD,zh4 s c p h]
theorem zjt(s:List Nat)(c:Nat):∀n,n≤s.length->(List.range n).reverse.find? (λi=>decide (s[i]?=some c))=if c∈s.take n then some (n-1-((s.take n).reverse.takeWhile (· != c)).length)else none
 |0,_=>rfl
 |n+1,h=>by
  rw[List.range_succ,List.reverse_append,List.reverse_singleton,List.singleton_append,List.find?_cons,zjX (by omega),List.reverse_append,List.reverse_singleton,List.singleton_append,List.takeWhile_cons];have:s[n]?=some s[n]:=ys (by omega);rw[this];by_cases q:s[n]=c
  ·simp[q]
  ·have q':¬c=s[n]:=λz=>q z.symm
   simp only[Option.some.injEq,q,decide_false,List.mem_append,List.mem_singleton,q',or_false];rw[zjt s c n (by lia)];simp only[bne_iff_ne,ne_eq,q,not_false_eq_true,if_true,List.length_cons];by_cases m:c∈s.take n
   ·rw[if_pos m,if_pos m];congr 1;lia
   ·rw[if_neg m,if_neg m]
theorem zzk{s:List Nat}{c p:Nat}(h:p≤s.length):zhC s [c] 0 p=if c∈s.take p then some (p-1-((s.take p).reverse.takeWhile (· != c)).length)else none:=by
 unfold zhC;rw[Nat.sub_zero,←List.range_eq_range',List.range_succ,List.reverse_append,List.reverse_singleton,List.singleton_append,List.find?_cons,zsx,←zjt s c p h];simp only[Nat.lt_irrefl,decide_false,Bool.false_and];have:∀l:List Nat,(∀i∈l,i<p)->l.find? (zdz s [c] p)=l.find? λi=>decide (s[i]?=some c):=λl=>by
  induction l with
  |nil=>intro _;rfl
  |cons i l ih=>
   intro hl;rw[List.find?_cons,List.find?_cons,zsx,decide_eq_true (hl i List.mem_cons_self),Bool.true_and,ih λj hj=>hl j (List.mem_cons_of_mem _ hj)]
 exact this _ λi hi=>by simpa using hi
theorem zyk{c:Nat}:∀{l:List Nat},c∈l->(l.takeWhile (· != c)).length<l.length
 |[],h=>by exact zb7 h
 |d::l,h=>by
  rw[List.takeWhile_cons];by_cases q:d=c
  ·simp[q]
  ·have:=zyk (c:=c) (l:=l) (by rcases yx.mp h with z|z;exact absurd z.symm q;exact z)
   simp[q];exact this
theorem zov{c:Nat}:∀{l:List Nat},c∉l->l.takeWhile (· != c)=l
 |[],h=>rfl
 |d::l,h=>by
  rw[List.takeWhile_cons,if_pos (by simp;exact λe=>h (e▸List.mem_cons_self)),zov λq=>h (List.mem_cons_of_mem _ q)]
theorem zeW{n:Nat}(h:n≤1000000):(zby n).length≤7:=by
 have:=toString_length_le (v:=(n:Int)) (k:=7) (by lia) (by decide) (by lia);unfold zby;rw[show(Str.ofString (toString (n:Int))).cps.toList.length=(Str.ofString (toString (n:Int))).length from rfl];exact this
theorem zic{i:Int}(h:i.natAbs≤1000000):i.natAbs.log2<1920:=by
 have:=Nat.log2_lt (n:=i.natAbs) (k:=1920);by_cases z:i.natAbs=0
 ·rw[z];decide
 ·rw[this z]
  exact yU h (yy (by decide:1000000<2^20) (Nat.pow_le_pow_right (by decide) (by decide)))
theorem zno(s:List Nat)(p:Nat):zea s p≤s.length+1:=by
 unfold zea;have:=List.count_le_length (a:=10) (l:=s.take p);rw[List.length_take]at this;exact yD (yj this (Nat.min_le_right ..))
theorem zqu(s:List Nat)(p:Nat):zkW s p≤s.length+1:=by
 unfold zkW;have:=(List.takeWhile_sublist (l:=(s.take p).reverse) (· != 10)).length_le;rw[List.length_reverse,List.length_take]at this;exact yD (yj this (Nat.min_le_right ..))
theorem zis{s:List Nat}(h:s.length≤300000)(p:Nat):(zbZ s p).length≤100:=by
 unfold zbZ
 split
 ·decide
 ·have h1:=zeW (n:=zea s p) (yj (zno s p) (yj (yD h) (by decide)))
  have h2:=zeW (n:=zkW s p) (yj (zqu s p) (yj (yD h) (by decide)));simp only[List.length_append];have:zfI.length=5:=rfl;have:zna.length=9:=rfl;lia
theorem zee(n p:Nat):zfZ n (p:Int)=p:=by unfold zfZ;rw[if_neg (Int.not_lt.mpr (Int.natCast_nonneg p))];rfl
theorem za3{n:Nat}(h:n≤1000000):n≤LIM:=h
theorem zb6{α:Type}{x y:List α}{a b n:Nat}(hx:x.length≤a)(hy:y.length≤b)(h:a+b≤n):(x++y).length≤n:=by rw[List.length_append];exact yj (ye hx hy) h
theorem zbv{x y a b n:Nat}(hx:x≤a)(hy:y≤b)(h:a+b≤n):x+y≤n:=yj (ye hx hy) h
theorem ztc{s:List Nat}{p:Nat}(h:p≤s.length)(Q:Res->Prop)(X:Err->Prop):zn9 s [.str [10],.int 0,.int (p:Nat)] Q X=Q (.pl (.int ((s.take p).count 10:Nat))):=by
 rw[zAZ,zee s.length p,Nat.min_eq_left h,show zfZ s.length 0=0 from zee s.length 0,zz6 h]
theorem zyq{s:List Nat}{p:Nat}(h:p≤s.length)(c:Bool)(Q:Res->Prop)(X:Err->Prop):zg6 c s [.str [10],.int 0,.int (p:Nat)] Q X=zsE X Q c (if 10∈s.take p then some (p-1-((s.take p).reverse.takeWhile (· != 10)).length)else none):=by
 rw[zAo,zee s.length p,Nat.min_eq_left h,show zfZ s.length 0=0 from zee s.length 0,zzk h]
theorem zpa{a b:Nat}:decide (((a:Nat):Int) ≥ ((b:Nat):Int))=decide (b≤a):=zmN
theorem zq6{s:List Nat}{p:Nat}{Q:D->Prop}(hl:s.length≤300000)(h:Q (.str (zfI++zby (zea s p)++zna++zby (zkW s p)))):0+zfI.length≤LIM∧((zea s p:Nat):Int).natAbs.log2<1920∧zfI.length+(zby (zea s p)).length≤LIM∧(zfI++zby (zea s p)).length+zna.length≤LIM∧((zkW s p:Nat):Int).natAbs.log2<1920∧(zfI++zby (zea s p)++zna).length+(zby (zkW s p)).length≤LIM ∧
  Q (.str (zfI++zby (zea s p)++zna++zby (zkW s p))):=by
 have h1:zea s p≤1000000:=yj (zno s p) (yj (yD hl) (by decide));have h2:zkW s p≤1000000:=yj (zqu s p) (yj (yD hl) (by decide));have l1:=zeW h1;have l2:=zeW h2;have a1:(zfI++zby (zea s p)).length≤12:=zb6 (a:=5) (yq 5) l1 (by decide);have a2:(zfI++zby (zea s p)++zna).length≤21:=zb6 (b:=9) a1 (yq 9) (by decide);exact⟨by decide,zic h1,zbv (a:=5) (yq 5) l1 (by decide),zbv (b:=9) a1 (yq 9) (by decide),zic h2,zbv a2 l2 (by decide),h⟩
theorem zy2{p k:Nat}(h:k<p):(p:Int)-((p-1-k:Nat):Int)=(k+1:Nat):=by
 refine zfh (Nat.le.dest h) λd hzz=>?_;subst hzz;rw[Nat.sub_sub,Nat.add_comm 1 k,Nat.succ_eq_add_one,Nat.add_sub_cancel_left,Int.natCast_add (k+1) d,Int.add_sub_cancel]
theorem zo9{s:List Nat}{p:Nat}{Q:D->Prop}{X:Err->Prop}(hs:okT s=true)(h:Q (.str (zbZ s p))):zf7 zdJ 2 [.str s,.int (p:Nat)] Q X:=by
 have hl:=zcs hs;refine yl (yj hl (by decide)) ?_;unfold zbZ at h;by_cases hc:s.length≤p
 ·rw[if_pos hc]at h
  exact za4 (zpa.trans (yt hc)) h
 ·rw[if_neg hc]at h
  have hp:p≤s.length:=yc (xd hc);refine zaY (zpa.trans (yv hc)) ((ztc hp _ _).mpr ?_);have F:=zq6 hl h;refine yl (zkb _) (yl (zkb _) ?_);by_cases h1:zea s p=1
  ·have hcount:(s.take p).count 10=0:=Nat.succ.inj h1
   have hk:zkW s p=p+1:=by
    unfold zkW;rw[zov (by rw[List.mem_reverse];exact List.count_eq_zero.mp hcount),List.length_reverse,List.length_take,Nat.min_eq_left hp]
   rw[hk]at F;exact za4 (c:=eqD (.int (zea s p)) (.int 1)) ((zp9 _ _).trans (yt (ya Int.ofNat h1))) F
  ·have hm:10∈s.take p:=by
    rw[←List.count_pos_iff];exact Nat.pos_of_ne_zero λz=>h1 (ya Nat.succ z)
   refine zaY (c:=eqD (.int (zea s p)) (.int 1)) ((zp9 _ _).trans (yv λz=>h1 (Int.ofNat.inj z))) ((zyq hp _ _ _).mpr (zsh (if_pos hm) ?_));have hk:(p:Int)-((p-1-((s.take p).reverse.takeWhile (· != 10)).length:Nat):Int)=(zkW s p:Nat):=by
    unfold zkW;have:=zyk (c:=10) (l:=(s.take p).reverse) (by simpa using hm);rw[List.length_reverse,List.length_take]at this;exact zy2 (yy this (Nat.min_le_left ..))
   rw[←hk]at F;exact F
theorem zwx(ds:List D)(Q:D->Prop)(X:Err->Prop)(h:zbH (zcx ds []) Q X):ds.length=2∧zf7 zdJ 2 ds Q X:=by
 refine zfQ (zgg h) λs p hzz _ h=>?_;subst hzz;refine zbP (zdM h) λhp h=>?_;refine zcN (zhK hp) λp hzz hp1 hs=>?_;subst hzz;exact⟨rfl,zo9 hs (zfR h)⟩
theorem zup{s:List Nat}{p:Nat}{Q:D->Prop}{X:Err->Prop}(hs:okT s=true)(hp:p≤400000)(h:Q (.str (zbZ s p))):zbH (zcx [.str s,.int (p:Nat)] []) Q X:=zgn (zla hs hp) ((zcw ..).mpr h)
theorem zq9{s m:List Nat}{p:Nat}{Q:D->Prop}{X:Err->Prop}(hs:okT s=true)(hp:p≤400000)(hm:m.length≤2000)(h:Q (.exc .toml (zcD s p m))):zf7 zd4 1 [.str s,.int (p:Nat),.str m] Q X:=by
 have hc:=zis (zcs hs) p;have a1:([]++m).length≤2000:=hm;have a2:([]++m++zvU).length≤2005:=zb6 (b:=5) a1 (yq 5) (by decide);have a3:([]++m++zvU++zbZ s p).length≤2105:=zb6 a2 hc (by decide);refine yl (za3 (yj hm (by decide))) (yl (za3 (zbv (yq 0) hm (by decide))) (yl (za3 (zbv (b:=5) a1 (yq 5) (by decide))) (zup hs hp ?_)));exact⟨za3 (yj hc (by decide)),za3 (zbv a2 hc (by decide)),za3 (zbv (b:=1) a3 (yq 1) (by decide)),h⟩
theorem zyK(ds dk:List D)(Q:D->Prop)(X:Err->Prop)(h:zbH (za2 ds dk) Q X):ds.length+0=3∧zf7 zd4 1 (ds++dk) Q X:=by
 left;obtain⟨s,p,m,rfl,rfl,h⟩:=zkl h;refine zbP (zdM h) λhp h=>?_;obtain⟨hp,hm⟩:=yu.mp hp;refine zcN (zhK hp) λp hzz hp1 hs=>?_;subst hzz;exact⟨rfl,zq9 hs hp1 (yC hm) (zfR h)⟩
theorem zx8{s:List Nat}(p q:Nat):zbk s (some (p:Int)) (some (q:Int))=cut s p q:=by
 unfold zbk cut zaT;dsimp only;rw[if_neg (Int.not_lt.mpr (Int.natCast_nonneg p)),if_neg (Int.not_lt.mpr (Int.natCast_nonneg q)),zc5,zc5];rcases Nat.le_total p s.length with h|h
 ·rw[Nat.min_eq_left h]
  rcases Nat.le_total q s.length with k|k
  ·rw[Nat.min_eq_left k]
  ·rw[Nat.min_eq_right k,List.take_of_length_le (Nat.le_of_eq List.length_drop),List.take_of_length_le (Nat.le_trans (Nat.le_of_eq List.length_drop) (Nat.sub_le_sub_right k p))]
 ·rw[Nat.min_eq_right h,List.drop_of_length_le (Nat.le_refl s.length),List.drop_of_length_le h,List.take_nil,List.take_nil]
theorem zkS(s:List Nat)(p q:Nat):(cut s p q).length≤q-p:=by unfold cut;rw[List.length_take];lia
theorem zsN(s:List Nat)(p q:Nat):(cut s p q).length≤s.length:=by unfold cut;rw[List.length_take,List.length_drop];exact yj (Nat.min_le_right ..) (Nat.sub_le ..)
theorem zqF{s:List Nat}{p q c:Nat}(h:c∈cut s p q):∃i,p≤i∧i<q∧s[i]?=some c:=by
 unfold cut at h;refine zfh (List.getElem?_of_mem h) λi hi=>?_;rw[List.getElem?_take]at hi
 split at hi
 ·rw[List.getElem?_drop]at hi
  exact⟨p+i,yN ..,Nat.add_lt_of_lt_sub' (by assumption),hi⟩
 ·exact zad hi
theorem ziX{s:List Nat}{p c:Nat}(h:s[p]?=some c):cut s p (p+1)=[c]:=by
 unfold cut;rw[zcd h,Nat.add_sub_cancel_left];rfl
theorem zj8(s:List Nat)(p:Nat):cut s p p=[]:=by unfold cut;simp
theorem zk1{s:List Nat}{p q c:Nat}(hpq:p≤q)(h:s[q]?=some c):cut s p (q+1)=cut s p q++[c]:=by
 unfold cut;rw[Nat.succ_sub (by assumption),List.take_add_one,List.getElem?_drop,Nat.add_sub_cancel' (by assumption),h];rfl
theorem zyT{s:List Nat}(hs:okT s=true)(p q:Nat):(cut s p q).length≤300000:=yj (zsN s p q) (zcs hs)
theorem zxH{n:Nat}(h:n≤300000):n≤1000000:=yj h (by decide)
theorem zyU{n:Nat}(h:n≤300000):n≤400000:=yj h (by decide)
theorem zug(s:List Nat)(p q:Nat):(cut s p q).length≤s.length-p:=by unfold cut;rw[List.length_take,List.length_drop];exact Nat.min_le_right ..
theorem zfl{s:List Nat}{p k:Nat}(hk:1≤k)(h:(cut s p (p+k)).length=k):p+k≤s.length:=by
 have g:=zug s p (p+k);rw[h]at g;exact Nat.add_le_of_le_sub' (yc (Nat.lt_of_sub_pos (yy hk g))) g
theorem zdL{s:List Nat}{p q:Nat}{Q:Res->Prop}(hs:okT s=true)(k:Q (.pl (.str (cut s p q)))):zgv s (some (p:Nat)) (some (q:Nat)) Q:=by
 unfold zgv;refine⟨za3 (yj (zcs hs) (by decide)),?_⟩;rw[zx8];exact k
theorem zep{s:List Nat}{p:Nat}{m:List Nat}{Q:D->Prop}{X:Err->Prop}(hs:okT s=true)(hp:p≤400000)(hm:m.length≤2000)(h:Q (.exc .toml (zcD s p m))):zbH (za2 [.str s,.int (p:Nat),.str m] []) Q X:=zgn (by rw[zla hs hp,decide_eq_true hm];rfl) ((zcw ..).mpr h)
theorem znq{s:List Nat}{p:Nat}{cs:List (List Nat)}{Q:D->Prop}{X:Err->Prop}(hs:okT s=true)(hp:p≤400000)(h:Q (.int (zaE s cs p:Nat))):zbH (zc8 [.str s,.int (p:Nat),.fset cs] []) Q X:=zgn (zla hs hp) ((zcw ..).mpr h)
theorem zw5{n:Nat}{Q:D->Prop}{X:Err->Prop}(h:Q (.bool (zbM n))):zbH (za9 [.int (n:Nat)] []) Q X:=zgn (yt (yz n)) ((zcw ..).mpr h)
noncomputable def zh7(r:R)(Q:D->Prop)(X:Err->Prop):Prop:=match r with
 |.ok (p,t)=>Q (.tup [.int (p:Nat),.str t])
 |.error m=>X (.toml,m)
theorem zcc(r:R)(Q:D->Prop)(X:Err->Prop):zbH (some (toR r)) Q X=zh7 r Q X:=by
 induction r with
 |ok x=>exact zcw ..
 |error m=>exact zmZ ..
theorem zu3{a b:Nat}(h:a≤b):decide (((a:Nat):Int)≤((b:Nat):Int))=true:=zmN.trans (yt h)
theorem zvi{s:List Nat}{p k:Nat}{Q:D->Prop}{X:Err->Prop}(hs:okT s=true)(hp:p≤400000)(hk:1≤k)(hk':k≤8)(h:zh7 (zi4 s p k) Q X):zbH (zbc [.str s,.int (p:Nat),.int (k:Nat)] []) Q X:=
 zgn (by rw[zla hs hp,show decide ((1:Int)≤(k:Nat))=true from zu3 hk,show decide (((k:Nat):Int)≤8)=true from zu3 hk'];rfl) ((zcc ..).mpr h)
theorem zyd(c:Nat):decide ([c]∈zuS.map λc=>[c])=zbr c:=by
 by_cases h:c<128
 ·have:∀c:Fin 128,decide ([c.1]∈zuS.map λc=>[c])=zbr c.1:=by right
  exact this ⟨c,h⟩
 ·have h1:¬[c]∈zuS.map λc=>[c]:=λq=>by
   refine za1 (List.mem_map.mp q) λd hd e=>?_;have:∀d∈zuS,d<128:=by decide
   have e:=(yM e).1;exact h (e▸this d hd)
  rw[decide_eq_false h1];have h2:zbr c=false:=by
   unfold zbr;rw[decide_eq_false λz=>h (Nat.lt_of_le_of_lt z (by decide):c<128),decide_eq_false λz=>h (Nat.lt_of_le_of_lt z (by decide):c<128),decide_eq_false λz=>h (Nat.lt_of_le_of_lt z (by decide):c<128)];simp only[Bool.and_false,Bool.or_false]
  exact h2.symm
theorem zrj(a b:Nat):eqD (.int (a:Nat)) (.int (b:Nat))=decide (a=b):=by
 rw[zp9];by_cases h:a=b
 ·rw[decide_eq_true h,decide_eq_true (show((a:Nat):Int)=(b:Nat)from congrArg Int.ofNat h)]
 ·rw[decide_eq_false h,decide_eq_false (show ¬((a:Nat):Int)=(b:Nat)from λz=>h (Int.ofNat.inj z))]
theorem zri{n:Nat}(h:zbM n=true):n≤1114111:=by
 unfold zbM at h;rcases Bool.or_eq_true_iff.mp h with h|h
 ·exact yj (yC h) (by decide)
 ·exact yC (yu.mp h).2
theorem zrv(l:List Nat):(l.all λc=>decide ([c]∈zuS.map λc=>[c]))=l.all zbr:=by rw[funext zyd]
theorem zt7{s:List Nat}{p k:Nat}{Q:D->Prop}{X:Err->Prop}(hs:okT s=true)(hp:p≤400000)(hk:1≤k)(hk':k≤8)(h:zh7 (zi4 s p k) Q X):zf7 zdf 2 [.str s,.int (p:Nat),.int (k:Nat)] Q X:=by
 refine zdL (q:=p+k) hs ?_;refine yl (zxH (zyT hs p (p+k))) (yl (zkb _) (yl (zkb _) ?_));unfold zi4 at h;dsimp only at h;by_cases h1:(cut s p (p+k)).length=k
 ·refine zaY (c:=!eqD (.int ((cut s p (p+k)).length:Nat)) (.int (k:Nat))) (by rw[zrj,decide_eq_true h1];rfl) (yl rfl ?_)
  by_cases h2:(cut s p (p+k)).all zbr=true
  ·rw[if_neg (by rw[not_or];exact⟨λz=>z h1,λz=>z h2⟩)]at h
   refine zaY (c:=!((cut s p (p+k)).all λc=>decide ([c]∈zuS.map λc=>[c]))) (by rw[zrv,h2];rfl) (zaY rfl ?_);have hne:cut s p (p+k)≠[]:=λz=>by rw[z]at h1;rw[←h1]at hk;exact absurd hk (by decide)
   refine yl rfl (yl hne (yl h2 (yl (yj (yG h1) (yj hk' (by decide))) (zw5 (n:=zbI (cut s p (p+k))) ?_))));by_cases h3:zbM (zbI (cut s p (p+k)))=true
   ·rw[if_pos h3]at h
    exact zaY (c:=!zbM (zbI (cut s p (p+k)))) (ya _ h3) (yl (yz _) (yl (yR.mpr (zri h3)) (yl (yH rfl) h)))
   ·rw[if_neg h3]at h
    exact za4 (c:=!zbM (zbI (cut s p (p+k)))) (by rw[Bool.not_eq_true _|>.mp h3];rfl) (zep (p:=p+k) hs (zyU (yj (zfl hk h1) (zcs hs))) (by decide) h)
  ·rw[if_pos (.inr h2)]at h
   exact za4 (c:=!((cut s p (p+k)).all λc=>decide ([c]∈zuS.map λc=>[c]))) (by rw[zrv,Bool.not_eq_true _|>.mp h2];rfl) (za4 rfl (zep hs hp (by decide) h))
 ·rw[if_pos (.inl h1)]at h
  exact za4 (c:=!eqD (.int ((cut s p (p+k)).length:Nat)) (.int (k:Nat))) (by rw[zrj,decide_eq_false h1];rfl) (za4 rfl (zep hs hp (by decide) h))
theorem zzJ(ds dk:List D)(Q:D->Prop)(X:Err->Prop)(h:zbH (zbc ds dk) Q X):ds.length+0=3∧zf7 zdf 2 (ds++dk) Q X:=by
 left;obtain⟨s,p,k,rfl,rfl,h⟩:=zkl h;refine zbP (zdM h) λhp h=>?_;obtain⟨hp,hk⟩:=yu.mp hp;obtain⟨hk1,hk2⟩:=yu.mp hk;clear hk;refine zcN (zhK hp) λp hzz hp1 hs=>?_;subst hzz;refine zfh (Int.eq_ofNat_of_zero_le (Int.le_trans (by decide) (yC hk1))) λk hzz=>?_;subst hzz;exact⟨rfl,zt7 hs hp1 (yR.mp (yC hk1)) (yR.mp (yC hk2)) ((zcc ..).mp h)⟩
theorem okL{l:List Nat}(h:(l.all λc=>decide (c<1114112))=true):okD (.str l)=true:=zew λc hc=>by
 rw[List.all_eq_true]at h;exact yC (h c hc)
theorem zuU{s:List Nat}(hs:okT s=true)(p q:Nat):okD (.str (cut s p q))=true:=zew λc hc=>by
 obtain⟨i,_,_,h⟩:=zqF hc;exact(zh6 hs (yw h)).1
theorem zpS{s:List Nat}(hs:okT s=true){p c:Nat}(h:s[p]?=some c):okD (.str [c])=true:=zew λd hd=>by
 rw[List.mem_singleton.mp hd];exact(zh6 hs (yw h)).1
theorem zvt{x y:List Nat}(h:x=y):eqD (.str x) (.str y)=true:=(znY x y).trans (yt h)
theorem zvj{x y:List Nat}(h:¬x=y):eqD (.str x) (.str y)=false:=(znY x y).trans (yv h)
theorem zlS{x y:Nat}(h:¬x=y):¬[x]=[y]:=λz=>h (yM z).1
@[reducible]noncomputable def zv3:PS:=(zaf (zeR (zcO (pe2 (zae 3) (zag (.str [92,117])) eqP)) (zaf (zbT (peK zbc (zab (zae 0) (zab (zae 1) (zab (zag (.int 4)) zaj))) zaj)) zap) zap) (zaf (zeR (zcO (pe2 (zae 3) (zag (.str [92,85])) eqP)) (zaf (zbT (peK zbc (zab (zae 0) (zab (zae 1) (zab (zag (.int 8)) zaj))) zaj)) zap) zap) (zaf (zl4 (zaf (zbT (zev (zab (zae 1) (zab (zwu true (zae 3)) zaj)))) zap) [⟨.key,none,(zaf (zeq (peK za2 (zab (zae 0) (zab (zae 1) (zab (zag (.str [85,110,101,115,99,97,112,101,100,32,39,92,39,32,105,110,32,97,32,115,116,114,105,110,103])) zaj))) zaj)) zap)⟩]) zap)))
theorem zoi{s:List Nat}{p:Nat}{ml:Bool}{Q:D->Prop}{X:Err->Prop}(hs:okT s=true)(hp:p+2≤400000)(c:Slot)
  (h:zh7 (zez s p) Q X) :
  zv3 (zn4 Q) (λx _=>X x) [.val (.str s),.val (.int ((p+2:Nat))),.val (.bool ml),.val (.str (cut s p (p+2))),c]:=by
 have o3:=zuU hs p (p+2);unfold zez at h;refine yl o3 (yl (okL rfl) ?_);by_cases h1:cut s p (p+2)=[92,117]
 ·rw[if_pos h1]at h
  exact za4 (zvt h1) (zvi (k:=4) hs hp (by decide) (by decide) h)
 ·rw[if_neg h1]at h
  refine zaY (zvj h1) (yl o3 (yl (okL rfl) ?_));by_cases h2:cut s p (p+2)=[92,85]
  ·rw[if_pos h2]at h
   exact za4 (zvt h2) (zvi (k:=8) hs hp (by decide) (by decide) h)
  ·rw[if_neg h2]at h
   refine zaY (zvj h2) ?_;left;cases he:zji (cut s p (p+2))with
   |some v=>
    rw[he]at h;exact zun he (yl (yH rfl) h)
   |none=>
    rw[he]at h;exact zsG he (yl rfl λm=>zep hs hp (by decide) h)
theorem zq0(s:List Nat)(p:Nat):ze0 s p false=zez s p:=if_neg λz=>Bool.noConfusion z.1
theorem zAi{p:Nat}(h:p≤350000):p+2≤400000:=yj (yQ h 2) (by decide)
theorem zr0{s:List Nat}{p:Nat}{Q:D->Prop}{X:Err->Prop}(hs:okT s=true)(hp:p≤350000)(h:zh7 (ze0 s p false) Q X) :
  zf7 zaX 2 [.str s,.int (p:Nat),.bool false] Q X:=by
 rw[zq0]at h;refine zdL (q:=p+2) hs ?_;exact zaY rfl (zaY rfl (zoi hs (zAi hp) .unb h))
theorem zhJ(s:List Nat)(cs:List (List Nat))(p:Nat):p≤zaE s cs p:=yN ..
theorem ziD{s:List Nat}{cs:List (List Nat)}{p n:Nat}(h1:p≤n)(h2:s.length≤n):zaE s cs p≤n:=by
 unfold zaE;have:=(List.takeWhile_sublist (l:=s.drop p) (λc=>decide ([c]∈cs))).length_le;rw[List.length_drop]at this;exact yj (yV (yj this (Nat.sub_le_sub_right h2 p)) p) (yG (Nat.add_sub_cancel' h1))
theorem zrJ{l a b c:List Nat}:decide (l∈[a,b,c])=true↔l=a∨l=b∨l=c:=by
 rw[decide_eq_true_iff,List.mem_cons,List.mem_cons,List.mem_singleton]
theorem zz2{c:Nat}{a b:R}{Q:D->Prop}{X:Err->Prop}(e:c=10)(h:zh7 (if c=10 then a else b) Q X):zh7 a Q X:=by rwa[if_pos e]at h
theorem zzl{c:Nat}{a b:R}{Q:D->Prop}{X:Err->Prop}(e:¬c=10)(h:zh7 (if c=10 then a else b) Q X):zh7 b Q X:=by rwa[if_neg e]at h
theorem ztl{s:List Nat}{p:Nat}{Q:D->Prop}{X:Err->Prop}(hs:okT s=true)(hp:p≤350000)(h:zh7 (ze0 s p true) Q X) :
  zf7 zaX 2 [.str s,.int (p:Nat),.bool true] Q X:=by
 have o3:=zuU hs p (p+2);have h2:=zAi hp;refine zdL (q:=p+2) hs ?_;refine za4 rfl ?_;unfold ze0 at h;by_cases hm:cut s p (p+2)=[92,32]∨cut s p (p+2)=[92,9]∨cut s p (p+2)=[92,10]
 ·rw[if_pos ⟨rfl,hm⟩]at h
  refine za4 (zrJ.mpr hm) (za4 rfl ?_);refine yl o3 (yl (okL rfl) ?_);unfold zmB at h;by_cases e:cut s p (p+2)=[92,10]
  ·rw[if_pos e]at h
   refine zaY (c:=!eqD (.str (cut s p (p+2))) (.str [92,10])) (by rw[zvt e];rfl) ?_;refine znq (p:=p+2) hs h2 ?_;exact yl (yH rfl) h
  ·rw[if_neg e]at h
   refine za4 (c:=!eqD (.str (cut s p (p+2))) (.str [92,10])) (by rw[zvj e];rfl) ?_;refine znq (p:=p+2) hs h2 ?_;have hq:zaE s wsL (p+2)≤400000:=ziD h2 (yj (zcs hs) (by decide));have hqm:zaE s wsL (p+2)≤1000000:=yj hq (by decide);left;cases hc:s[zaE s wsL (p+2)]? with
   |none=>
    rw[hc]at h;exact zgi hc hqm λm=>yl (yH rfl) h
   |some c=>
    rw[hc]at h;refine zc7 hc hqm (yl (zpS hs hc) (yl (okL rfl) ?_));by_cases e2:c=10
    ·have h:=zz2 e2 h
     refine zaY (c:=!eqD (.str [c]) (.str [10])) (by rw[zvt (by rw[e2])];rfl) ?_;refine znq (p:=zaE s wsL (p+2)+1) hs (yj (zaK hc) (yj (zcs hs) (by decide))) ?_;exact yl (yH rfl) h
    ·have h:=zzl e2 h
     refine za4 (c:=!eqD (.str [c]) (.str [10])) (by rw[zvj (zlS e2)];rfl) ?_;exact zep hs hq (by decide) h
 ·rw[if_neg λz=>hm z.2]at h
  refine zaY (Bool.eq_false_iff.mpr λz=>hm (zrJ.mp z)) (zaY rfl ?_);exact zoi hs h2 .unb h
theorem zy3(ds dk:List D)(Q:D->Prop)(X:Err->Prop)(h:zbH (zbB ds dk) Q X):ds.length+1=3∧zf7 zaX 2 (ds++[.bool false]) Q X:=by
 left;obtain⟨s,p,rfl,_,h⟩:=zgg h;refine zbP (zdM h) λhp h=>?_;refine zcN (zeT hp) λp hzz hp1 hs=>?_;subst hzz;exact⟨rfl,zr0 hs hp1 ((zcc ..).mp h)⟩
theorem zzn(ds dk:List D)(Q:D->Prop)(X:Err->Prop)(h:zbH (zbb ds dk) Q X):ds.length+1=3∧zf7 zaX 2 (ds++dk) Q X:=by
 left;obtain⟨s,p,ml,rfl,rfl,h⟩:=zio h;refine zbP (zdM h) λhp h=>?_;obtain⟨hp,hm⟩:=yu.mp hp;clear hm;refine zcN (zeT hp) λp hzz hp1 hs=>?_;subst hzz
 induction ml with
 |false=>exact⟨rfl,zr0 hs hp1 ((zcc ..).mp h)⟩
 |true=>exact⟨rfl,ztl hs hp1 ((zcc ..).mp h)⟩
theorem zxS{s:List Nat}{p:Nat}{ml:Bool}{Q:D->Prop}{X:Err->Prop}(hs:okT s=true)(hp:p≤350000)(hm:(zx5||!ml)=true)(h:zh7 (ze0 s p ml) Q X):zbH (zbb [.str s,.int (p:Nat)] [.bool ml]) Q X:=
 zgn (by rw[zhu hs hp,hm];rfl) ((zcc ..).mpr h)
theorem zxX(ds dk:List D)(Q:D->Prop)(X:Err->Prop)(h:zbH (zaZ ds dk) Q X):ds.length+0=2∧zf7 zbp 0 (ds++dk) Q X:=by
 left;obtain⟨s,p,rfl,rfl,h⟩:=zgg h;refine zbP (zdM h) λhp h=>?_;obtain⟨hp,hm⟩:=yu.mp hp;refine zcN (zeT hp) λp hzz hp1 hs=>?_;subst hzz;exact⟨rfl,zxS hs hp1 (hm) ((zcc ..).mp h)⟩
theorem zAx{p:Nat}(h:p≤340000):p+1≤350000:=yj (yQ h 1) (by decide)
theorem zoh{s:List Nat}{p:Nat}{ml:Bool}{Q:D->Prop}{X:Err->Prop}(hs:okT s=true)(hp:p≤350000)(hm:(zx5||!ml)=true)(h:zh7 (zcm s ml p) Q X):zbH (zbj [.str s,.int (p:Nat)] [.bool ml]) Q X:=
 zgn (by rw[zhu hs hp,hm];rfl) ((zcc ..).mpr h)
theorem zAd(ds dk:List D)(Q:D->Prop)(X:Err->Prop)(h:zbH (za6 ds dk) Q X):ds.length+0=2∧zf7 zb9 0 (ds++dk) Q X:=by
 left;obtain⟨s,p,rfl,rfl,h⟩:=zgg h;refine zbP (zdM h) λhp h=>?_;refine zcN (zeT hp) λp hzz hp1 hs=>?_;subst hzz;exact⟨rfl,zoh (p:=p+1) hs (zAx hp1) (Bool.or_true _) ((zcc ..).mp h)⟩
theorem zyr{s:List Nat}{p:Nat}{Q:D->Prop}{X:Err->Prop}(hs:okT s=true)(hp:p≤340000)(h:zh7 (zcm s false (p+1)) Q X):zbH (za6 [.str s,.int (p:Nat)] []) Q X:=zgn (zhu hs hp) ((zcc ..).mpr h)
theorem zrc{s:List Nat}{p k p':Nat}{t:List Nat}(hk:1≤k)(h:zi4 s p k=.ok (p',t)):p≤p'∧p'≤s.length∧t.length=1:=by
 unfold zi4 at h;dsimp only at h;by_cases c1:(cut s p (p+k)).length≠k∨¬(cut s p (p+k)).all zbr=true
 ·rw[if_pos c1]at h;exact zek h
 ·rw[if_neg c1]at h
  rw[not_or]at c1;by_cases c2:zbM (zbI (cut s p (p+k)))=true
  ·rw[if_pos c2]at h
   cases h;exact⟨yN ..,zfl hk (Classical.not_not.mp c1.1),rfl⟩
  ·rw[if_neg c2]at h;exact zek h
theorem zox{d v:List Nat}(h:zji d=some v):v.length=1:=by
 have:∀p∈zcY,p.2.length=1:=by decide
 exact this _ (zhc h)
theorem zzP{p n:Nat}(h:p<n):p+2≤n+10:=by lia
theorem zwE{s:List Nat}{p p':Nat}{t:List Nat}(hp:p<s.length)(h:zez s p=.ok (p',t)):p+2≤p'∧p'≤s.length+10∧t.length≤1:=by
 unfold zez at h;by_cases c1:cut s p (p+2)=[92,117]
 ·rw[if_pos c1]at h
  have q:=zrc (by decide) h;exact⟨q.1,yj q.2.1 (yN ..),yG q.2.2⟩
 ·rw[if_neg c1]at h
  by_cases c2:cut s p (p+2)=[92,85]
  ·rw[if_pos c2]at h
   have q:=zrc (by decide) h;exact⟨q.1,yj q.2.1 (yN ..),yG q.2.2⟩
  ·rw[if_neg c2]at h
   left;cases e:zji (cut s p (p+2))with
   |some v=>
    rw[e]at h;cases h;exact⟨yq _,zzP hp,yG (zox e)⟩
   |none=>rw[e]at h;exact zek h
theorem zvO{s:List Nat}{p p':Nat}{t:List Nat}(hp:p<s.length)(h:zmB s p=.ok (p',t)):p+2≤p'∧p'≤s.length+10∧t.length≤1:=by
 unfold zmB at h;have l2:p+2≤s.length+1:=yD hp;have b:∀cs,zaE s cs (p+2)≤s.length+1:=λcs=>ziD l2 (yh _);by_cases c1:cut s p (p+2)=[92,10]
 ·rw[if_pos c1]at h
  left;cases h;exact⟨zhJ ..,yj (b _) (yV (by decide) _),yb _⟩
 ·rw[if_neg c1]at h
  cases e:s[zaE s wsL (p+2)]? with
  |none=>
   rw[e]at h;cases h;exact⟨zhJ ..,yj (b _) (yV (by decide) _),yb _⟩
  |some c=>
   rw[e]at h;by_cases c2:c=10
   ·have h:(if c=10 then _ else _)=_:=h
    rw[if_pos c2]at h;cases h;exact⟨yj (zhJ ..) (yj (yh _) (zhJ ..)),yj (ziD (n:=s.length+2) (yD (b _)) (yN _ 2)) (yV (by decide:2≤10) _),yb _⟩
   ·have h:(if c=10 then _ else _)=_:=h
    rw[if_neg c2]at h;exact zek h
theorem ziR{s:List Nat}{p p':Nat}{ml:Bool}{t:List Nat}(hp:p<s.length)(h:ze0 s p ml=.ok (p',t)):p+2≤p'∧p'≤s.length+10∧t.length≤1:=by
 unfold ze0 at h;by_cases c:ml=true∧(cut s p (p+2)=[92,32]∨cut s p (p+2)=[92,9]∨cut s p (p+2)=[92,10])
 ·rw[if_pos c]at h;exact zvO hp h
 ·rw[if_neg c]at h;exact zwE hp h
theorem zlt{s acc:List Nat}{ml:Bool}{k k':List Nat->Nat->R}{p c:Nat}(hp:p<s.length)(h:∀a q,p<q->k a q=k' a q):bOn s ml k acc p c=bOn s ml k' acc p c:=by
 unfold bOn;rw[h _ (p+1) (Nat.lt_succ_self p),h _ (p+1) (Nat.lt_succ_self p)];cases he:ze0 s p ml with
 |error m=>rfl
 |ok r=>
  dsimp only;rw[h _ r.1 (Nat.lt_of_lt_of_le (Nat.lt_add_of_pos_right (by decide)) (ziR hp (p':=r.1) (t:=r.2) he).1)]
theorem zcr{s acc:List Nat}{ml:Bool}{p:Nat}(h:s[p]?=none):∀n,zfF s ml n acc p=.error (zcD s p zes)
 |0=>rfl
 |n+1=>ya (bAt s ml (zfF s ml n) acc p) h
theorem zf0{s acc:List Nat}{ml:Bool}{p c:Nat}(h:s[p]?=some c)(n:Nat):zfF s ml (n+1) acc p=bOn s ml (zfF s ml n) acc p c:=ya (bAt s ml (zfF s ml n) acc p) h
theorem ziV{s:List Nat}{p:Nat}(h:s.length+1-p≤0):s[p]?=none:=List.getElem?_eq_none_iff.mpr (Nat.le_of_succ_le (Nat.sub_eq_zero_iff_le.mp (Nat.le_zero.mp h)))
theorem zhd{s n p q:Nat}(h:s+1-p≤n+1)(k:p<q):s+1-q≤n:=yj (Nat.sub_le_sub_left k _) (Nat.sub_le_of_le_add (yj (Nat.sub_le_iff_le_add.mp h) (yG (Nat.add_right_comm n 1 p))))
theorem zlu{s:List Nat}{ml:Bool}:∀(n m:Nat)(acc:List Nat)(p:Nat),s.length+1-p≤n->s.length+1-p≤m->zfF s ml n acc p=zfF s ml m acc p
 |0,m,acc,p,h,_=>by rw[zcr (ziV h),zcr (ziV h)]
 |n+1,0,acc,p,_,h=>by rw[zcr (ziV h),zcr (ziV h)]
 |n+1,m+1,acc,p,h1,h2=>by
  cases hc:s[p]? with
  |none=>rw[zcr hc,zcr hc]
  |some c=>
   rw[zf0 hc,zf0 hc];exact zlt (zaK hc) λa q hq=>zlu n m a q (zhd h1 hq) (zhd h2 hq)
theorem zbK{s:List Nat}{ml:Bool}{acc:List Nat}{p:Nat}(h:s[p]?=none):zaS s ml acc p=.error (zcD s p zes):=zcr h _
noncomputable def zv4(s:List Nat)(ml:Bool)(acc:List Nat)(r:R):R:=match r with
 |.error m=>.error m
 |.ok (p',t)=>zaS s ml (acc++t) p'
noncomputable def zbU(s:List Nat)(ml:Bool)(acc:List Nat)(p c:Nat):R:=if c=34 then
   if ml=false then .ok (p+1,acc)
   else if cut s p (p+3)=[34,34,34]then .ok (p+3,acc)
   else zaS s ml (acc++[34]) (p+1)
  else if c=92 then zv4 s ml acc (ze0 s p ml)
  else if[c]∈znp ml then .error (zcD s p (zkO++zfz [c]))
  else zaS s ml (acc++[c]) (p+1)
theorem zaC{s:List Nat}{ml:Bool}{acc:List Nat}{p c:Nat}(h:s[p]?=some c):zaS s ml acc p=zbU s ml acc p c:=by
 have hp:=zaK h;have e:s.length+1-p=(s.length-p)+1:=Nat.succ_sub (yc hp);have g:zaS s ml acc p=bOn s ml (zaS s ml) acc p c:=by
  show zfF s ml (s.length+1-p) acc p=_;rw[e,zf0 h];exact zlt hp λa q hq=>zlu _ _ a q (zhd (yG e) hq) (yq _)
 rw[g];rfl
@[reducible]noncomputable def bst(s:List Nat)(q:Nat)(res:List Nat)(s0:Nat)(c7 c8:Slot):Sl:=[.val (.str s),.val (.int (q:Nat)),.val (.bool false),.val (.fset zwp),.val (.fn (ofString "parse_basic_str_escape")),.val (.str res),.val (.int (s0:Nat)),c7,c8]
theorem zwk{s:List Nat}{p:Nat}{Q:D->Prop}{X:Err->Prop}(hs:okT s=true)(hp:p≤350000)(h:zh7 (ze0 s p false) Q X):zbH (zbB [.str s,.int (p:Nat)] []) Q X:=zgn (zhu hs hp) ((zcc ..).mpr h)
theorem zr2{s res:List Nat}{s0 q:Nat}(h1:s0≤q)(h3:res.length≤s0):(res++cut s s0 q).length≤q:=by
 rw[List.length_append];exact yj (ye h3 (zkS s s0 q)) (yG (Nat.add_sub_cancel' h1))
theorem zyC{n q p:Nat}(h:q<n)(k:q+2≤p):n+1-p<n+1-q:=Nat.sub_lt_sub_left (Nat.lt_succ_of_lt h) (yy (yf (by decide)) k)
noncomputable def BI(s:List Nat)(Q:D->Prop)(X:Err->Prop)(n:Nat)(st:Sl):Prop:=∃(q s0:Nat)(res:List Nat)(c7 c8:Slot),st=bst s q res s0 c7 c8∧s0≤q∧q≤350000∧res.length≤s0∧zh7 (zaS s false (res++cut s s0 q) q) Q X∧n=s.length+1-q
theorem zue{q:Nat}(h:q≤350000):q≤400000:=yj h (by decide)
theorem zfn{q:Nat}(h:q≤350000):q≤LIM:=yj h (by decide)
theorem zq4{s:List Nat}{p:Nat}{Q:D->Prop}{X:Err->Prop}(hs:okT s=true)(hp:p≤350000)(h:zh7 (zcm s false p) Q X):zf7 zb5 6 [.str s,.int (p:Nat),.bool false] Q X:=by
 refine zaY rfl ?_;refine zfo (s.length+1-p) (BI s Q X) ⟨p,p,[],.unb,.unb,rfl,yq _,hp,yb _,by rw[zj8];exact h,rfl⟩ λn st hI=>?_;left;obtain⟨q,s0,res,c7,c8,hst,h1,h2,h3,h4,h5⟩:=hI;subst hst h5;refine za4 rfl ?_;have hl:=zcs hs;left;cases hc:s[q]? with
 |none=>
  rw[zbK hc]at h4;exact zgi hc (yj h2 (by decide)) λm=>zep hs (zue h2) (by decide) h4
 |some c=>
  rw[zaC hc]at h4;have hq:=zaK hc;have oc:=zpS hs hc;have ha:=zr2 (s:=s) h1 h3;unfold zbU at h4;refine zc7 hc (yj h2 (by decide)) ?_;refine yl oc (yl (okL rfl) ?_);by_cases e1:c=34
  ·rw[if_pos e1,if_pos rfl]at h4
   refine za4 (zvt (by rw[e1])) ?_;refine za4 rfl ?_;refine zdL (p:=s0) (q:=q) hs ?_;exact yl (zfn (yj (yG yL.symm) (yj ha h2))) (yl (yH rfl) h4)
  ·rw[if_neg e1]at h4
   refine zaY (zvj (zlS e1)) ?_;refine yl oc (yl (okL rfl) ?_);by_cases e2:c=92
   ·rw[if_pos e2]at h4
    refine za4 (zvt (by rw[e2])) ?_;refine zdL (p:=s0) (q:=q) hs ?_;refine yl (zfn (yj (yG yL.symm) (yj ha h2))) ?_;refine Exists.intro (ofString "parse_basic_str_escape") (Exists.intro zbz (yl rfl (yl (by kernel_rfl) (yl rfl (yl (by decide) (yl (λ_=>rfl) ?_))))));refine zwk hs h2 ?_;revert h4;cases he:ze0 s q false with
    |error m=>exact λh4=>h4
    |ok r=>
     obtain⟨p',t⟩:=r;intro h4;have hle:=ziR hq he;have h35:p'≤350000:=yj hle.2.1 (yj (yQ hl 10) (by decide));have hx:(res++cut s s0 q++t).length≤p':=zb6 ha hle.2.2 (yj (yh _) hle.1);refine yl (zfn (yj (yG yL.symm) (yj hx h35))) ⟨_,zyC hq hle.1,p',p',res++cut s s0 q++t,_,_,rfl,yq _,h35,hx,?_,rfl⟩;rw[zj8,List.append_nil];exact h4
   ·rw[if_neg e2]at h4
    refine zaY (zvj (zlS e2)) ?_;by_cases e3:[c]∈zwp
    ·have e3':[c]∈znp false:=e3
     rw[if_pos e3']at h4;have hr:=(zh6 hs (yw hc)).2;refine za4 (yt e3) ?_;refine yl (by decide) (yl (za3 (yj hr (by decide))) (yl (za3 (zbv (a:=18) (by decide) hr (by decide))) ?_));refine zep hs (zue h2) ?_ ?_
     ·exact zb6 (x:=zkO) (a:=18) (by decide) hr (by decide)
     ·exact h4
    ·have e3':¬[c]∈znp false:=e3
     rw[if_neg e3']at h4;refine zaY (yv e3) ⟨_,zy6 hq,q+1,s0,res,_,_,rfl,xc h1,yj hq (yj hl (by decide)),h3,?_,rfl⟩;rw[zk1 h1 hc,←List.append_assoc];exact h4
theorem zkd(s p:List Nat)(q:Nat){n:Nat}(hn:p.length=n+1):Txt.startswith3 (mk s) (mk p) (q:Nat)=decide (cut s q (q+p.length)=p):=by
 have hf:fromIndex (mk s).length (q:Nat)=q:=by unfold fromIndex;rw[if_neg (Int.not_lt.mpr (Int.natCast_nonneg q)),Int.max_eq_right (Int.natCast_nonneg q)];rfl
 have hm:∀l,(mk l).cps.toList=l:=λl=>rfl;unfold Txt.startswith3;rw[hf,StrLaws.subAt_eq,zaG,zaG,hm,hm];unfold cut;rw[Nat.add_sub_cancel_left];by_cases e:(s.drop q).take p.length=p
 ·have h:=ya List.length e
  rw[List.length_take,List.length_drop]at h;have h:p.length≤s.length-q:=yj (yG h.symm) (Nat.min_le_right ..);have h0:q≤s.length:=yc (Nat.lt_of_sub_pos (yy (hn▸yd n) h));simp[e,Nat.add_le_of_le_sub' h0 h]
 ·simp[e]
@[reducible]noncomputable def zAL(s:List Nat)(q:Nat)(res:List Nat)(s0:Nat)(c7 c8:Slot):Sl:=[.val (.str s),.val (.int (q:Nat)),.val (.bool true),.val (.fset zuk),.val (.fn (ofString "parse_basic_str_escape_multiline")),.val (.str res),.val (.int (s0:Nat)),c7,c8]
theorem zwA{s:List Nat}{p:Nat}{Q:D->Prop}{X:Err->Prop}(hs:okT s=true)(hp:p≤350000)(h:zh7 (ze0 s p true) Q X):zbH (zaZ [.str s,.int (p:Nat)] []) Q X:=zgn (by rw[zhu hs hp];rfl) ((zcc ..).mpr h)
noncomputable def BJ(s:List Nat)(Q:D->Prop)(X:Err->Prop)(n:Nat)(st:Sl):Prop:=∃(q s0:Nat)(res:List Nat)(c7 c8:Slot),st=zAL s q res s0 c7 c8∧s0≤q∧q≤350000∧res.length≤s0∧zh7 (zaS s true (res++cut s s0 q) q) Q X∧n=s.length+1-q
theorem zpu{s:List Nat}{p:Nat}{Q:D->Prop}{X:Err->Prop}(hs:okT s=true)(hp:p≤350000)(h:zh7 (zcm s true p) Q X):zf7 zb5 6 [.str s,.int (p:Nat),.bool true] Q X:=by
 refine za4 rfl ?_;refine zfo (s.length+1-p) (BJ s Q X) ⟨p,p,[],.unb,.unb,rfl,yq _,hp,yb _,by rw[zj8];exact h,rfl⟩ λn st hI=>?_;left;obtain⟨q,s0,res,c7,c8,hst,h1,h2,h3,h4,h5⟩:=hI;subst hst h5;refine za4 rfl ?_;have hl:=zcs hs;left;cases hc:s[q]? with
 |none=>
  rw[zbK hc]at h4;exact zgi hc (yj h2 (by decide)) λm=>zep hs (zue h2) (by decide) h4
 |some c=>
  rw[zaC hc]at h4;have hq:=zaK hc;have oc:=zpS hs hc;have ha:=zr2 (s:=s) h1 h3;unfold zbU at h4;refine zc7 hc (yj h2 (by decide)) ?_;refine yl oc (yl (okL rfl) ?_);by_cases e1:c=34
  ·rw[if_pos e1,if_neg (λz:true=false=>Bool.noConfusion z)]at h4
   refine za4 (zvt (by rw[e1])) ?_;refine zaY rfl ?_;by_cases e4:cut s q (q+3)=[34,34,34]
   ·rw[if_pos e4]at h4
    refine za4 (c:=Txt.startswith3 (mk s) (mk [34,34,34]) ((q:Nat):Int)) ((zkd s [34,34,34] q rfl).trans (yt e4)) ?_;refine zdL (p:=s0) (q:=q) hs ?_;exact yl (zfn (yj (yG yL.symm) (yj ha h2))) (yl (yH rfl) h4)
   ·rw[if_neg e4]at h4
    refine zaY (c:=Txt.startswith3 (mk s) (mk [34,34,34]) ((q:Nat):Int)) ((zkd s [34,34,34] q rfl).trans (yv e4)) ⟨_,zy6 hq,q+1,s0,res,_,_,rfl,xc h1,yj hq (yj hl (by decide)),h3,?_,rfl⟩;rw[zk1 h1 hc,←List.append_assoc,e1];exact h4
  ·rw[if_neg e1]at h4
   refine zaY (zvj (zlS e1)) ?_;refine yl oc (yl (okL rfl) ?_);by_cases e2:c=92
   ·rw[if_pos e2]at h4
    refine za4 (zvt (by rw[e2])) ?_;refine zdL (p:=s0) (q:=q) hs ?_;refine yl (zfn (yj (yG yL.symm) (yj ha h2))) ?_;refine Exists.intro (ofString "parse_basic_str_escape_multiline") (Exists.intro za0 (yl rfl (yl (by kernel_rfl) (yl rfl (yl (by decide) (yl (λ_=>rfl) ?_))))));refine zwA hs h2 ?_;revert h4;cases he:ze0 s q true with
    |error m=>exact λh4=>h4
    |ok r=>
     obtain⟨p',t⟩:=r;intro h4;have hle:=ziR hq he;have h35:p'≤350000:=yj hle.2.1 (yj (yQ hl 10) (by decide));have hx:(res++cut s s0 q++t).length≤p':=zb6 ha hle.2.2 (yj (yh _) hle.1);refine yl (zfn (yj (yG yL.symm) (yj hx h35))) ⟨_,zyC hq hle.1,p',p',res++cut s s0 q++t,_,_,rfl,yq _,h35,hx,?_,rfl⟩;rw[zj8,List.append_nil];exact h4
   ·rw[if_neg e2]at h4
    refine zaY (zvj (zlS e2)) ?_;by_cases e3:[c]∈zuk
    ·have e3':[c]∈znp true:=e3
     rw[if_pos e3']at h4;have hr:=(zh6 hs (yw hc)).2;refine za4 (yt e3) ?_;refine yl (by decide) (yl (za3 (yj hr (by decide))) (yl (za3 (zbv (a:=18) (by decide) hr (by decide))) ?_));refine zep hs (zue h2) ?_ ?_
     ·exact zb6 (x:=zkO) (a:=18) (by decide) hr (by decide)
     ·exact h4
    ·have e3':¬[c]∈znp true:=e3
     rw[if_neg e3']at h4;refine zaY (yv e3) ⟨_,zy6 hq,q+1,s0,res,_,_,rfl,xc h1,yj hq (yj hl (by decide)),h3,?_,rfl⟩;rw[zk1 h1 hc,←List.append_assoc];exact h4
theorem zwh(ds dk:List D)(Q:D->Prop)(X:Err->Prop)(h:zbH (zbj ds dk) Q X):ds.length+1=3∧zf7 zb5 6 (ds++dk) Q X:=by
 left;obtain⟨s,p,ml,rfl,rfl,h⟩:=zio h;refine zbP (zdM h) λhp h=>?_;obtain⟨hp,hm⟩:=yu.mp hp;clear hm;refine zcN (zeT hp) λp hzz hp1 hs=>?_;subst hzz
 induction ml with
 |false=>exact⟨rfl,zq4 hs hp1 ((zcc ..).mp h)⟩
 |true=>exact⟨rfl,zpu hs hp1 ((zcc ..).mp h)⟩
noncomputable def zgm(s:List Nat)(d p:Nat)(t:List Nat):R:=if cut s p (p+1)=[d]then(if cut s (p+1) (p+1+1)=[d]then .ok (p+1+1,t++[d,d])else .ok (p+1,t++[d]))else .ok (p,t)
noncomputable def lfN(s:List Nat)(p:Nat):Nat:=if cut s (p+3) (p+3+1)=[10]then p+3+1 else p+3
noncomputable def zhI(s:List Nat)(p:Nat):R:=match zcm s true p with
 |.error m=>.error m
 |.ok (p',t)=>zgm s 34 p' t
theorem zeo{s:List Nat}{ml:Bool}{p':Nat}{t:List Nat}:∀(n:Nat){acc:List Nat}{q:Nat},s.length+1-q≤n->acc.length≤q->zaS s ml acc q=.ok (p',t)->t.length≤p'∧p'≤s.length+10
 |0,acc,q,hn,ha,h=>by
  rw[zbK (ziV hn)]at h;exact zek h
 |n+1,acc,q,hn,ha,h=>by
  left;cases hc:s[q]? with
  |none=>rw[zbK hc]at h;exact zek h
  |some c=>
   rw[zaC hc]at h;have hq:=zaK hc;unfold zbU at h;by_cases e1:c=34
   ·rw[if_pos e1]at h
    by_cases e2:ml=false
    ·rw[if_pos e2]at h
     left;cases h;exact⟨xc ha,yj hq (yN _ 10)⟩
    ·rw[if_neg e2]at h
     by_cases e3:cut s q (q+3)=[34,34,34]
     ·rw[if_pos e3]at h
      cases h;exact⟨Nat.le_add_right_of_le ha,ye (yc hq) (by decide)⟩
     ·rw[if_neg e3]at h
      exact zeo n (zhd hn (yO q)) (by rw[List.length_append];exact yD ha) h
   ·rw[if_neg e1]at h
    by_cases e2:c=92
    ·rw[if_pos e2]at h
     cases he:ze0 s q ml with
     |error m=>rw[he]at h;exact zek h
     |ok r=>
      obtain⟨p1,t1⟩:=r;rw[he]at h;have hle:=ziR hq he;exact zeo n (zhd hn (yy (yf (by decide)) hle.1)) (by rw[List.length_append];exact yj (ye ha hle.2.2) (yj (yh _) hle.1)) h
    ·rw[if_neg e2]at h
     by_cases e3:[c]∈znp ml
     ·rw[if_pos e3]at h;exact zek h
     ·rw[if_neg e3]at h
      exact zeo n (zhd hn (yO q)) (by rw[List.length_append];exact yD ha) h
theorem zhb(s:List Nat)(d q:Nat):Txt.startswith3 (mk s) (mk [d]) ((q:Nat):Int)=decide (cut s q (q+1)=[d]):=zkd s [d] q rfl
@[reducible]noncomputable def zse:PS:=(zaf (zeR (zl5 (zcO (zdg (zae 0) (zab (zae 3) (zab (zae 1) zaj)) zdY))) (zaf (zbT (zev (zab (zae 1) (zab (zae 5) zaj)))) zap) zap) (zaf (zdk 1 (zag (.int 1)) zdB) (zaf (zeR (zl5 (zcO (zdg (zae 0) (zab (zae 3) (zab (zae 1) zaj)) zdY))) (zaf (zbT (zev (zab (zae 1) (zab (pe2 (zae 5) (zae 3) zdb) zaj)))) zap) zap) (zaf (zdk 1 (zag (.int 1)) zdB) (zaf (zbT (zev (zab (zae 1) (zab (pe2 (zae 5) (pe2 (zae 3) (zag (.int 2)) zxh) zdb) zaj)))) zap)))))
theorem zyH{s t:List Nat}{d q:Nat}{lit:Bool}{c4:Slot}{Q:D->Prop}{X:Err->Prop}(ht:t.length≤400000)(h:zh7 (zgm s d q t) Q X) :
  zse (zn4 Q) (λx _=>X x) [.val (.str s),.val (.int (q:Nat)),.val (.bool lit),.val (.str [d]),c4,.val (.str t)]:=by
 unfold zgm at h;by_cases e1:cut s q (q+1)=[d]
 ·rw[if_pos e1]at h
  refine zaY (c:=!Txt.startswith3 (mk s) (mk [d]) ((q:Nat):Int)) (by rw[zhb,decide_eq_true e1];rfl) ?_;by_cases e2:cut s (q+1) (q+1+1)=[d]
  ·rw[if_pos e2]at h
   refine zaY (c:=!Txt.startswith3 (mk s) (mk [d]) ((q+1:Nat):Int)) (by rw[zhb,decide_eq_true e2];rfl) ?_;refine yl (by decide) (yl (by decide) (yl (by decide:2≤LIM) ?_));exact yl (za3 (zbv (b:=2) ht (yq 2) (by decide))) (yl (yH rfl) h)
  ·rw[if_neg e2]at h
   refine za4 (c:=!Txt.startswith3 (mk s) (mk [d]) ((q+1:Nat):Int)) (by rw[zhb,decide_eq_false e2];rfl) ?_;exact yl (za3 (zbv (b:=1) ht (yq 1) (by decide))) (yl (yH rfl) h)
 ·rw[if_neg e1]at h
  refine za4 (c:=!Txt.startswith3 (mk s) (mk [d]) ((q:Nat):Int)) (by rw[zhb,decide_eq_false e1];rfl) ?_;exact yl (yH rfl) h
theorem znM{s:List Nat}{k j:Nat}(h:s[k]?=none):cut s k j=[]:=by unfold cut;rw[ziF h];exact List.take_nil
theorem zz1(k m:Nat):k+1+m-k=m+1:=by rw[Nat.add_assoc,Nat.add_sub_cancel_left,Nat.add_comm]
theorem zeA{s:List Nat}{k j c:Nat}(h:s[k]?=some c)(hj:k<j):cut s k j=c::cut s (k+1) j:=by
 obtain⟨m,rfl⟩:=Nat.le.dest hj;unfold cut;simp only[zcd h,zz1,Nat.add_sub_cancel_left];rfl
theorem zem{s:List Nat}{a b i:Nat}(h:a+i<b):(cut s a b)[i]?=s[a+i]?:=by
 unfold cut;rw[List.getElem?_take,if_pos (Nat.lt_sub_iff_add_lt'.mpr h),List.getElem?_drop]
theorem zw7{c:Nat}:c∈zg0↔c<32∨c=127:=by
 have h1:∀x∈zg0,x<32∨x=127:=by decide
 have h2:∀x:Fin 32,x.1∈zg0:=by decide
 refine⟨h1 c,λh=>?_⟩;rcases h with h|rfl
 ·exact h2 ⟨c,h⟩
 ·decide
theorem znB{c:Nat}{l:List Nat}:[c]∈l.map (λc=>[c])↔c∈l:=by
 rw[List.mem_map];exact⟨λ⟨d,h,e⟩=>(yM e).1▸h,λh=>⟨c,h,rfl⟩⟩
theorem zfr{c:Nat}:[c]∈zuk↔c∈zg0∧c≠9∧c≠10:=by
 unfold zuk;rw[znB,List.mem_filter,Bool.and_eq_true,bne_iff_ne,bne_iff_ne]
theorem zhQ{c:Nat}:[c]∈zwp↔c∈zg0∧c≠9:=by
 unfold zwp;rw[znB,List.mem_filter,bne_iff_ne]
theorem zAs{α:Type}{x a b c:α}:x∈[a,b,c]↔x=a∨x=b∨x=c:=by rw[List.mem_cons,List.mem_cons,List.mem_singleton]
theorem zjq{c d:Nat}:[c]=[d]↔c=d:=⟨λh=>(yM h).1,λh=>by rw[h]⟩
theorem zhL{d v:List Nat}(h:zji d=some v):d.length=2∧d.head?=some 92∧(∀c,d[1]?=some c->34≤c∧c<127):=by
 have:∀p∈zcY,p.1.length=2∧p.1.head?=some 92∧(∀c∈p.1,34≤c∧c<127):=by decide
 have:=this _ (zhc h);exact⟨this.1,this.2.1,λc hc=>this.2.2 c (yw hc)⟩
theorem zpV{c a b:Nat}(h1:a≤c)(h2:c≤b)(k1:Nat.ble 48 a=true)(k2:Nat.ble b 102=true)(k3:Nat.ble b 91=true∨Nat.ble 93 a=true):48≤c∧c≤102∧c≠92:=
 ⟨yj (yH k1) h1,yj h2 (yH k2),λe=>k3.elim (λk=>absurd (e▸yj h2 (yH k)) (by decide)) λk=>absurd (e▸yj (yH k) h1) (by decide)⟩
theorem ze5{c:Nat}(h:zbr c=true):48≤c∧c≤102∧c≠92:=by
 unfold zbr at h;rcases Bool.or_eq_true_iff.mp h with h|h
 ·rcases Bool.or_eq_true_iff.mp h with h|h
  ·have h:=yu.mp h
   exact zpV (yC h.1) (yC h.2) rfl rfl (.inl rfl)
  ·have h:=yu.mp h
   exact zpV (yC h.1) (yC h.2) rfl rfl (.inr rfl)
 ·have h:=yu.mp h
  exact zpV (yC h.1) (yC h.2) rfl rfl (.inl rfl)
theorem zhV{s:List Nat}{q a b:Nat}(h:cut s q (q+2)=[a,b]):s[q]?=some a∧s[q+1]?=some b:=by
 have h0:=zem (s:=s) (a:=q) (b:=q+2) (i:=0) (yf (by decide));have h1:=zem (s:=s) (a:=q) (b:=q+2) (i:=1) (yO _);rw[h]at h0 h1;exact⟨h0.symm,h1.symm⟩
theorem zdh{s:List Nat}{p k p':Nat}{t:List Nat}:zi4 s p k=.ok (p',t)↔(cut s p (p+k)).length=k∧(cut s p (p+k)).all zbr=true∧zbM (zbI (cut s p (p+k)))=true∧p'=p+k∧t=[zbI (cut s p (p+k))]:=by
 unfold zi4;dsimp only;by_cases c1:(cut s p (p+k)).length≠k∨¬(cut s p (p+k)).all zbr=true
 ·rw[if_pos c1]
  exact⟨λh=>(zek h),λh=>(c1.elim (λz=>z h.1) λz=>z h.2.1).elim⟩
 ·rw[if_neg c1]
  rw[not_or]at c1;by_cases c2:zbM (zbI (cut s p (p+k)))=true
  ·rw[if_pos c2]
   refine⟨λh=>?_,λh=>by rw[h.2.2.2.1,h.2.2.2.2]⟩;cases h;exact⟨Classical.not_not.mp c1.1,Classical.not_not.mp c1.2,c2,rfl,rfl⟩
  ·rw[if_neg c2]
   exact⟨λh=>(zek h),λh=>absurd h.2.2.1 c2⟩
theorem zyS{s:List Nat}{p k j:Nat}(h1:(cut s p (p+k)).length=k)(h2:(cut s p (p+k)).all zbr=true)(hj:p≤j)(hk:j<p+k):∃c,s[j]?=some c∧zbr c=true:=by
 obtain⟨i,rfl⟩:=Nat.le.dest hj;have hg:=zem (s:=s) (a:=p) (b:=p+k) (i:=i) hk;have hi:i<(cut s p (p+k)).length:=h1.symm▸Nat.lt_of_add_lt_add_left hk;rw[List.getElem?_eq_getElem hi]at hg;exact⟨_,hg.symm,yK.mp h2 _ (List.getElem_mem hi)⟩
noncomputable def zzI(s:List Nat)(q p' j:Nat):Prop:=∃c,s[j]?=some c∧34≤c∧c<127∧(c=34∨c=92->j=q+1∧p'=q+2)
theorem zjy{s:List Nat}{q p' b k:Nat}{t:List Nat}(hb:34≤b∧b<127∧¬(b=34∨b=92))(hk:1≤k)(hc:cut s q (q+2)=[92,b])(h:zi4 s (q+2) k=.ok (p',t)):q+2≤p'∧p'≤s.length∧∀j,q<j->j<p'->zzI s q p' j:=by
 refine zzX (zdh.mp h) λh1 h2 _ hzz _=>?_;subst hzz;refine⟨yN ..,zfl hk h1,λj j1 j2=>?_⟩;rcases Nat.lt_or_eq_of_le (Nat.succ_le_of_lt j1)with e|e
 ·refine za1 (zyS h1 h2 (Nat.succ_le_of_lt e) j2) λc e1 e2=>?_
  have hr:=ze5 e2;exact zwj c e1 (yj (by decide) hr.1) (yU hr.2.1 (by decide)) (λz=>z.elim (λz=>absurd (z▸hr.1) (by decide)) λz=>absurd z hr.2.2)
 ·exact zwj b (e▸(zhV hc).2) hb.1 hb.2.1 (λz=>absurd z hb.2.2)
theorem zx4{s v:List Nat}{q:Nat}(e:zji (cut s q (q+2))=some v)(j:Nat)(j1:q<j)(j2:j<q+2):zzI s q (q+2) j:=by
 have h2:=zhL e;have hj:=Nat.le_antisymm (Nat.le_of_lt_succ j2) j1;subst hj;have hl:1<(cut s q (q+2)).length:=by rw[h2.1];decide
 have hg:=zem (s:=s) (a:=q) (b:=q+2) (i:=1) (yO _);rw[List.getElem?_eq_getElem hl]at hg;have:=h2.2.2 _ (ys hl);exact zwj _ hg.symm this.1 this.2 (λ_=>⟨rfl,rfl⟩)
theorem zns{s:List Nat}{q p':Nat}{t:List Nat}(h:zez s q=.ok (p',t)):q+2≤p'∧p'≤s.length∧∀j,q<j->j<p'->zzI s q p' j:=by
 unfold zez at h;by_cases c1:cut s q (q+2)=[92,117]
 ·rw[if_pos c1]at h
  exact zjy (by decide) (by decide) c1 h
 ·rw[if_neg c1]at h
  by_cases c2:cut s q (q+2)=[92,85]
  ·rw[if_pos c2]at h
   exact zjy (by decide) (by decide) c2 h
  ·rw[if_neg c2]at h
   cases e:zji (cut s q (q+2))with
   |none=>rw[e]at h;exact zek h
   |some v=>
    rw[e]at h;have h:=Prod.mk.inj (Except.ok.inj h);rw[←h.1];exact⟨yq _,zfl (by decide) (zhL e).1,zx4 e⟩
section
variable{s:List Nat}{q c:Nat}
end
section
variable{s:List Nat}{p:Nat}{l:List Nat}(hd:s.drop p=l)
include hd
end
section
variable{s s':List Nat}{k q:Nat}(hc:∀a b,b≤k->cut s' a b=cut s a b)
include hc
end
section
variable{s:List Nat}{k:Nat}{ml:Bool}(hk:k≤s.length)
include hk
end
section
variable{S:St0}{sh:zai}
theorem zva(l:List Nat):(mk l).cps.toList=l:=by simp[mk]
@[reducible]noncomputable def cD:Dc D:=⟨some,id,λh=>(yi h)⟩
noncomputable def zAQ:D->PV
 |.int i,Q,_=>i.natAbs.log2<1920∧Q (.pl (.str (zby i)))
 |.str l,Q,_=>Q (.pl (.str l))
 |_,_,_=>False
noncomputable def zy5(ds:List D)(Q:Res->Prop)(X:Err->Prop):Prop:=one cD ds λd=>zAQ d Q X
theorem znG:znm S sh (.type "str") zy5:=λa ow st s vs ds Q X f R h q=>by
 left;refine za1 (ze2 q) λd e q=>?_;rw[e]at h;clear e;refine za1 (zel h) λv hzz h1=>?_;subst hzz;clear h;cases d<;>first
  |exact q.elim
  |skip
 ·obtain⟨t,rfl⟩:=zdH.int h1
  exact P.str_of_int q.1 (zcb R (zlX _) q.2)
 ·obtain⟨t,rfl⟩:=zdH.str h1
  exact P.str_of_str (zcb (tk:=s.toks) R rfl q)
end
section
variable{S:St0}{sh:zai}
end
section
open Builtin Builtin.Str
section
variable{S:St0}{sh:zai}
noncomputable def zbN(l p:List Nat):List (List Nat):=((0::(ziY l p 0 l.length).map (· + p.length)).zip (ziY l p 0 l.length++[l.length])).map λx=>cut l x.1 x.2
theorem zwz(l:List Nat)(i j:Nat):strSub (mk l) i j=mk (cut l i j):=by
 have h:(strSub (mk l) i j).cps.toList=cut l i j:=by
  unfold strSub cut;simp only[mk,Array.toList_extract,List.extract_eq_take_drop]
 rw[←h,zdx]
theorem zkw(l p:List Nat):partsBetween (mk l) (ziY l p 0 l.length) p.length=(zbN l p).map mk:=by
 unfold partsBetween zbN;rw[zaG,List.map_map];exact ya (List.map · _) (funext λx=>zwz l x.1 x.2)
theorem zgf(l p:List Nat):occurrences (mk l) (mk p) 0 (mk l).length ((mk l).length+1)=ziY l p 0 l.length:=by
 rw[zaG];exact zmK (yG rfl)
theorem zfu{l p:List Nat}(h:ziY l p 0 l.length=[]):zbN l p=[l]:=by
 unfold zbN;rw[h];show[cut l 0 l.length]=[l];unfold cut;simp
theorem zoD{l p:List Nat}(h:l.length<p.length):ziY l p 0 l.length=[]:=by
 unfold ziY;have:∀(is:List Nat)(free:Nat),zhy l p l.length is free=[]:=by
  intro is
  induction is with
  |nil=>exact λ_=>rfl
  |cons i is ih=>
   intro free;rw[zhy];unfold zdz;rw[decide_eq_false (show ¬i+p.length≤l.length by lia),Bool.false_and,Bool.and_false,if_neg (λz=>Bool.noConfusion z)];exact ih free
 exact this _ _
theorem zt8{p:List Nat}(h:(p.all λc=>decide (c<256))=true):Builtin.Str.strKind (mk p)=1:=by
 unfold Builtin.Str.strKind;have:(mk p).cps.all (·<256)=true:=by
  rw[←Array.all_toList,zva];exact h
 rw[if_pos this]
theorem zub(x:Str):1≤Builtin.Str.strKind x:=by
 unfold Builtin.Str.strKind;by_cases h:(x.cps.all (·<256))=true
 ·rw[if_pos h];exact yq _
 ·rw[if_neg h]
  by_cases h:(x.cps.all (·<65536))=true
  ·rw[if_pos h];exact yh _
  ·rw[if_neg h];exact xb ..
theorem zmq{h:Heap}{P:Addr->Prop}:∀{l:List (List Nat)}{k:Nat},zaO S h P (strsFrom k (l.map mk)) (l.map .str)
 |[],_=>.nil
 |x::l,k=>.cons (.str x _) zmq
theorem zjZ(l p:List Nat):(zbN l p).length=(ziY l p 0 l.length).length+1:=by
 unfold zbN;rw[List.length_map,List.length_zip,List.length_cons,List.length_map,List.length_append];exact Nat.min_self _
theorem ztZ(l p:List Nat):(ziY l p 0 l.length).length≤l.length+1:=yj (zhU ..) (yG (List.length_range' ..))
noncomputable def zof(l:List Nat)(ds:List D)(Q:Res->Prop)(_:Err->Prop):Prop:=one cS ds λp=>l.length≤500000∧(p≠[])∧(p.all λc=>decide (c<256))=true∧Q (.fr ((zbN l p).map .str))
theorem zlm{a:Act}{ow:Nat->Option Addr}{st:Sl}{s:Shared}{vs:Array Value}{ds:List D}{Q:Res->Prop}{tk:Nat}(h:∀P,zaO S (s.heap.push {cls:=.type "list",data:=.seq vs}) P vs.toList ds)(q:Q (.fr ds)) :
  OkP S a ow st s Q (.ref s.heap.objs.size) {s with toks:=tk,heap:=s.heap.push {cls:=.type "list",data:=.seq vs}}:=
 ⟨_,q,⟨.refl _,.of_keeps λb o e=>yB _ e,rfl,rfl⟩,_,_,_,_,rfl,yP (yq _),yF _ rfl,rfl,rfl,h _,rfl⟩
theorem zjU:zmP S sh "str.split" zof:=λa ow st s l t vs ds Q X f R h q=>by
 refine zAt (ze2 q) λp e hl hp hk q=>?_;rw[e]at h;refine za1 (zel h) λv hzz h1=>?_;subst hzz;clear h;left;refine zfh h1.str λu hzz=>?_;subst hzz;have hsz:(mk l).length≤sizeLine:=by rw[zaG];exact yj hl (by decide)
 have hy:((mk p).length==0)=false:=by
  rw[zaG];exact beq_eq_false_iff_ne.mpr λz=>hp (yJ z)
 have itself:zbN l p=[l]->OkP S a ow st s Q (.ref s.heap.objs.size) {s with toks:=s.toks,heap:=s.heap.push {cls:=.type "list",data:=.seq #[.str (mk l) t]}}:=λe=>by
  rw[e]at q;exact zlm (λP=>.cons (.str l t) .nil) q
 cases h1:(decide ((mk l).length<(mk p).length)||decide (Builtin.Str.strKind (mk l)<Builtin.Str.strKind (mk p)))
 ·cases hf:(occurrences (mk l) (mk p) 0 (mk l).length ((mk l).length+1)).isEmpty
  ·refine call_meets F.slot_str_split (typeIs_str _ _ _) F.entry_str_split (F.args_str_split_2 _ _) (meets_str_split_sep (mk l) (mk p) t u h1 hy hf hsz ?_) ?_
   ·rw[zgf,zaG,zkw,List.length_map,zjZ]
    exact yj (yD (ztZ l p)) (yj (yQ hl 2) (by decide))
   ·show OkP S a ow st s Q _ {s with toks:=_,heap:=s.heap.push {cls:=.type "list",data:=.seq (strsFrom s.toks (partsBetween (mk l) (occurrences (mk l) (mk p) 0 (mk l).length ((mk l).length+1)) (mk p).length)).toArray}}
    rw[zgf,zaG,zkw];exact zlm (λP=>zmq) q
  ·refine call_meets F.slot_str_split (typeIs_str _ _ _) F.entry_str_split (F.args_str_split_2 _ _) (meets_str_split_not_found (mk l) (mk p) t u h1 hy hf) (itself ?_)
   rw[zgf]at hf;exact zfu (List.isEmpty_iff.mp hf)
 ·refine call_meets F.slot_str_split (typeIs_str _ _ _) F.entry_str_split (F.args_str_split_2 _ _) (meets_str_split_cannot_occur (mk l) (mk p) t u h1) (itself ?_)
  rw[zt8 hk,decide_eq_false (Nat.not_lt.mpr (zub _)),Bool.or_false,zaG,zaG]at h1;exact zfu (zoD (yC h1))
noncomputable def zvR:List D->Option (List (List Nat))
 |[]=>some []
 |.str x::l=>(zvR l).map (x::·)
 |_=>none
theorem zn5:∀{l:List D}{x:List (List Nat)},zvR l=some x->l=x.map .str
 |[],_,h=>by obtain rfl:=yi h;rfl
 |d::l,x,h=>by
  cases d with
  |str y=>
   rw[zvR]at h;cases e:zvR l with
   |none=>rw[e]at h;exact zad h
   |some z=>rw[e]at h;obtain rfl:=yi h;rw[zn5 e];rfl
  |_=>exact zad h
end
end
section
open Builtin Builtin.Str Builtin.BaseException Builtin.Exceptions
noncomputable def ClsAt(mg:Str->Option Value)(h:Heap):Prop:=∃C o cd m,mg "TOMLDecodeError"=some (.ref C)∧h.get? C=some o∧o.data=.cls cd∧cd.mro=.ref C::bmV∧h.Ns cd.ns m∧m "__str__"=none
theorem ClsAt.keeps{mg:Str->Option Value}{h h':Heap}(x:ClsAt mg h)(k:∀b o,h.get? b=some o->h'.get? b=some o):ClsAt mg h':=by
 refine zAq x λC o cd m h1 h2 h3 h4 h5 h6=>?_;exact zAv C o cd m h1 (k _ _ h2) h3 h4 (h5.keeps k) h6
section
variable{prog:Program}{w:World}{A:Around}{E:Value->Shared->Prop}{h:Heap}{g:Array GenState}{d:Drawn}{tk0:Nat}{os:OsState}
variable{e:Addr}{l:Str}{tk:Tok}
inductive zz0(h:Heap)(e:Addr)(l:Str)(tk:Tok)(C:Addr)(newId:String)(x:zAn)(m:Str->Option Value)(oe:Obj)(vs:Array Value)(t:Addr)(ot:Obj)(n:Nat):Prop
 |mk (qa:h.get? C=some (excClassObj x.nm x.q C x.N x.bs bmV x.hdct x.sn x.sub x.ab x.col x.dd x.k0 x.k1 x.k2 x.k3 x.k5 newId)) (qb:h.Ns x.N m) (qc:m "__str__"=none) (qd:h.get? e=some oe) (qe:oe.cls=.ref C) (qf:oe.data=.fields vs) (qg:vs[0]?=some (.ref t)) (qh:h.get? t=some ot) (qi:ot.data=.seq #[.str l tk] n)
noncomputable def zho(h:Heap)(e:Addr)(l:Str)(tk:Tok):Prop:=∃C newId x m oe vs t ot n,zz0 h e l tk C newId x m oe vs t ot n
theorem zrd:builtinKind "BaseException.__str__"=some .slot:=by right
theorem zpD:splitId "BaseException.__str__"=some ("BaseException","__str__"):=by right
theorem zyu(C:Addr):(Value.ref C::bmV).contains (.type "BaseException")=true:=by rw[List.contains_cons,show bmV.contains (.type "BaseException")=true from by decide,Bool.or_true]
theorem zqr{Q:Unit->Shared->Prop}(x:zho h e l tk)(hq:Q () ⟨h,g,d,tk0,os⟩):wpAny (model prog w) A (checkBuiltinCall "BaseException.__str__" ⟨[.ref e],[]⟩) Q E ⟨h,g,d,tk0,os⟩:=by
 obtain⟨C,newId,x,m,oe,vs,t,ot,n,hC,hN,hm,he,hcls,_⟩:=x;simp only[checkBuiltinCall,zrd,zpD]
 repeat (first|(with_reducible refine wpAny_loadPart_at he ?_;rw[hcls])|(with_reducible refine wpAny_isSubtype_exc hC ?_;rw[zyu C])|wp_step)
 exact hq
theorem zsP{M:Model}{Q:Value×List Value->Shared->Prop}(x:zho h e l tk)(hq:∀t,Q (.ref t,[.str l tk]) ⟨h,g,d,tk0,os⟩):wpAny M A (bexcArgs (.ref e)) Q E ⟨h,g,d,tk0,os⟩:=by
 obtain⟨C,newId,x,m,oe,vs,t,ot,n,hC,hN,hm,he,hcls,hd,h0,ht,htd⟩:=x;unfold bexcArgs;refine yk (wpAny_field he hd h0 (yk (wpAny_seqItems ht htd ?_)));exact yn (hq t)
theorem zst{Q:Fin->Shared->Prop}(x:zho h e l tk)(hq:Q (.done (.ret (.str l tk))) ⟨h,g,d,tk0,os⟩):wpAny (model prog w) A (Builtin.«BaseException.__str__» ⟨[.ref e],[]⟩) Q E ⟨h,g,d,tk0,os⟩:=by
 unfold Builtin.«BaseException.__str__»
 repeat (first|with_reducible refine zsP x λt=>?_|wp_step)
 exact hq
theorem zmI{Q:Option Value->Shared->Prop}(x:zho h e l tk)(hq:Q (some (.str l tk)) ⟨h,g,d,tk0,os⟩):wpAny (model prog w) A (callSpecial? (.ref e) "__str__") Q E ⟨h,g,d,tk0,os⟩:=by
 have x':=x;obtain⟨C,newId,z,m,oe,vs,t,ot,n,hC,hN,hm,he,hcls,_⟩:=x';unfold callSpecial?;refine yk ?_;unfold specialOf
 repeat (first|(with_reducible refine wpAny_loadPart_at he ?_;rw[hcls])|wp_step)
 refine wpAny_typeLookup_exc hC hN F.excBase_ValueError.mroIs F.excStr_ValueError.str.lookup ?_;rw[hm];refine yE (yk (wpAny_of_eq (F.excStr_ValueError.str.bind _) ?_));exact yk (wpAny_call (codeAny_call_builtin F.excStr_ValueError.str.plain F.entry_bexc_str (zqr x (zst x (yn hq)))))
theorem zsv(hu:A.units<cLine){Q:Value->Shared->Prop}(x:zho h e l tk)(hq:Q (.str l tk) ⟨h,g,d,tk0,os⟩):wpAny (model prog w) A (Builtin.Str.strOf (.ref e)) Q E ⟨h,g,d,tk0,os⟩:=by
 unfold Builtin.Str.strOf
 repeat (first|with_reducible refine wpAny_cRoomFor hu ?_|with_reducible refine zmI x ?_|wp_step)
 exact hq
end
theorem zvE{prog:Program}{w:World}{A:Around}{E:Value->Shared->Prop}{s:Shared}{e:Addr}{l:Str}{tk:Tok}(hu:A.units+2<cLine){Q:Value->Shared->Prop}(x:zho s.heap e l tk)(h:Q (.str l tk) s):wpAny (model prog w) A (call (.type "str") [.ref e]) Q E s:=
 callType_new F.called_str (by decide) (F.typeCall_str_1 _) (F.newCall_str_1 _) (λobj=>F.args_object_init_2 obj _) F.entry_str_new
  (meets_str_new (S:=λA' R s'=>A'.units+1<cLine∧zho s'.heap e l tk∧R (.ok (.ret (.str l tk))) s')
   λ_ _ A' _ s' hq=>by
    refine zmO hq λh1 h2 h3=>?_;cases s';exact zsv (A:=A'.in1) h1 h2 h3)
  ⟨(show A.units+1+1<cLine from hu),x,typeIs_str _ _ _,h⟩
section
variable{S:St0}{sh:zai}
theorem zp6(D0:Std S)(N0:ClsAt S.mg S.base){h:Heap}{P:Addr->Prop}{v:Value}{m:List Nat}(k:S.base.StaysIn h)(x:zcj S h P v (.err .toml m)):∃e tk,v=.ref e∧zho h e (mk m) tk:=by
 refine zfh D0.own λC O=>?_;refine zAq N0 λC' o cd mm n1 n2 n3 n4 n5 n6=>?_;have hcls:S.cls .toml=.ref C:=St0.cls_toml O.bound;have eC:C'=C:=by
  have hb:=O.bound;clear n4 n2;rw[n1]at hb;clear n1;cases hb;rfl
 left;subst eC;obtain⟨z,hC,hN,hqn,OT⟩:=zf2 O;have eo:=n2.symm.trans hC;have eo:=yi eo;have ed:(.cls cd:Data)=(excClassObj z.nm z.q C' z.N z.bs z.bm z.hdct z.sn z.sub z.ab z.col z.dd z.k0 z.k1 z.k2 z.k3 z.k5 "ValueError.__new__").data:=n3.symm.trans (ya Obj.data eo);have ec:=Data.cls.inj ed;have hbm:z.bm=bmV:=by
  rw[ec]at n4;exact(yM n4).2
 have hns:S.base.Ns z.N mm:=by
  rw[ec]at n5;exact n5
 cases x with
 |err h1 h2 h3 h4 h5 h6 h7 h8=>
  obtain⟨n,h8⟩:=h8;exact⟨_,_,rfl,C',_,z,mm,_,_,_,_,n,hbm▸k _ _ hC,hns.keeps k,n6,h1,h2.trans hcls,h3,h4,h6,h8⟩
noncomputable def EC.toml?:EC->Bool
 |.toml=>true
 |_=>false
noncomputable def D.terr?:D->Option (List Nat)
 |.err c m=>if c.toml? then some m else Option.none
 |_=>Option.none
theorem D.terr?_inv{d:D}{m:List Nat}(h:d.terr?=some m):d=.err .toml m:=by
 cases d<;>first
  |(exact zad h;done)
  |(induction c<;>(first|exact zad h|obtain rfl:=yi h);rfl)
  |skip
noncomputable def zzg(ds:List D)(Q:Res->Prop)(X:Err->Prop):Prop:=one cD ds λd=>oM d.terr? λm=>Q (.pl (.str m))
theorem zlM(D0:Std S)(N0:ClsAt S.mg S.base):znm S sh (.type "str") zzg:=λa ow st s vs ds Q X f R h q=>by
 left;refine za1 (ze2 q) λd e q=>?_;rw[e]at h;clear e;refine za1 (zel h) λv hzz h1=>?_;subst hzz;clear h;refine za1 (oM_inv q) λm hm q=>?_;have hd:=D.terr?_inv hm;clear hm;subst hd;have h1:zcj S s.heap (Pv a noX ow) v (.err .toml m):=by
  left;rcases h1 with h1|⟨_,_,_,_,_,_,z,_⟩
  ·exact h1
  ·cases z
 refine zfA (zp6 D0 N0 (R.stays f) h1) λe' tk hzz x=>?_;subst hzz;exact zvE (by have:=zhO f;omega) x (zcb (tk:=s.toks) R rfl q)
end
end
theorem zzR{S:St0}{sh:zai}{l:List Stmt}:zaV S sh l zAc:=λ_ _ _ _ _ _ _ _ q=>q.elim
noncomputable def zbo:Fn:=zsX cS cI cB λs p lit=>gO (okB 340000 s p && !lit) (some (toR (zhI s (lfN s p.toNat))))
noncomputable def zbS:Ctr:=⟨70,true,[ofString "literal"],λds dk=>zbH (zbo ds dk)⟩
@[reducible]noncomputable def zbR:PS:=(zaf (zdk 1 (zag (.int 3)) zdB) (zaf (zeR (zcO (zdg (zae 0) (zab (zag (.str [10])) (zab (zae 1) zaj)) zdY)) (zaf (zdk 1 (zag (.int 1)) zdB) zap) zap) (zaf (zeR (zcO (zae 2)) zAc (zaf (zay 3 (zag (.str [34]))) (zaf (zeH [1,5] (peK zbj (zab (zae 0) (zab (zae 1) zaj)) (zab (zag (.bool true)) zaj))) zap))) (zaf (zeR (zl5 (zcO (zdg (zae 0) (zab (zae 3) (zab (zae 1) zaj)) zdY))) (zaf (zbT (zev (zab (zae 1) (zab (zae 5) zaj)))) zap) zap) (zaf (zdk 1 (zag (.int 1)) zdB) (zaf (zeR (zl5 (zcO (zdg (zae 0) (zab (zae 3) (zab (zae 1) zaj)) zdY))) (zaf (zbT (zev (zab (zae 1) (zab (pe2 (zae 5) (zae 3) zdb) zaj)))) zap) zap) (zaf (zdk 1 (zag (.int 1)) zdB) (zaf (zbT (zev (zab (zae 1) (zab (pe2 (zae 5) (pe2 (zae 3) (zag (.int 2)) zxh) zdb) zaj)))) zap))))))))
@[reducible]noncomputable def ztw:PS:=(zaf (zeR (zcO (zae 2)) zAc (zaf (zay 3 (zag (.str [34]))) (zaf (zeH [1,5] (peK zbj (zab (zae 0) (zab (zae 1) zaj)) (zab (zag (.bool true)) zaj))) zap))) zse)
theorem zu9{s:List Nat}{q:Nat}{Q:D->Prop}{X:Err->Prop}(hs:okT s=true)(hq:q≤350000)(h:zh7 (zhI s q) Q X) :
  ztw (zn4 Q) (λx _=>X x) [.val (.str s),.val (.int (q:Nat)),.val (.bool false),.unb,.unb,.unb]:=by
 have hl:=zcs hs;refine zaY rfl ?_;refine zoh (ml:=true) hs hq rfl ?_;unfold zhI at h;revert h;cases hu:zcm s true q with
 |error m=>exact λh=>h
 |ok r=>
  obtain⟨p',t⟩:=r;intro h;have hx:=zeo _ (yq _) (yb _) hu;exact zyH (q:=p') (yj hx.1 (yj hx.2 (yj (yQ hl 10) (by decide)))) h
theorem zts{s:List Nat}{p:Nat}{Q:D->Prop}{X:Err->Prop}(hs:okT s=true)(hp:p≤340000)(h:zh7 (zhI s (lfN s p)) Q X):zf7 zbR 3 [.str s,.int (p:Nat),.bool false] Q X:=by
 unfold lfN at h;by_cases e:cut s (p+3) (p+3+1)=[10]
 ·rw[if_pos e]at h
  refine za4 (c:=Txt.startswith3 (mk s) (mk [10]) ((p+3:Nat):Int)) ((zhb ..).trans (yt e)) ?_;exact zu9 (q:=p+3+1) hs (yj (yQ hp 4) (by decide)) h
 ·rw[if_neg e]at h
  refine zaY (c:=Txt.startswith3 (mk s) (mk [10]) ((p+3:Nat):Int)) ((zhb ..).trans (yv e)) ?_;exact zu9 (q:=p+3) hs (yj (yQ hp 3) (by decide)) h
theorem ztM(ds dk:List D)(Q:D->Prop)(X:Err->Prop)(h:zbH (zbo ds dk) Q X):ds.length+1=3∧zf7 zbR 3 (ds++dk) Q X:=by
 left;obtain⟨s,p,lit,rfl,rfl,h⟩:=zio h;obtain⟨hp,g⟩:=zdM h;obtain⟨hp,hl⟩:=yu.mp hp;obtain⟨p,rfl,hp1,hs⟩:=zeT hp;have hl:lit=false:=by rwa[Bool.not_eq_true']at hl
 subst hl;exact⟨rfl,zts hs hp1 ((zcc ..).mp g)⟩
theorem zrH{s:List Nat}{p:Nat}{Q:D->Prop}{X:Err->Prop}(hs:okT s=true)(hp:p≤340000)(h:zh7 (zhI s (lfN s p)) Q X):zbH (zbo [.str s,.int (p:Nat)] [.bool false]) Q X:=
 zgn (by rw[zhu hs hp];rfl) ((zcc ..).mpr h)
theorem zpw{l p:List Nat}{hi d:Nat}(h:d≤hi)(i:Nat):zdz l p hi (d+i)=zdz (l.drop d) p (hi-d) i:=by
 unfold zdz;rw[List.drop_drop,show decide (d+i+p.length≤hi)=decide (i+p.length≤hi-d)from decide_eq_decide.mpr (by rw[Nat.add_assoc];exact(Nat.le_sub_iff_add_le' h).symm)]
theorem zgP{l p:List Nat}{hi d:Nat}(h:d≤hi):∀(m a f:Nat),zhy l p hi (List.range' (d+a) m) (d+f)=(zhy (l.drop d) p (hi-d) (List.range' a m) f).map (· + d)
 |0,_,_=>rfl
 |m+1,a,f=>by
  rw[List.range'_succ,List.range'_succ];rw[zhy,zhy];rw[zpw h,show decide (d+f≤d+a)=decide (f≤a)from decide_eq_decide.mpr Nat.add_le_add_iff_left];by_cases hc:(decide (f≤a)&&zdz (l.drop d) p (hi-d) a)=true
  ·rw[if_pos hc,if_pos hc,List.map_cons,Nat.add_comm a d,show d+a+p.length=d+(a+p.length)from Nat.add_assoc ..]
   exact ya _ (zgP h m (a+1) _)
  ·rw[if_neg hc,if_neg hc]
   exact zgP h m (a+1) f
theorem zj1{l p:List Nat}{hi:Nat}:∀(m a f:Nat){i:Nat},f≤a->(List.range' a m).find? (zdz l p hi)=some i->zhy l p hi (List.range' a m) f=i::zhy l p hi (List.range' (i+1) (a+m-(i+1))) (i+p.length)
 |0,_,_,_,_,h=>zad h
 |m+1,a,f,i,hf,h=>by
  rw[List.range'_succ,List.find?_cons]at h;rw[List.range'_succ,zhy];cases hA:zdz l p hi a with
  |true=>
   rw[hA]at h;have h:=yi h;subst h;rw[decide_eq_true hf,if_pos (show(true&&true)=true from rfl),←Nat.add_assoc,Nat.add_right_comm,Nat.add_sub_cancel_left]
  |false=>
   rw[hA]at h;rw[Bool.and_false,if_neg (λz=>Bool.noConfusion z),zj1 m (a+1) f (Nat.le_succ_of_le hf) h,Nat.add_assoc a 1 m,Nat.add_comm 1 m]
theorem zl7{l p:List Nat}{hi:Nat}:∀(d m a:Nat),zhy l p hi (List.range' a m) (a+d)=zhy l p hi (List.range' (a+d) (m-d)) (a+d)
 |0,_,_=>rfl
 |d+1,0,_=>by rw[Nat.zero_sub];rfl
 |d+1,m+1,a=>by
  rw[List.range'_succ,zhy,decide_eq_false (Nat.not_le.mpr (Nat.lt_add_of_pos_right (Nat.succ_pos d))),Bool.false_and,if_neg (λz=>Bool.noConfusion z),Nat.succ_sub_succ];have e:a+(d+1)=a+1+d:=by rw[Nat.add_assoc,Nat.add_comm 1 d]
  rw[e];exact zl7 d m (a+1)
theorem ztQ{n i k:Nat}(h:i+(k+1)≤n):0+(n+1-0)-(i+1)-k=n-(i+(k+1))+1-0:=by
 rw[Nat.zero_add,Nat.sub_zero,Nat.sub_zero,Nat.add_sub_add_right,Nat.sub_sub];exact(Nat.succ_pred_eq_of_pos (Nat.sub_pos_of_lt h)).symm
theorem zvh{l p:List Nat}{i:Nat}(h:zca l p 0 l.length=some i):i+p.length≤l.length:=yC (yu.mp (show zdz l p l.length i=true from List.find?_some h)).1
theorem zs6{l p:List Nat}{i:Nat}(hp:p≠[])(h:zca l p 0 l.length=some i):ziY l p 0 l.length=i::(ziY (l.drop (i+p.length)) p 0 (l.drop (i+p.length)).length).map (· + (i+p.length)):=by
 have hle:=zvh h;have g:=zj1 (l:=l) (p:=p) (hi:=l.length) _ 0 0 (yq 0) h;obtain⟨k,hk⟩:∃k,p.length=k+1:=⟨p.length-1,(Nat.succ_pred_eq_of_pos (List.length_pos_iff.mpr hp)).symm⟩;have sh:=zgP (l:=l) (p:=p) hle ((l.drop (i+p.length)).length+1-0) 0 0;rw[←List.length_drop]at sh;unfold ziY;rw[g];refine ya _ (Eq.trans ?_ sh);have e:i+p.length=i+1+k:=by rw[hk,Nat.add_assoc,Nat.add_comm 1 k]
 rw[List.length_drop,Nat.add_zero,e,zl7 k,←e,hk,ztQ (hk▸hle)];rfl
theorem zp4{l p:List Nat}(h:zca l p 0 l.length=none):ziY l p 0 l.length=[]:=by
 have:=ziW l p l.length (List.range' 0 (l.length+1-0)) 0 λi _=>yb i;unfold zca at h;rw[h]at this;exact List.head?_eq_none_iff.mp this
theorem zqB(l:List Nat)(d x y:Nat):cut l (x+d) (y+d)=cut (l.drop d) x y:=by
 unfold cut;rw[List.drop_drop,Nat.add_comm d x,Nat.add_sub_add_right]
theorem ze9{l p:List Nat}{i:Nat}(hp:p≠[])(h:zca l p 0 l.length=some i):zbN l p=l.take i::zbN (l.drop (i+p.length)) p:=by
 have hle:=zvh h;have e0:=zs6 hp h;generalize hd:i+p.length=d at e0 hle⊢;have hn:l.length=(l.drop d).length+d:=by rw[List.length_drop,Nat.sub_add_cancel hle]
 unfold zbN;rw[e0];generalize ziY (l.drop d) p 0 (l.drop d).length=cs;have e1:(i::cs.map (· + d))++[l.length]=i::(cs++[(l.drop d).length]).map (· + d):=by rw[List.map_append,List.map_singleton,←hn];rfl
 have e2:(i::cs.map (· + d)).map (· + p.length)=(0::cs.map (· + p.length)).map (· + d):=by
  rw[List.map_cons,List.map_cons,List.map_map,List.map_map,hd,Nat.zero_add];exact ya _ (List.map_congr_left λx _=>Nat.add_right_comm x d p.length)
 rw[e1,e2,List.zip_cons_cons,List.map_cons,List.zip_map,List.map_map];rw[show cut l (0,i).1 (0,i).2=l.take i from rfl];exact ya _ (List.map_congr_left λx _=>zqB l d x.1 x.2)
theorem zec{l p:List Nat}(h:zca l p 0 l.length=none):zbN l p=[l]:=zfu (zp4 h)
theorem zgK(l:List Nat)(c i:Nat):zdz l [c] l.length i=true↔l[i]?=some c:=by
 unfold zdz;rw[Bool.and_eq_true,decide_eq_true_iff,beq_iff_eq,List.length_singleton]
 constructor
 ·rintro⟨_,h⟩
  have:=ya (λx:List Nat=>x[0]?) h;rw[List.getElem?_take,if_pos (by decide),List.getElem?_drop,Nat.add_zero]at this;exact this
 ·intro h
  exact⟨zaK h,by rw[zcd h];rfl⟩
theorem zfw{l:List Nat}{c:Nat}(h:c∉l):zca l [c] 0 l.length=none:=List.find?_eq_none.mpr λi _ z=>h (yw ((zgK l c i).mp z))
theorem zlo{pre r:List Nat}{c:Nat}(h:c∉pre):zca (pre++c::r) [c] 0 (pre++c::r).length=some pre.length:=by
 unfold zca;refine List.find?_eq_some_iff_append.mpr ⟨(zgK _ _ _).mpr (by simp),List.range' 0 pre.length,List.range' (pre.length+1) (r.length+1),?_,λj hj=>?_⟩
 ·rw[show(pre++c::r).length+1-0=pre.length+(r.length+2) by simp;lia,←List.range'_append,Nat.one_mul,Nat.zero_add,List.range'_succ]
 ·have hj:=(List.mem_range'_1.mp hj).2
  rw[Bool.not_eq_true',Bool.eq_false_iff];intro z;have:=(zgK _ _ _).mp z;rw[List.getElem?_append_left (by lia)]at this;exact h (yw this)
theorem zh8{l:List Nat}{c:Nat}(h:c∉l):zbN l [c]=[l]:=zec (zfw h)
theorem zpg{pre r:List Nat}{c:Nat}(h:c∉pre):zbN (pre++c::r) [c]=pre::zbN r [c]:=by
 rw[ze9 (by simp) (zlo h),List.take_left,List.length_singleton,show pre++c::r=(pre++[c])++r by simp,List.drop_left' (by simp)]
theorem zvo{c:Nat}(b:List Nat):∀a:List Nat,(a++c::b).takeWhile (· != c)=a.takeWhile (· != c)
 |[]=>by simp
 |x::a=>by
  rw[List.cons_append,List.takeWhile_cons,List.takeWhile_cons,zvo b a]
theorem zt5{n:Nat}{pre r:List Nat}{c:Nat}(h:(pre++c::r).length≤n+1):r.length≤n:=by
 rw[List.length_append,List.length_cons]at h;exact Nat.le_of_succ_le_succ (yj (xb _ _) h)
theorem zt4{pre r:List Nat}{c:Nat}(hp:c∉pre):(pre++c::r).count c=r.count c+1:=by rw[List.count_append,List.count_cons_self,List.count_eq_zero.mpr hp,Nat.zero_add]
theorem zvC{pre r:List Nat}{c:Nat}:(pre++c::r).reverse.takeWhile (· != c)=r.reverse.takeWhile (· != c):=by
 rw[List.reverse_append,List.reverse_cons,List.append_assoc];exact zvo _ _
theorem ztP(c:Nat):∀(n:Nat)(l:List Nat),l.length≤n->(zbN l [c]).length=l.count c+1∧∃r,(zbN l [c])[l.count c]?=some r∧r.length=(l.reverse.takeWhile (· != c)).length:=by
 intro n
 induction n with
 |zero=>
  intro l hn;rw[List.eq_nil_of_length_eq_zero (Nat.le_zero.mp hn),zh8 (List.not_mem_nil)];exact⟨rfl,[],rfl,rfl⟩
 |succ n ih=>
  intro l hn;by_cases h:c∈l
  ·refine zfA (List.eq_append_cons_of_mem h) λpre r e hp=>?_
   rw[e]at hn⊢;obtain⟨h1,x,h2,h3⟩:=ih r (zt5 hn);rw[zpg hp,zt4 hp,zvC];exact⟨by rw[List.length_cons,h1],x,h2,h3⟩
  ·rw[zh8 h,List.count_eq_zero.mpr h]
   refine⟨rfl,l,rfl,?_⟩;rw[zov (λz=>h (List.mem_reverse.mp z)),List.length_reverse]
noncomputable def zmx(h:Heap)(P:Addr):Heap:=h.update P λo=>{o with data:=.freed}
set_option tactic.hygienic true in
theorem zlz(h:Heap)(P:Addr):(zmx h P).get? P=none:=by
 unfold zmx;cases h
 rename_i objs life
 simp only[Heap.update,Heap.get?,Array.getElem?_modify,if_true];cases e:objs[P]? with
 |none=>rfl
 |some o=>rfl
theorem znb{h:Heap}{P b:Addr}(n:b≠P):(zmx h P).get? b=h.get? b:=Heap.get?_update_ne _ _ _ _ n
theorem zjK(h:Heap)(P:Addr):(zmx h P).StaysIn h:=λb o e=>by
 by_cases q:b=P
 ·rw[q,zlz]at e;exact zad e
 ·rwa[znb q]at e
section
variable{h:Heap}{P:Addr}(hP:h.get? P=some {cls:=.none,data:=.fields #[]})
include hP
theorem zgq{b:Addr}{o:Obj}(e:h.get? b=some o)(n:o.cls≠.none):(zmx h P).get? b=some o:=by
 rw[znb];exact e;rintro rfl;rw[hP]at e;cases e;exact n rfl
theorem zc6{b:Addr}{o:Obj}(e:h.get? b=some o)(n:o.data≠.fields #[]):(zmx h P).get? b=some o:=by
 rw[znb];exact e;rintro rfl;rw[hP]at e;cases e;exact n rfl
theorem zfX{a:Addr}{m}(x:h.Ns a m):(zmx h P).Ns a m:=by
 refine zra x λo es ep h1 h2 r=>?_;exact zxL o es ep (zc6 hP h1 (by rw[h2];nofun)) h2 r
theorem zly{cd:Value}{q:Str}(x:h.CodeRec cd q):(zmx h P).CodeRec cd q:=by
 refine zzT x λc o vs t e h1 h2 h3=>?_;refine zAp c o vs t e (zc6 hP h1 (λz=>?_)) h2 h3;rw[h2]at z;injection z with z;subst z;simp at h3
theorem zqb{bmB tl:List Value}(T:OwnTailQ h bmB tl):OwnTailQ (zmx h P) bmB tl:=by
 induction T with
 |base=>exact .base
 |own hA hN hq _ ih=>exact .own (zc6 hP hA (by nofun)) (zfX hP hN) hq ih
theorem zus{x:Str}{C:Addr}{bmB:List Value}{newId:String}{mg:Str->Option Value}(O:OwnClsQ x C bmB newId mg h):OwnClsQ x C bmB newId mg (zmx h P):=by
 left;obtain⟨z,hC,hN,hq,T⟩:=zf2 O;refine⟨O.bound,z.bm,z.N,z.nm,z.q,z.bs,z.hdct,z.sn,z.sub,z.ab,z.col,z.dd,z.k0,z.k1,z.k2,z.k3,z.k5,z.mN,zc6 hP hC (by unfold excClassObj;nofun),zfX hP hN,hq,zqb hP T⟩
end
noncomputable def mkS(p:Program)(w:World)(mg mb:Str->Option Value)(h:Heap)(P:Addr)(i:Nat):St0:=
 {prog:=p,w:=w,mg:=mg,mb:=mb,base:=zmx h P,tab:=P,lf:=⟨ofString "coord_repr",zuT p i,zon p i,zh3 p i,(mg "__name__").getD .none⟩}
inductive FnA(S:St0)(n:Str)(params:Arguments)(body:List Stmt)(scope:Scope)(a:Addr)(o:Obj)(pm cd doc:Value):Prop
 |mk (qa:S.mg n=some (.ref a)) (qb:S.base.get? a=some o) (qc:o.data=.func (docDef n params body scope pm cd doc)) (qd:S.base.CodeRec cd n)
noncomputable def FnAt(S:St0)(n:Str)(params:Arguments)(body:List Stmt)(scope:Scope):Prop:=∃a o pm cd doc,FnA S n params body scope a o pm cd doc
section
variable{p q:Program}{loose:List Str}{w:World}{s₀:Shared}{mg mb:Str->Option Value}{h:Heap}{XP:(Str->Option Value)->Heap->Prop}{P:Addr}{i:Nat}
theorem zdd(G:Ground q loose [] XP w s₀ mg mb h)(hP:h.get? P=some {cls:=.none,data:=.fields #[]}){n:Str}{params:Arguments}{body:List Stmt}{scope:Scope}{pos:Pos}(hd:defOf q n=some (⟨n,params,body,scope,pos⟩,[]))(hdf:params.defaults=[]) :
  FnAt (mkS p w mg mb h P i) n params body scope:=by
 obtain⟨a,o,pm,cd,doc,dV,kV,h1,h2,h3,h4,h5⟩:=G.fn hd;have e1:dV=.none:=by
  rcases h5.pos with⟨_,e⟩|⟨e,_⟩
  ·exact e
  ·exact absurd hdf e
 have e2:kV=.none:=by
  rcases h5.kw with⟨_,e⟩|⟨e,_⟩
  ·exact e
  ·exact absurd rfl e
 clear h5;subst e1 e2;exact⟨a,o,pm,cd,doc,h1,zc6 hP h2 (by rw[h3];nofun),h3,zly hP h4⟩
theorem zyM(G:Ground q loose [] XP w s₀ mg mb h)(hP:h.get? P=some {cls:=.none,data:=.fields #[]})(hs:specOf q "TOMLDecodeError"=some ("ValueError.__new__",bmV)):Std (mkS p w mg mb h P i):=by
 refine za1 (G.T.ownAt hs) λC O _=>?_;refine za1 G.T.nolimit λmc n1 n2=>?_;refine za1 G.T.nodigits λmd d1 d2=>?_;exact⟨zfX hP G.T.g,zfX hP G.T.b,(zbO mc (zfX hP n1) n2),(zbO md (zfX hP d1) d2),G.T.builtins,⟨C,zus hP O⟩,zlz h P⟩
theorem zxT(G:Ground q loose [] XP w s₀ mg mb h)(hP:h.get? P=some {cls:=.none,data:=.fields #[]}):(mkS p w mg mb h P i).base.BuiltinsAt (mkS p w mg mb h P i).mg (mkS p w mg mb h P i).tab:=by
 refine zA3 G.T.bmain λbm ob h1 h2 h3 h4 h5 h6=>?_;refine⟨bm,ob,h1,h2,λe=>?_,λe=>?_,zgq hP h3 (by rw[h4];nofun),h4,h5,h6⟩
 ·clear h5 h4
  refine zra G.T.g λo es ep g1 g2 _=>?_;simp only[e,g1]at h3;obtain rfl:=yi h3;cases g2.symm.trans h6
 ·have e:bm=P:=e
  simp only[e,hP]at h3;clear h6 h5;obtain rfl:=yi h3;cases h4
theorem tab_of(G:Ground q loose [] XP w s₀ mg mb h){n:Str}{d:DefRec}(hd:(recsOf q).find? (λe=>e.name==n)=some d):∃a o fd c P,mg n=some (.ref a)∧h.get? a=some o∧o.data=.func fd∧fd.code=.ref c∧h.IsCode c P #[]∧h.TableAt c P #[]:=by
 have hn:d.name=n:=beq_iff_eq.mp (List.find?_some (p:=λe:DefRec=>e.name==n) hd);obtain⟨a,o,fd,c,P,h1,r⟩:=G.T.tab d (List.mem_of_find?_eq_some hd);exact⟨a,o,fd,c,P,hn▸h1,r⟩
theorem zpG{c:Addr}(x:h.IsCode c P #[])(y:h.TableAt c P #[]):zd1 (mkS p w mg mb h P i) (.ref c):=by
 left;obtain⟨o,vs,file,tf,flags,tg,inF,text,tt,op,h1,h2,h3,h4,h5,h6,h7,h8,h9,h10,h11⟩:=x;obtain⟨⟨o',vs',k1,k2,k3,k4⟩,hP⟩:=y;rw[h1]at k1;obtain rfl:=yi k1;rw[h2]at k3;cases k3;exact⟨c,o,vs,file,tf,flags,tg,inF,text,tt,rfl,zgq hP h1 (by rw[k2];nofun),k2,h2,k4,h4,h5,h6,h7⟩
end
theorem zr1{p:Program}{w:World}{sets:List (Str×List Str)}{mg:Str->Option Value}{h:Heap}{P:Addr}(hP:h.get? P=some {cls:=.none,data:=.fields #[]})(S:zdv p w sets mg h):zdv p w sets mg (zmx h P):=λn l hm=>
 let ⟨a,d,h1,h2,h3⟩:=S n l hm
 (zlk a d h1 (zgq hP h2 (by unfold zan;nofun)) h3)
section
variable{S:St0}
theorem zfB(D0:Std S){sh:zai}{n:Str}{a:Addr}{o:Obj}{params:Arguments}{body:List Stmt}{scope:Scope}{pm cd doc dV kV:Value}{ps rest kws:List Str}{c:PS}{F:Fn}{l:List (Str×Ctr)}
  (hm:S.mg n=some (.ref a))(ho:S.base.get? a=some o)(hd:o.data=.func {docDef n params body scope pm cd doc with defaults:=dV,kwdefaults:=kV})(hcd:S.base.CodeRec cd n)
  (hco:scope.isCoroutine=false)(hgen:scope.isGenerator=false)(hk:scope.kind=.function)(hsc:sh.scope=scope)(hcell:(scope.names.all λx=>x.2 != .cell)=true)
  (hnames:sh.names=ps++rest)(hloc:(sh.names.all λx=>sh.scope.names.lookup x==some .local)=true)(hnd:sh.names.Nodup)
  (hbind:∀(s:Shared)(vs ks:List Value),vs.length+kws.length=ps.length->ks.length=kws.length->BindsTo s {docDef n params body scope pm cd doc with defaults:=dV,kwdefaults:=kV} ⟨vs,kws.zip ks⟩ (ps.zip (vs++ks)))
  (hps:kws.length≤ps.length)(H:zaV S sh body c)(k:∀ds dk Q X,zbH (F ds dk) Q X->ds.length+kws.length=ps.length∧zf7 c rest.length (ds++dk) Q X)
  (hin:sh.inner=true->zd1 S cd∧n++ofString ".<locals>."=ofString "suffixed_err.<locals>.")(t:zaB S (zaz l))(hcs:sh.cells=[]:=by rfl) :
  zaB S (zaz ((n,⟨sh.rank+10,sh.calm,kws,λds dk=>zbH (F ds dk)⟩)::l)):=
 zaB.cons hm ho hd (zhH.mono (zqJ D0 (sh:=sh) ho hd hcd rfl rfl rfl hco hgen hk hsc (λx hx=>by
   have:=yK.mp hcell x hx;simpa using this) hnames (λx hx=>by
   have:=yK.mp hloc x hx;exact eq_of_beq this) hnd rfl (λs vs ks _ h1 h2=>hbind s vs ks h1 h2) hps H hin (hcs:=hcs)) (yq _) k) t
theorem Gl.nil:Gl S []:=λn d h=>by exact zad h
theorem Gl.cons{n:Str}{d:D}{gl:List (Str×D)}(h1:∃v,S.mg n=some v∧∀h P,S.base.StaysIn h->zcj S h P v d)(t:Gl S gl):Gl S ((n,d)::gl):=λn' d' h=>by
 by_cases e:n'=n
 ·obtain rfl:=e.symm
  rw[List.lookup_cons_self]at h;obtain rfl:=yi h;exact h1
 ·rw[List.lookup,show(n'==n)=false from by simpa using e]at h
  exact t n' d' h
theorem ziS{n:Str}{params:Arguments}{body:List Stmt}{scope:Scope}(F:FnAt S n params body scope):∃v,S.mg n=some v∧∀h P,S.base.StaysIn h->zcj S h P v (.fn n):=by
 left;obtain⟨a,o,pm,cd,doc,h1,_⟩:=F;exact zbO _ h1 (λh P _=>.fn h1)
theorem zmh{sets:List (Str×List Str)}(SS:zdv S.prog S.w sets S.mg S.base){n:Str}{l:List (List Nat)}(hm:(n,l.map mk)∈sets):∃v,S.mg n=some v∧∀h P,S.base.StaysIn h->zcj S h P v (.fset l):=by
 refine zfQ (SS n _ hm) λa d h1 h2 h3=>?_;exact⟨_,h1,λh P k=>.fset (k _ _ h2) h2 h3⟩
theorem zpE(E:zi6 S.prog S.w S.mg S.base):zaw S:=by
 obtain⟨M,D,oM,vs,f,e1,e2,e3,e4,e5,e6,e7,e8,e9⟩:=E;refine⟨M,D,oM,vs,f,e1,e2,e3,e4,e5,e6,e7,λk v h=>?_,λk h=>?_⟩
 ·have:(k,v)∈zcY:=zhc h
  exact e8 _ this
 ·refine e9 k λp hp e=>?_
  subst e;have:∀p∈zcY,zji p.1≠none:=by decide
  exact this p hp h
theorem zoO{prog:Program}{w:World}{mg:Str->Option Value}{h:Heap}{P:Addr}(hP:h.get? P=some {cls:=.none,data:=.fields #[]})(x:zi6 prog w mg h):zi6 prog w mg (zmx h P):=by
 left;obtain⟨M,D,oM,vs,f,e1,e2,e3,e4,e5,e6,⟨o,es,ep,m1,m2⟩,e8,e9⟩:=x;exact⟨M,D,oM,vs,f,e1,zgq hP e2 (by rw[e3];nofun),e3,e4,e5,e6,(zu2 o es ep (zgq hP m1 (by rw[m2.1.1];nofun)) m2),e8,e9⟩
theorem zxc{α:Type}{l:List α}(h:l.length=1):∃a,l=[a]:=by
 match l,h with
 |[a],_=>exact⟨a,rfl⟩
theorem zvr{α:Type}{l:List α}(h:l.length=2):∃a b,l=[a,b]:=by
 match l,h with
 |[a,b],_=>exact zxR a b rfl
theorem zze{α:Type}{l:List α}(h:l.length=3):∃a b c,l=[a,b,c]:=by
 match l,h with
 |[a,b,c],_=>exact zAV a b c rfl
theorem zu5{α:Type}{l:List α}(h:l.length=0):l=[]:=List.length_eq_zero_iff.mp h
noncomputable def zyn(q:Program)(loose:List Str)(l:List Str):Bool:=l.all λx=>!decide (x∈startupNames) && !decide (x∈looseW q loose) && !decide (x∈(recsOf q).map (·.name)) && !decide (x∈(litsOf q).map (·.1)) && !decide (x∈(clssOf q (looseW q loose)).map (·.name))
theorem zx2{q:Program}{loose:List Str}{w:World}{s₀:Shared}{mg mb:Str->Option Value}{h:Heap}{XP:(Str->Option Value)->Heap->Prop}(G:Ground q loose [] XP w s₀ mg mb h){l:List Str}(hf:zyn q loose l=true):∀x∈l,mg x=none:=λx hx=>by
 have:=yK.mp hf x hx;simp only[Bool.and_eq_true,Bool.not_eq_true',decide_eq_false_iff_not]at this;obtain⟨⟨⟨⟨a,b⟩,c⟩,d⟩,e⟩:=this;exact G.T.free x a b c d e
end
noncomputable def zfU(p:Program)(i:Nat):Pos:=match p.main.body[i]? with
 |some (.FunctionDef _ _ _ _ _ _ _ _ _ pos)=>pos
 |_=>default
noncomputable def zpy{α:Type}(o:Obj):Sem α->Option (α×List Addr)
 |.pure a=>some (a,[])
 |.rule _ k=>zpy o (k ())
 |.point _ k=>zpy o (k ())
 |.load a _ k=>(zpy o (k o)).map λr=>(r.1,a::r.2)
 |_=>none
theorem zuh{α:Type}{o:Obj}{M:Model}{A:Around}{E:Value->Shared->Prop}{Q:α->Shared->Prop}{s:Shared}{a:α}(q:Q a s):∀(t:Sem α)(l:List Addr),zpy o t=some (a,l)->(∀b∈l,s.heap.get? b=some o)->wpAny M A t Q E s:=by
 intro t
 induction t with
 |pure b=>
  intro l e _;cases e;exact yn q
 |rule _ k ih=>intro l e h Γ p hΓ;exact ih () l e h Γ p hΓ
 |point _ k ih=>intro l e h Γ p hΓ;exact ih () l e h Γ p hΓ
 |load b _ k ih=>
  intro l e h Γ p hΓ;clear q;left;obtain⟨⟨a',l'⟩,e1,e2⟩:=Option.map_eq_some_iff.mp (show(zpy o (k o)).map (λr=>(r.1,b::r.2))=_ from e);clear e;cases e2;exact zbO o (h b yp) (ih o l' e1 (λc hc=>h c (ym _ hc)) Γ p hΓ)
 |_=>intro l e;exact zad e
noncomputable def zsR(c:Value)(dd:Option Addr)(hh:Int)(t:Tok)(n:Nat)(sl:Array (Option Value)):Obj:={cls:=c,dict:=dd,data:=.dict #[⟨hh,.str (ofString "multiline") t,.bool false⟩] n,slots:=sl}
theorem ztH{s:Shared}{fd:FuncData}{args:Args}{binds:List (Str×Value)}{K:Addr}{c:Value}{dd:Option Addr}{hh:Int}{t:Tok}{n:Nat}{sl:Array (Option Value)}(hk:s.heap.get? K=some (zsR c dd hh t n sl))(e:zpy (zsR c dd hh t n sl) (bindArgs fd args)=some (binds,[K])):BindsTo s fd args binds:=
 λM A E Q hq=>zuh hq _ _ e λb hb=>by rw[List.mem_singleton.mp hb];exact hk
theorem znu{h:Heap}{v:Value}(y:ReadsLit h v (.bool false) []):v=.bool false:=by
 cases y;rfl
theorem zyI{l:List DictEntry}{x:Str}{e:Expr}{mg:Str->Option Value}{h:Heap}(k5:KeysNamed l [x])(k6:DfltsAre mg h [e] (l.map (·.val))):∃en t,l=[en]∧en.key=.str x t∧DfltIs mg h e en.val:=by
 left;cases k5 with
 |cons q k=>
  cases k;cases k6 with
  |cons r _=>exact zlk _ _ rfl q r
theorem zyw{mg:Str->Option Value}{h:Heap}{v:Value}{k}{p:Pos}(r:DfltIs mg h (.Constant (.bool false) k p) v):v=.bool false:=by
 rcases r with⟨d,x,y⟩|⟨c,p,x,_⟩
 ·have hd:d=.bool false:=by injection x with x;exact x.symm
  subst hd;exact znu y
 ·cases x
theorem zzz{mg:Str->Option Value}{h:Heap}{P:Addr}{params:Arguments}{kwd:List (Str×Expr)}{dV kV:Value}{k}{p:Pos}(hP:h.get? P=some {cls:=.none,data:=.fields #[]})(D:Dflts mg h params kwd dV kV)(hk:kwd=[(ofString "multiline",.Constant (.bool false) k p)]) :
  ∃K c dd hh t n sl,kV=.ref K∧(zmx h P).get? K=some (zsR c dd hh t n sl):=by
 left;rcases D.kw with⟨e,_⟩|⟨_,K,oK,es,n,k1,k2,k3,k4,k5,k6⟩
 ·exact absurd e (by rw[hk];nofun)
 ·clear k3
  rw[hk]at k5 k6;obtain⟨l⟩:=es;refine zfQ (zyI k5 k6) λen t hzz q1 r=>?_;subst hzz;have hv:=zyw r;clear r k6 k5;obtain⟨c,dd,da,sl⟩:=oK;obtain⟨hh,key,val⟩:=en;dsimp only at k4 q1 hv;subst k4 q1 hv;exact⟨K,c,dd,hh,t,n,sl,k1,zc6 hP k2 (by nofun)⟩
theorem zoT{env:Env}{es:List Expr}:∀{e:Expr},kdsPlain e=true->starEach (e::es) env=(false,eval e env)::starEach es env:=λ{e} h=>by
 cases e<;>first
  |rfl
  |exact absurd h (by simp[kdsPlain])
theorem zak{S:St0}{sh:zai}{e:Expr}{es:List Expr}{c:PE}{cs:PEs}(H:zat S sh e c)(Hs:zb0 S sh es cs)(hp:kdsPlain e=true:=by rfl):zb0 S sh (e::es) (zab c cs):=zuv H Hs λenv=>zoT hp
noncomputable def zir(l:List D):Option (List Int):=match l with
 |[]=>some []
 |d::l=>match d.int? with
  |some i=>match zir l with
   |some m=>some (i::m)
   |none=>none
  |none=>none
theorem zj3:∀{l:List D}{ns:List Int},zir l=some ns->l=ns.map .int
 |[],ns,h=>by obtain rfl:=yi h;rfl
 |d::l,ns,h=>by
  rw[zir]at h;cases e1:d.int? with
  |none=>rw[e1]at h;exact zad h
  |some i=>
   rw[e1]at h;cases e2:zir l with
   |none=>rw[e2]at h;exact zad h
   |some m=>
    rw[e2]at h;obtain rfl:=yi h;rw[List.map_cons,←zj3 e2,D.int?_inv e1]
theorem zid:∀(ns:List Int),zir (ns.map .int)=some ns
 |[]=>rfl
 |i::ns=>by
  show(match zir (ns.map .int)with|some m=>some (i::m)|none=>none)=_;rw[zid ns]
noncomputable def lst?(d:D):Option (List Int):=match d with
 |.lst l=>zir l
 |_=>none
theorem lst?_inv{d:D}{ns:List Int}(h:lst? d=some ns):d=.lst (ns.map .int):=by
 cases d<;>first|(exact zad h;done)|exact ya D.lst (zj3 h)
noncomputable def cL:Dc (List Int):=⟨lst?,λns=>.lst (ns.map .int),lst?_inv⟩
theorem zth{ns:List Int}{l:List D}{k:List Int->List D->zjj}{Q:D->Prop}{X:Err->Prop}(h:zbH (k ns l) Q X):zbH (zeQ cL (.lst (ns.map .int)::l) k) Q X:=by
 have e:cL.of (.lst (ns.map .int))=some ns:=zid ns;unfold zeQ;dsimp only;rw[e];exact h
theorem znj{a b:Nat}{Q:Res->Prop}{X:Err->Prop}(hb:b≠0)(k:Q (.pl (.int (a%b:Nat)))):zrB (.int (a:Nat)) (.int (b:Nat)) Q X:=
 ⟨λz=>hb (Int.ofNat.inj z),by rw[←Int.ofNat_fmod];exact k⟩
theorem zjO{a b:Nat}{Q:Res->Prop}{X:Err->Prop}(hb:b≠0)(hp:(b:Nat).log2<9000)(k:Q (.pl (.int (a/b:Nat)))):zkN (.int (a:Nat)) (.int (b:Nat)) Q X:=
 ⟨λz=>hb (Int.ofNat.inj z),PyProof.noPylong_of_log2 hp,by rw[←Int.ofNat_fdiv];exact k⟩
theorem zyX{a e:Nat}{Q:Res->Prop}{X:Err->Prop}(h1:2≤a)(h2:a≤1000000000)(h3:e≤10000)(k:Q (.pl (.int (a^e:Nat)))):zAe (.int (a:Nat)) (.int (e:Nat)) Q X:=
 ⟨yR.mpr h1,yz _,yR.mpr h2,yR.mpr h3,by rw[Int.toNat_natCast,←Int.natCast_pow];exact k⟩
theorem zpY{j n:Nat}(h:j<n):seqIndex? (j:Nat) n=some j:=by
 unfold seqIndex?;simp only[show ¬((j:Int)<0)from by lia,if_false];rw[if_pos (by simp;omega)];rfl
theorem zuW{j:Nat}(h:j≤1000000):(decide ((j:Int) < -(2^63:Int))||decide ((j:Int) ≥ 2^63))=false:=by simp;omega
theorem zlQ{l:List D}{j:Nat}{d:D}{Q:Res->Prop}{X:Err->Prop}(hj:j≤1000000)(h:l[j]?=some d)(he:d.isExc=false)(q:Q (.pl d)):zrR (.lst l) (.int (j:Nat)) Q X:=
 ⟨zuW hj,d,by rw[zpY (List.getElem?_eq_some_iff.mp h).1];exact h,he,q⟩
theorem zyo(y:List Nat)(c:Nat):(zca y [c] 0 y.length).isSome=decide (c∈y):=by
 by_cases h:c∈y
 ·rw[decide_eq_true h]
  refine zfA (List.eq_append_cons_of_mem h) λpre r hzz hp=>?_;subst hzz;rw[zlo hp];rfl
 ·rw[decide_eq_false h,zfw h];rfl
theorem zk9{s:List Nat}{q:Nat}{Q:Res->Prop}(hs:s.length≤LIM)(k:Q (.pl (.str (s.take q)))):zgv s none (some (q:Nat)) Q:=by
 rw[zwI];refine⟨hs,?_⟩;have:zbk s none (some (q:Nat))=s.take q:=by
  unfold zbk;rw[show zaT none 0 s.length=0 from rfl,List.drop_zero,Nat.sub_zero];unfold zaT;dsimp only;rw[if_neg (Int.not_lt.mpr (Int.natCast_nonneg q)),zc5];rw[List.take_eq_take_iff];lia
 exact this▸k
theorem zjp{s:List Nat}{q:Nat}{Q:Res->Prop}(hs:s.length≤LIM)(k:Q (.pl (.str (s.drop q)))):zgv s (some (q:Nat)) none Q:=by
 rw[zwI];refine⟨hs,?_⟩;have:zbk s (some (q:Nat)) none=s.drop q:=by
  unfold zbk;rw[show zaT none s.length s.length=s.length from rfl];unfold zaT;dsimp only;rw[if_neg (Int.not_lt.mpr (Int.natCast_nonneg q)),zc5,List.take_of_length_le (by rw[List.length_drop];exact Nat.le_refl _)];by_cases h:q≤s.length
  ·rw[Nat.min_eq_left h]
  ·rw[Nat.min_eq_right (by omega),List.drop_of_length_le (Nat.le_refl _),List.drop_of_length_le (by omega)]
 exact this▸k
theorem zxU{i:Int}{Q:Res->Prop}{X:Err->Prop}(k:Q (.pl (.int (-i)))):zuZ (.int i) Q X:=k
theorem item_last{l:List D}{n:Nat}{d:D}{Q:Res->Prop}{X:Err->Prop}(hl:l.length=n+1)(h:l[n]?=some d)(he:d.isExc=false)(q:Q (.pl d)):zrR (.lst l) (.int (-1)) Q X:=
 ⟨by decide,d,by
  have:seqIndex? (-1) l.length=some n:=by
   unfold seqIndex?;rw[hl];simp;lia
  exact this▸h,he,q⟩
theorem zds{n m:Nat}(h:Nat.ble n m=true):n≤m:=yH h
theorem ziM{a b:Nat}:decide (((a:Nat):Int)<((b:Nat):Int))=decide (a<b):=yS.mpr Int.ofNat_lt
theorem zsQ{ns:List Int}{k:List Int->Prop}(h:k ns):one cL [.lst (ns.map .int)] k:=by
 have e:cL.of (.lst (ns.map .int))=some ns:=zid ns;show oM (cL.of (.lst (ns.map .int))) λx=>k x;rw[e];exact h
theorem zvG{S:St0}(D0:Std S){sh:zai}{n:Str}{a:Addr}{o:Obj}{params:Arguments}{body:List Stmt}{scope:Scope}{pm cd doc dV kV:Value}{ps rest kws:List Str}{c:PS}{F:List D->List D->PD}{l:List (Str×Ctr)}
  (hm:S.mg n=some (.ref a))(ho:S.base.get? a=some o)(hd:o.data=.func {docDef n params body scope pm cd doc with defaults:=dV,kwdefaults:=kV})(hcd:S.base.CodeRec cd n)
  (hco:scope.isCoroutine=false)(hgen:scope.isGenerator=false)(hk:scope.kind=.function)(hsc:sh.scope=scope)(hcell:(scope.names.all λx=>x.2 != .cell)=true)
  (hnames:sh.names=ps++rest)(hloc:(sh.names.all λx=>sh.scope.names.lookup x==some .local)=true)(hnd:sh.names.Nodup)
  (hbind:∀(s:Shared)(vs ks:List Value),vs.length+kws.length=ps.length->ks.length=kws.length->BindsTo s {docDef n params body scope pm cd doc with defaults:=dV,kwdefaults:=kV} ⟨vs,kws.zip ks⟩ (ps.zip (vs++ks)))
  (hps:kws.length≤ps.length)(H:zaV S sh body c)(k:∀ds dk Q X,F ds dk Q X->ds.length+kws.length=ps.length∧zf7 c rest.length (ds++dk) Q X)
  (hin:sh.inner=true->zd1 S cd∧n++ofString ".<locals>."=ofString "suffixed_err.<locals>.")(t:zaB S (zaz l))(hcs:sh.cells=[]:=by rfl) :
  zaB S (zaz ((n,⟨sh.rank+10,sh.calm,kws,F⟩)::l)):=
 zaB.cons hm ho hd (zhH.mono (zqJ D0 (sh:=sh) ho hd hcd rfl rfl rfl hco hgen hk hsc (λx hx=>by
   have:=yK.mp hcell x hx;simpa using this) hnames (λx hx=>by
   have:=yK.mp hloc x hx;simpa using this) hnd rfl (λs vs ks _ h1 h2=>hbind s vs ks h1 h2) hps H hin (hcs:=hcs)) (yq _) k) t
section
variable{S:St0}{sh:zai}{a:Act}{ow:Nat->Option Addr}{st:Sl}{s:Shared}
end
section
variable{S:St0}{sh:zai}{a:Act}{ow:Nat->Option Addr}{st:Sl}{s:Shared}
end
section
variable{S:St0}{A:Around}{I:Shared->Prop}{env:Env}{d d₁ d₂:D}
end
section
variable{S:St0}{sh:zai}
end
section
open PySem.Builtin PySem.Builtin.Str
section
variable{S:St0}{sh:zai}
noncomputable def zg5(p:List Nat):List (List Nat)->List Nat
 |[]=>[]
 |[x]=>x
 |x::y::r=>x++p++zg5 p (y::r)
theorem zvg(a b:List Nat):mk a++mk b=mk (a++b):=by
 show Str.mk (a.toArray++b.toArray)=Str.mk (a++b).toArray;rw[List.append_toArray]
theorem znn(p:List Nat):∀l:List (List Nat),Str.join (mk p) (l.map mk)=mk (zg5 p l)
 |[]=>rfl
 |[x]=>rfl
 |x::y::r=>by
  have h:=znn p (y::r);show mk x++mk p++Str.join (mk p) ((y::r).map mk)=mk (x++p++zg5 p (y::r));rw[h,zvg,zvg]
noncomputable def zAl(d:D):Option (List (List Nat)):=d.lst?.bind zvR
theorem zuw{d:D}{l:List (List Nat)}(h:zAl d=some l):d=.lst (l.map .str):=by
 obtain⟨ds,e1,e2⟩:=Option.bind_eq_some_iff.mp h;rw[D.lst?_inv e1,zn5 e2]
@[reducible]noncomputable def cLT:Dc (List (List Nat)):=⟨zAl,λl=>.lst (l.map .str),zuw⟩
noncomputable def ztE(p:List Nat)(ds:List D)(Q:Res->Prop)(_:Err->Prop):Prop:=one cLT ds λl=>(l.map List.length).sum+l.length*p.length≤1000000∧Q (.pl (.str (zg5 p l)))
theorem zpT{h:Heap}{P:Addr->Prop}:∀{l:List (List Nat)}{vs:List Value},zaO S h P vs (l.map .str)->∃ps:List (Str×Tok),vs=strValues ps∧ps.map (·.1)=l.map mk
 |[],vs,x=>by
  cases x;exact zbO ([]) rfl rfl
 |x::l,vs,y=>by
  rw[List.map_cons]at y;cases y with
  |cons a b=>
   left;refine zfh a.inv λt e1=>?_;refine za1 (zpT b) λps e2 h2=>?_;exact zbO ((mk x,t)::ps) (by rw[e1,e2];rfl) (by rw[List.map_cons,h2];rfl)
theorem zmt:zmP S sh "str.join" ztE:=λa ow st s p t vs ds Q X f R h q=>by
 left;refine zcN (ze2 q) λl e hl q=>?_;rw[e]at h;refine za1 (zel h) λv hzz h1=>?_;subst hzz;clear h;obtain⟨b,o,vs,n,rfl,g1,g2,g3,g4⟩:=h1.lst;refine za1 (zpT g4) λps k1 k2=>?_;refine SC.join (l:=ps) (texts:=l.map mk) ⟨o,g1,g2,n,k1.symm▸g3⟩ k2 ?_ λt' k=>?_
 ·unfold JoinOk tooLong
  rw[StrLaws.joinTotal,List.length_map,zaG,List.map_map,Bool.not_eq_true',decide_eq_false_iff_not];have:(l.map ((λx:Str=>x.length) ∘ mk)).sum=(l.map List.length).sum:=by congr 1;first|done|exact List.map_congr_left λx _=>zaG x
  rw[this];exact yg.mpr (yj hl (by decide))
 ·show OkP S a ow st s Q (.str (glued (mk p) (l.map mk)) t') _
  rw[StrLaws.glued_eq_join,znn];exact zcb R rfl q
end
end
theorem zqz{c:Nat}{r p:List Nat}(h:zdz (c::r) p (c::r).length 0=false):zca (c::r) p 0 (c::r).length=(zca r p 0 r.length).map (· + 1):=by
 unfold zca;simp only[show(c::r).length+1-0=(r.length+1-0)+1 from rfl,List.range'_succ,List.find?_cons,h,List.range'_eq_map_range,List.range'_eq_map_range,List.find?_map,List.find?_map,Option.map_map];have e:(zdz (c::r) p (c::r).length ∘ λx=>0+1+x)=(zdz r p r.length ∘ λx=>0+x):=funext λi=>by
  show zdz (c::r) p (c::r).length (0+1+i)=zdz r p r.length (0+i);unfold zdz;simp only[Nat.zero_add,Nat.zero_add,Nat.add_comm 1 i,List.drop_succ_cons,List.length_cons,Nat.add_right_comm];exact ya (· && _) (yS.mpr (Nat.succ_le_succ_iff))
 rw[e];exact ya (λf:Nat->Nat=>Option.map f ((List.range (r.length+1-0)).find? (zdz r p r.length ∘ λx=>0+x))) (funext λi=>show 0+1+i=0+i+1 by simp only[Nat.add_comm (0+1) i,Nat.zero_add,Nat.zero_add])
theorem zjG{c:Nat}{r p:List Nat}(hp:p≠[])(h:zdz (c::r) p (c::r).length 0=false):∃x l,zbN r p=x::l∧zbN (c::r) p=(c::x)::l:=by
 have hf:=zqz h;cases e:zca r p 0 r.length with
 |none=>
  rw[e]at hf;exact⟨r,[],zec e,zec hf⟩
 |some i=>
  rw[e]at hf;refine⟨_,_,ze9 hp e,?_⟩;simp only[ze9 hp hf,List.take_succ_cons,Nat.add_right_comm,List.drop_succ_cons]
theorem at0{r p:List Nat}{c:Nat}:zdz (c::r) p (c::r).length 0=true->p.length≤(c::r).length∧(c::r).take p.length=p:=λh=>by
 unfold zdz at h;obtain⟨h1,h2⟩:=yu.mp h;exact⟨by have:=yC h1;rwa[Nat.zero_add]at this,eq_of_beq h2⟩
theorem zzL{r p:List Nat}{c:Nat}(h:(c::r).take p.length≠p):zdz (c::r) p (c::r).length 0=false:=Bool.eq_false_iff.mpr λz=>h (at0 z).2
theorem zqk{n c:Nat}(h:c∈zby (n:Nat)):48≤c∧c≤57:=by
 unfold zby at h;rw[KIN.signs_num]at h;obtain⟨ch,hch,e⟩:=List.mem_map.mp h;have r:=digit_range (Nat.isDigit_of_mem_toDigits (by decide) (by decide) hch);rw[←e];exact r
theorem zqv{a b r:List Nat}{c:Nat}(ha:c∉a)(hb:c∉b)(hr:c∉r):∀{w:List Nat},c∉w->zbN (w++((a++c::b)++r)) (a++c::b)=[w,r]:=by
 have hp:a++c::b≠[]:=by simp
 intro w hw
 induction w with
 |nil=>
  have h0:zca ((a++c::b)++r) (a++c::b) 0 ((a++c::b)++r).length=some 0:=by
   unfold zca;rw[Nat.sub_zero,List.range'_succ,List.find?_cons];unfold zdz;rw[decide_eq_true (by rw[Nat.zero_add,List.length_append (as:=a++c::b)];exact Nat.le_add_right ..),List.drop_zero,List.take_left,beq_self_eq_true];rfl
  rw[List.nil_append,ze9 hp h0,Nat.zero_add,List.drop_left,zec]
  ·rfl
  ·refine List.find?_eq_none.mpr λi _ z=>hr ?_
   have z:=eq_of_beq (yu.mp z).2;have:c∈(r.drop i).take (a++c::b).length:=by rw[z];exact xa _ yp
   exact List.mem_of_mem_drop (List.mem_of_mem_take this)
 |cons x w ih=>
  have ih:=ih λz=>hw (ym _ z);obtain⟨y,l,h1,h2⟩:=zjG (c:=x) (r:=w++((a++c::b)++r)) hp (zzL λz=>by
   have z:=ya (λl:List Nat=>l[a.length]?) z;rw[List.getElem?_take,if_pos (by rw[List.length_append,List.length_cons];exact Nat.lt_add_of_pos_right (Nat.succ_pos _))]at z;have e1:(a++c::b)[a.length]?=some c:=by rw[List.getElem?_append_right (Nat.le_refl _),Nat.sub_self];rfl
   have e2:(x::(w++((a++c::b)++r)))=((x::w)++a)++(c::b++r):=by simp
   rw[e1,e2,List.getElem?_append_left (by rw[List.length_append,List.length_cons];exact Nat.lt_add_of_pos_left (Nat.succ_pos _))]at z;exact(List.mem_append.mp (yw z)).elim hw ha)
  rw[ih]at h1;obtain⟨rfl,rfl⟩:=yM h1;exact h2
theorem zdy{l:List Nat}{c:Nat}(h:(l.all λd=>d != c)=true):c∉l:=λz=>absurd rfl (bne_iff_ne.mp (yK.mp h c z))
theorem zvm{n c:Nat}(h:¬(48≤c∧c≤57)):c∉zby (n:Nat):=λz=>h (zqk z)
theorem zim{a b:List Nat}{c:Nat}(h1:c∉a)(h2:c∉b):c∉a++b:=λz=>(List.mem_append.mp z).elim h1 h2
theorem zt0{s m:List Nat}{p:Nat}(hm:40∉m):zbN (zcD s p m) zvU=[m,zbZ s p++zvn]:=by
 have hr:40∉zbZ s p++zvn:=by
  refine zim ?_ (zdy rfl);unfold zbZ;by_cases h:s.length≤p
  ·rw[if_pos h];exact zdy rfl
  ·rw[if_neg h];exact zim (zim (zim (zdy rfl) (zvm (by decide))) (zdy rfl)) (zvm (by decide))
 have:=zqv (a:=[32]) (b:=[97,116,32]) (c:=40) (zdy rfl) (zdy rfl) hr hm;unfold zcD;rw[List.append_assoc,List.append_assoc];exact this
theorem zqn{a x:List Nat}{z k:Nat}(hk:a.length=k):zbk (a++x++[z]) (some (k:Nat)) (some (-1))=x:=by
 have hl:(a++x++[z]).length=(k+x.length)+1:=by rw[List.length_append,List.length_append,hk];rfl
 have h2:zaT (some (-1)) (a++x++[z]).length (a++x++[z]).length=k+x.length:=by
  rw[hl];unfold zaT;dsimp only;rw[if_pos (by decide),show(-1:Int)+((k+x.length+1:Nat):Int)=((k+x.length:Nat):Int) by lia,zc5];exact Nat.min_eq_left (yh _)
 unfold zbk;rw[h2,zg1 0 (by rw[hl];exact Nat.le_trans (Nat.le_add_right ..) (Nat.le_succ _)),Nat.add_sub_cancel_left,List.append_assoc,List.drop_left' hk,List.take_left]
section
variable{S:St0}{sh:zai}
theorem zr9(lo hi:Option Int)(n:Nat):sliceBounds lo hi none n=(((zaT lo 0 n:Nat):Int),((zaT hi n n:Nat):Int),1):=by
 rw[←zk8 lo 0 n,←zk8 hi n n];unfold sliceBounds
 induction lo<;>induction hi<;>rfl
theorem zjB{α:Type}(l:List α)(a:Nat):∀n:Nat,a+n≤l.length->((List.range n).map λk:Nat=>((a:Int)+1*(k:Int)).toNat).filterMap (l[·]?)=(l.drop a).take n
 |0,_=>by rw[List.take_zero];rfl
 |n+1,h=>by
  rw[List.range_succ,List.map_append,List.filterMap_append,zjB l a n (Nat.le_of_succ_le h),List.take_add_one,List.getElem?_drop]
  congr 1
  have e:((a:Int)+1*(n:Int)).toNat=a+n:=by rw[Int.one_mul,←Int.natCast_add,Int.toNat_natCast]
  have hlt:a+n<l.length:=h;rw[List.map_singleton,e,List.filterMap_cons,List.getElem?_eq_getElem hlt];rfl
theorem count_is(a b:Nat):(if((a:Nat):Int)<((b:Nat):Int)then(((b:Nat):Int)-((a:Nat):Int)+1-1)/1 else 0).toNat=b-a:=by
 by_cases h:a<b
 ·rw[if_pos (Int.ofNat_lt.mpr h),Int.add_sub_cancel,Int.ediv_one]
  exact Int.toNat_sub b a
 ·rw[if_neg λz=>h (Int.ofNat_lt.mp z),Nat.sub_eq_zero_of_le (Nat.le_of_not_lt h)]
  rfl
theorem zpq(vs:Array Value)(lo hi:Option Int):(slicePick vs lo hi none).toList=zbk vs.toList lo hi:=by
 unfold slicePick;rw[zr9];show(sliceRange ((zaT lo 0 vs.size:Nat):Int) ((zaT hi vs.size vs.size:Nat):Int) 1).filterMap (vs[·]?)=_;have h2:=zei hi vs.size vs.size (yq _);have hr:sliceRange ((zaT lo 0 vs.size:Nat):Int) ((zaT hi vs.size vs.size:Nat):Int) 1=(List.range (zaT hi vs.size vs.size-zaT lo 0 vs.size)).map λk:Nat=>(((zaT lo 0 vs.size:Nat):Int)+1*(k:Int)).toNat:=by
  unfold sliceRange;dsimp only;rw[if_pos (show(1:Int) > 0 by decide)]
  congr 2
  exact count_is _ _
 rw[hr];unfold zbk;rw[Array.length_toList];by_cases h:zaT lo 0 vs.size≤zaT hi vs.size vs.size
 ·rw[←zjB vs.toList _ _ (by rw[Array.length_toList,Nat.add_sub_cancel' h];exact h2)]
  congr 1
  funext i
  exact(Array.getElem?_toList (xs:=vs)).symm
 ·have z:zaT hi vs.size vs.size-zaT lo 0 vs.size=0:=Nat.sub_eq_zero_of_le (yc (xd h))
  rw[z,List.take_zero];rfl
theorem zjv{h:Heap}{P:Addr->Prop}:∀(n:Nat){vs:List Value}{ds:List D},zaO S h P vs ds->zaO S h P (vs.drop n) (ds.drop n)
 |0,_,_,x=>x
 |n+1,_,_,x=>by
  cases x with
  |nil=>exact .nil
  |cons _ b=>exact zjv n b
theorem zjW{h:Heap}{P:Addr->Prop}:∀(n:Nat){vs:List Value}{ds:List D},zaO S h P vs ds->zaO S h P (vs.take n) (ds.take n)
 |0,_,_,_=>.nil
 |n+1,_,_,x=>by
  cases x with
  |nil=>exact .nil
  |cons a b=>exact .cons a (zjW n b)
@[reducible]noncomputable def ziq(d:D)(lo hi:Option Int)(Q:Res->Prop):Prop:=oM d.lst? λl=>l.length≤LIM∧Q (.fr (zbk l lo hi))
theorem zqw:zmD S sh ziq:=λa ow st s v d pl pu sl Q E f R h hs q=>by
 refine zcN (oM_inv q) λl hd hlen q=>?_;rw[D.lst?_inv hd]at h⊢;refine⟨rfl,?_⟩;left;obtain⟨b,o,vs,n,rfl,g1,g2,g3,g4⟩:=h.lst;have hsz:vs.size=l.length:=by rw[←g4.length,Array.length_toList]
 have part:∀p:Option (Int×Tok),IsPart (partValue p) (p.map (·.1)):=λp=>by
  induction p with
  |none=>exact .none
  |some p=>exact .int _ _
 refine wpAny_getItem_list_slice (lo:=pl.map (·.1)) (hi:=pu.map (·.1)) (st:=none) ⟨o,g1,g2,n,g3⟩ hs (part pl) (part pu) .none (by decide) ?_ (hsz▸(zdP hlen));have hn:s.heap.get? s.heap.objs.size=none:=yP (yq _);refine⟨_,q,⟨.refl _,.push _ _,rfl,rfl⟩,_,_,_,_,rfl,hn,yF _ rfl,rfl,rfl,?_,rfl⟩;rw[zpq];have g5:zaO S s.heap (Pv a noX ow) (zbk vs.toList (pl.map (·.1)) (pu.map (·.1))) (zbk l (pl.map (·.1)) (pu.map (·.1))):=by
  unfold zbk;rw[g4.length];exact zjW _ (zjv _ g4)
 refine g5.goes (ze3 λb hb q=>?_);rcases q with q|q|q|q
 ·exact .inl q
 ·exact .inr (.inl q)
 ·rw[q,hn]at hb;exact zaD hb
 ·exact .inr (.inr (.inr q))
theorem zit{e:Expr}{lo hi:Option Expr}{p pos}{c:PE}{cl cu:PO}(H:zat S sh e c)(Hl:zka S sh lo cl)(Hu:zka S sh hi cu):zat S sh (.Subscript e (.Slice lo hi none p) pos) (zfq ziq c cl cu):=zmo zqw H Hl Hu
end
section
variable{S:St0}{sh:zai}{a:Act}
noncomputable def zxf(d e:D)(Q:Res->Prop)(_:Err->Prop):Prop:=zw8 d e λx y=>Builtin.Int.intBits x≤64∧Q (.pl (.int (x*y)))
theorem zgD:zcK S sh (binaryOp .Mult) zxf:=λa ow st s v1a v2a d₁ d₂ Q X f R h1 h2 q=>by
 refine zAh (zdi q) λx y e1 e2 hb q=>?_;rw[e1]at h1;rw[e2]at h2;obtain⟨t,rfl⟩:=h1.int;obtain⟨u,rfl⟩:=h2.int;exact AutoIntOps.mul_0 (zbG R q) (.of_left hb)
@[reducible]noncomputable def zmk(is:List Nat)(c:PE):PS:=λQ X st=>c (λr st₁=>oM r.d.lst? λds=>zvF (Nat.beq ds.length is.length) (Q .next (putAll is ds st₁))) X st
end
section
variable{S:St0}{sh:zai}
end
section
variable{S:St0}{sh:zai}{a:Act}
inductive zdt(sh:zai):List Str->List Nat->Prop
 |nil:zdt sh [] []
 |cons {x:Str} {i:Nat} {xs:List Str} {is:List Nat}:sh.names[i]?=some x->zdt sh xs is->zdt sh (x::xs) (i::is)
theorem zdt.len{xs:List Str}{is:List Nat}(T:zdt sh xs is):xs.length=is.length:=by
 induction T with
 |nil=>rfl
 |cons _ _ ih=>exact ya Nat.succ ih
theorem zp8(f:a.Fits S sh){X:Err->Sl->Prop}{xs:List Str}{is:List Nat}(T:zdt sh xs is):∀{ow:Nat->Option Addr}{st:Sl}{s:Shared}{vs:List Value}{ds:List D}{Q:Unit->Shared->Prop},Rel S sh a noX ow st s->zaO S s.heap (Pv a noX ow) vs ds->ds.length=is.length ->
  (∀s' ow',Rel S sh a noX ow' (putAll is ds st) s'->Q () s')->wpAny (model S.prog S.w) a.A (assignInOrder (xs.map λn=>bindName a.env n) vs) Q (zi2 S sh a X) s:=by
 induction T with
 |nil=>
  intro ow st s vs ds Q R hv hl k;cases ds with
  |nil=>cases hv;exact yn (k s ow R)
  |cons _ _=>cases hl
 |@cons x i xs is hi _ ih=>
  intro ow st s vs ds Q R hv hl k;cases hv with
  |nil=>cases hl
  |@cons v d vs ds hv hvs=>
   show wpAny _ _ (do holding vs (bindName a.env x v);assignInOrder (xs.map λn=>bindName a.env n) vs) _ _ _;refine yk (yE (wpAny_bindName (ze4 f R hi hv λs' R' G=>?_)));exact ih R' (hvs.goes G) (Nat.succ.inj hl) k
theorem zaO.snocS{h:Heap}{P:Addr->Prop}{vs:List Value}{ds:List D}{v:Value}{d:D}(x:zaO S h P vs ds)(y:zcj S h P v d):zaO S h P (vs++[v]) (ds++[d]):=zaO.append (.cons y .nil) x
theorem zaO.rev{h:Heap}{P:Addr->Prop}:∀{vs:List Value}{ds:List D},zaO S h P vs ds->zaO S h P vs.reverse ds.reverse
 |vs,[],x=>by cases x;exact .nil
 |vs,d::ds,x=>by
  cases x with
  |cons a b=>rw[List.reverse_cons,List.reverse_cons];exact b.rev.snocS a
@[reducible]noncomputable def zlA(is:List Nat)(c:PE):PS:=λQ X st=>c (λr st₁=>r.oM D.tup? λds=>zvF (Nat.beq ds.length is.length) (Q .next (putAll is ds.reverse st₁))) X st
theorem zpB{es:List Expr}{k}{tp:Pos}{value:Expr}{pos:Pos}{is:List Nat}{names:List Str}{c:PE}(hcalm:sh.calm=true)(T:zdt sh names.reverse is)(H:zat S sh value c)
  (hw:∀a:Act,a.Fits S sh->swappedStores [.Tuple es k tp] value a.env=pure (some names))(hs:∀env,swapsWithSole [.Tuple es k tp] value pos.line env=pure false:=by intro;rfl) :
  zba S sh (.Assign [.Tuple es k tp] value pos) (zlA is c):=λa ow st s Q X g R q=>by
 have f:=g.f;refine Assign_Tuple_swapped (yr (H a ow st s _ X f R q) (λv s₁ h=>?_) λ_ _ x=>zcJ f R x) (hs _) (hw a f);left;obtain⟨r,st₁,hq,K,hr⟩:=h;obtain⟨ds,rfl,hq⟩:=Res.tup_inv hq;obtain⟨hr,_⟩:=hr;obtain⟨hl,hq⟩:=zet hq;have hl:=Nat.eq_of_beq_eq_true hl;obtain⟨t,o,vs,n,rfl,h1,h2,h3,h4⟩:=hr.inv;have R1:=R.step f K;have hn:names.length=vs.size:=by
  rw[←List.length_reverse,T.len,←hl,←h4.length,Array.length_toList]
 show wpAny _ _ (unpackItems (.ref t) names.length none) _ _ _;rw[hn];refine wpAny_unpackItems_tuple (f.calm hcalm).1 ⟨o,h1,h2,n,h3⟩ λh' he=>?_;have hk:∀b o,s₁.heap.get? b=some o->h'.get? b=some o:=λb o e=>he b o (λz=>by rw[z,Heap.get?_none_of_le (Nat.le_refl _)]at e;exact zad e) e;have K2:Step a st₁ st₁ s₁ {s₁ with heap:=h'}:=⟨.refl _,.of_keeps hk,rfl,rfl⟩;have R2:=R1.step f K2;exact zp8 f T R2 (h4.goes (R1.goes f K2.keep λb _ q=>q.restr)).rev (by rw[List.length_reverse];exact hl) λs' ow' R'=>⟨.next,ow',_,hq,R',trivial⟩
end
open Classical in
section
variable{S:St0}{sh:zai}{a:Act}{ow:Nat->Option Addr}{st:Sl}{s:Shared}{scope:Scope}{K:Str}{cs:List Str}{is:List Nat}{X:Addr->Prop}{C:Addr}
end
section
variable{S:St0}{sh:zai}{a:Act}{ow:Nat->Option Addr}{st:Sl}{s:Shared}{scope:Scope}{K:Str}{cs:List Str}{is:List Nat}{X:Addr->Prop}{C:Addr}
section
variable{cl:Sl}{I L:Addr}{s₁:Shared}
end
theorem zyc{h h':Heap}{L:Addr}{m m':Str->Option Value}(x:h.Ns L m)(y:h'.Ns L m')(e:h'.get? L=h.get? L):m'=m:=by
 refine zuz x λo es ep x1 x2 _ x3=>?_;refine zuz y λo' es' ep' y1 y2 _ y3=>?_;rw[e,x1]at y1;obtain rfl:=yi y1;rw[x2]at y2;cases y2;exact funext λn=>(y3 n).symm.trans (x3 n)
end
section
variable{S:St0}{sh:zai}
variable{a:Act}{ow:Nat->Option Addr}{st:Sl}{s:Shared}
end
section
variable{S:St0}{sh:zai}{a:Act}{ow:Nat->Option Addr}{st:Sl}{s:Shared}
end
section
open PySem.Builtin PySem.Builtin.Str
section
variable{S:St0}{sh:zai}
theorem zpr{n i:Nat}{x:Str}{p' value pos}{c:PE}(hi:sh.names[i]?=some x)(H:zdI n S sh value c)(hs:∀env,swapsWith value (some (.Name x p')) pos.line env=pure false) :
  ziB n S sh (.Assign [.Name x p'] value pos) (zay i c):=λa ow st s Q X hn g R q=>by
 have f:=g.f;refine wpAny_Assign_Name (yr (H a ow st s _ X hn f R q) (λv s₁ h=>?_) λ_ _ x=>zcJ f R x) (hs _);left;obtain⟨r,st₁,h1,h2,h3⟩:=h;exact zld f R h2 hi h3 λs' ow' R'=>⟨.next,ow',_,h1,R',trivial⟩
noncomputable def zgz(l p z:List Nat):List Nat:=zg5 z (zbN l p)
theorem zsc{l p z:List Nat}(hp:p≠[]):Txt.replace (mk l) (mk p) (mk z)=mk (zgz l p z):=by
 unfold Txt.replace zgz;rw[zgf,show(mk p).length=p.length from zaG p];have h0:(p.length==0)=false:=by
  induction p with
  |nil=>exact absurd rfl hp
  |cons _ _=>rfl
 rw[h0,Bool.false_and,Bool.or_false];cases e:ziY l p 0 l.length with
 |nil=>rw[zfu e];rfl
 |cons a r=>
  rw[if_neg (by simp),←e,zkw,StrLaws.glued_eq_join,znn]
end
end
noncomputable def zxr(n₀:Nat)(S:St0)(a:Addr)(rank:Nat)(calm:Bool)(F:List D->List D->PD):Prop:=∀(A:Around)(fr:List Env)(hands:List Value)(P:Addr->Prop)(s:Shared)(vs:List Value)(ds:List D)(Q:D->Prop)(X:Err->Prop),n₀≤s.toks->zhp S A fr hands P rank calm s->zaO S s.heap P vs ds->F ds [] Q X->wpAny (model S.prog S.w) A (call (.ref a) vs []) (OkC S fr P s Q) (zy0 S fr s X) s
theorem znC{S:St0}(D0:Std S){sh:zai}{n:Str}{a:Addr}{o:Obj}{params:Arguments}{body:List Stmt}{scope:Scope}{pm cd doc dV kV:Value}{ps rest:List Str}{c:PS}{F:List D->List D->PD}{n₀:Nat}
  (ho:S.base.get? a=some o)(hd:o.data=.func {docDef n params body scope pm cd doc with defaults:=dV,kwdefaults:=kV})(hcd:S.base.CodeRec cd n)
  (hco:scope.isCoroutine=false)(hgen:scope.isGenerator=false)(hk:scope.kind=.function)(hsc:sh.scope=scope)(hkeys:∀n,(cellsFrom n scope.names []).map (·.1)=sh.cells)(hcl:(sh.cells.all λx=>sh.scope.names.lookup x==some .cell)=true)
  (hnames:sh.names=ps++rest)(hloc:(sh.names.all λx=>sh.scope.names.lookup x==some .local)=true)(hnd:sh.all.Nodup)
  (hbind:∀(s:Shared)(vs:List Value),vs.length=ps.length->BindsTo s {docDef n params body scope pm cd doc with defaults:=dV,kwdefaults:=kV} ⟨vs,[]⟩ (ps.zip vs))
  (H:zc2 n₀ S sh body c)(k:∀ds dk Q X,F ds dk Q X->dk=[]∧ds.length=ps.length∧c (zn4 Q) (λx _=>X x) (start ds rest.length++List.replicate sh.cells.length (.cel none)))
  (hin:sh.inner=false):zxr n₀ S a (sh.rank+10) sh.calm F:=by
 intro A fr hands P s vs ds Q X hn0 C hv q;refine zmO (k _ _ _ _ q) λ_ hlen g=>?_;have hst:=C.stays;have hl:vs.length=ps.length:=hv.length.trans hlen;refine zgB D0 (ks:=[]) (dk:=[]) (hst _ _ ho) hd (hcd.keeps hst) rfl rfl rfl hco hgen hk hsc rfl hkeys (λx hx=>?_) hnames (λx hx=>?_) hnd rfl ?_ hn0 H (by rw[hin];intro h;exact zaD h) (λ_=>zqg hcd) C hv .nil hlen rfl ?_
 ·have:=yK.mp hcl x hx
  exact eq_of_beq this
 ·have:=yK.mp hloc x hx
  exact eq_of_beq this
 ·rw[List.append_nil]
  exact hbind s vs hl
 ·rw[List.append_nil]
  exact g
section
open PySem.Builtin PySem.Builtin.Str
section
variable{S:St0}{sh:zai}
noncomputable def D.norm:D->D
 |.tstr l _=>.str l
 |d=>d
noncomputable def D.tstr?:D->Option (List Nat×Nat)
 |.tstr l b=>Option.some (l,b)
 |_=>Option.none
theorem D.tstr?_inv{d:D}{l}(h:d.tstr?=Option.some l):d=.tstr l.1 l.2:=by cases d<;>first|exact zad h|(obtain rfl:=yi h;rfl)
theorem zcj.norm{h:Heap}{P:Addr->Prop}{v:Value}{d:D}(x:zcj S h P v d):zcj S h P v d.norm:=by
 cases d with
 |tstr l b=>refine zcN x.inv λt _ _ hzz=>?_;rw[hzz];exact .str l t
 |_=>exact x
theorem zpp(d:D):d.norm.isExc=d.isExc:=by cases d<;>rfl
noncomputable def Res.norm:Res->Res
 |.pl d=>.pl d.norm
 |r=>r
@[reducible]noncomputable def znx(c:PE):PE:=λQ X st=>c (λr st₁=>Q r.norm st₁) X st
theorem zg8.norm{a:Act}{ow:Nat->Option Addr}{st:Sl}{hs h:Heap}{v:Value}{r:Res}(x:zg8 S a ow st hs h v r):zg8 S a ow st hs h v r.norm:=by
 cases r with
 |pl d=>exact⟨x.1.norm,λz=>x.2 ((zpp d).symm.trans z)⟩
 |fr ds=>exact x
 |bo i ds=>exact x
theorem znv{e:Expr}{c:PE}(H:zat S sh e c):zat S sh e (znx c):=λa ow st s Q X f R q=>by
 refine yr (H a ow st s _ X f R q) (λv s₁ h=>?_) λ_ _ x=>x;obtain⟨r,st₁,h1,h2,h3⟩:=h;exact⟨r.norm,st₁,h1,h2,h3.norm⟩
theorem zyb{p z:List Nat}(h:p≠z):(mk p==mk z)=false:=beq_eq_false_iff_ne.mpr λe=>h (zlG e)
theorem zgF{a:Act}{st:Sl}{s:Shared}{k:Nat}:Step a st st s {s with toks:=k}:=⟨.refl _,.refl _ _,rfl,rfl⟩
@[reducible]noncomputable def zrk(n:Nat)(c:PE)(p:List Nat)(c2:PE):PE:=λQ X st=>c (λr st₁=>r.oM D.str? λl=>l.length≤1000000∧c2 (λr2 st₂=>r2.oM D.tstr? λz=>(z.2≤n∧p≠[]∧p≠z.1∧z.1.length≤14)∧Q (.pl (.str (zgz l p z.1))) st₂) X st₁) X st
@[reducible]noncomputable def zm8(n:Nat)(c:PE)(c2:PE)(z:List Nat):PE:=λQ X st=>c (λr st₁=>r.oM D.str? λl=>l.length≤1000000∧c2 (λr2 st₂=>r2.oM D.tstr? λp=>(p.2≤n∧p.1≠[]∧p.1≠z∧z.length≤14)∧Q (.pl (.str (zgz l p.1 z))) st₂) X st₁) X st
theorem Res.tstr_inv{r:Res}{K:List Nat×Nat->Prop}(h:r.oM D.tstr? K):∃l,r=.pl (.tstr l.1 l.2)∧K l:=by
 refine zfQ (Res.oM_inv h) λd l h1 h2 h=>?_;exact⟨l,h1.trans (ya _ (D.tstr?_inv h2)),h⟩
theorem zoa{n:Nat}{o:Expr}{name:Str}{m:String}{apos pos:Pos}{e:Expr}{es:List Expr}{c':List Nat->Sl->Prop}
  (hm:∀{M:Model}{A:Around}{E:Value->Shared->Prop}{s:Shared}{x:Str}{t:Tok}{pl:Sem Bool}{Q:Value×List Value->Shared->Prop},Q (.builtin m,[.str x t]) s->wpAny M A (getMethod (.str x t) name pl) Q E s)
  (hline:(apos.endLine==pos.line)=true)(hbase:∀env,attributeBase o name env (eval o env)=eval o env)
  (hform:∀env,methodCallForm ((e::es).length+([]:List Keyword).length) (backTo pos (starEach (e::es) env)) (backToKw pos (keywordEach [] env))=true)
  (hplain:∀env,(backTo pos (starEach (e::es) env)).any (·.1)=false)
  (he:∀env,starEach (e::es) env=(false,eval e env)::starEach es env){a:Act}{ow:Nat->Option Addr}{st:Sl}{s:Shared}{Q:Res->Sl->Prop}{X:Err->Sl->Prop}(hn:n≤s.toks)(f:a.Fits S sh)(R:Rel S sh a noX ow st s)
  (H:wpAny (model S.prog S.w) a.A (eval o a.env) (OkE S a ow st s λr st₁=>r.oM D.str? λl=>c' l st₁) (zfN S a st s X) s)
  (A:∀(l:List Nat)(t:Tok)(ow1:Nat->Option Addr)(st₁:Sl)(s₁:Shared),n≤s₁.toks->Rel S sh a noX ow1 st₁ s₁->c' l st₁ ->
   wpAny (model S.prog S.w) a.A (spliced (backTo pos (starEach (e::es) a.env))) (λvs s₂=>wpAny (model S.prog S.w) a.A (call (.builtin m) (.str (mk l) t::vs)) (OkE S a ow1 st₁ s₁ Q) (zfN S a st₁ s₁ X) s₂) (zfN S a st₁ s₁ X) s₁) :
  wpAny (model S.prog S.w) a.A (eval (.Call (.Attribute o name apos) (e::es) [] pos) a.env) (OkE S a ow st s Q) (zfN S a st s X) s:=by
 rw[arm_eval_Call,hbase];refine yk (yr (wpAny_toks_of hn H) (λov s₁ h=>yk (yT ?_)) λ_ _ x=>x.2);obtain⟨hn1,r,st₁,q,K,hr⟩:=h;refine za1 (Res.str_inv q) λl hzz q=>?_;subst hzz;obtain⟨hr,_⟩:=hr;refine zfh hr.inv λt hzz=>?_;subst hzz;have hgo:=A l t _ st₁ s₁ hn1 (R.step f K) q;clear A hr q H;unfold methodCall;rw[hform];refine yk (yE (hm ?_));have hpos:methodCallPos true o a.env apos pos=Pure.pure pos:=by unfold methodCallPos;simp[hline]
 refine yk (wpAny_of_eq hpos ?_);show wpAny _ _ (callWith pos (.builtin m) [.str (mk l) t] (backTo pos (starEach (e::es) a.env)) []) _ _ _;refine Calls.callWith_builtin (hplain _) ?_;have hb:backTo pos (starEach (e::es) a.env)=(false,eval e a.env)::backTo pos (starEach es a.env):=by rw[he];rfl
 rw[hb]at hgo⊢;exact Calls.evalArgs_plain (yr hgo (λvs s₂ h=>yr h (λ_ _ x=>zhN K x) λ_ _ x=>zaF K x) λ_ _ x=>zaF K x)
section
variable{n:Nat}{o e2:Expr}{x y:Str}{X0 Y0:List Nat}{apos pos p1 p2:Pos}{k1 k2:Nat}{c c2:PE}
theorem zsY(H:zdI n S sh o c)(H2:zat S sh e2 c2)(hP:x=mk X0)(hline:(apos.endLine==pos.line)=true)(hbase:∀env,attributeBase o "replace" env (eval o env)=eval o env)
  (hform:∀env,methodCallForm ([Expr.Constant (.str x) k1 p1,e2].length+([]:List Keyword).length) (backTo pos (starEach [Expr.Constant (.str x) k1 p1,e2] env)) (backToKw pos (keywordEach [] env))=true)
  (hplain:∀env,(backTo pos (starEach [Expr.Constant (.str x) k1 p1,e2] env)).any (·.1)=false)(he:∀env,starEach [e2] env=(false,eval e2 env)::starEach [] env):zdI n S sh (.Call (.Attribute o "replace" apos) [.Constant (.str x) k1 p1,e2] [] pos) (zrk n c X0 c2):=λa ow st s Q X hn f R q=>
 zoa GM.replace hline hbase hform hplain (λ_=>rfl) hn f R (H a ow st s _ X hn f R q) λl t ow1 st₁ s₁ hn' R1 q=>by
 obtain⟨hlen,q⟩:=q;have K1:Step a st₁ st₁ s₁ {s₁ with toks:=s₁.toks+1}:=zgF;refine wpAny_items_cons (wpAny_Constant_str (wpAny_items_cons (yr (H2 a _ st₁ _ _ X f (R1.step f K1) q) (λv s₂ h=>wpAny_items_nil ?_) λ_ _ x=>zaF K1 x) (he _))) rfl;obtain⟨r2,st₂,q,K2,hr2⟩:=h;obtain⟨z,rfl,⟨hb1,hp0,hpz,hz⟩,q⟩:=Res.tstr_inv q;refine zcN hr2.1.inv λu h0 h1 hzz=>?_;subst hzz;have hu:u<s₁.toks:=yy h1 (yj hb1 hn');refine SC.replaceW (Nat.ne_of_gt (Nat.lt_trans h0 hu)) (Nat.ne_of_gt h0) (Nat.ne_of_gt hu) (by rw[hP];exact zyb hpz) (by rw[zaG];exact yj hlen (by decide)) (by rw[zaG];exact hz) λt' k=>?_;rw[hP,zsc hp0];exact⟨_,st₂,q,(K1.trans K2).trans zgF,.str _ _,λz=>zaD z⟩
theorem zoj(H:zdI n S sh o c)(H2:zat S sh e2 c2)(hP:x=mk X0)(hline:(apos.endLine==pos.line)=true)(hbase:∀env,attributeBase o "replace" env (eval o env)=eval o env)
  (hform:∀env,methodCallForm ([e2,Expr.Constant (.str x) k1 p1].length+([]:List Keyword).length) (backTo pos (starEach [e2,Expr.Constant (.str x) k1 p1] env)) (backToKw pos (keywordEach [] env))=true)
  (hplain:∀env,(backTo pos (starEach [e2,Expr.Constant (.str x) k1 p1] env)).any (·.1)=false)(he:∀env,starEach [e2,Expr.Constant (.str x) k1 p1] env=(false,eval e2 env)::starEach [Expr.Constant (.str x) k1 p1] env):zdI n S sh (.Call (.Attribute o "replace" apos) [e2,.Constant (.str x) k1 p1] [] pos) (zm8 n c c2 X0):=λa ow st s Q X hn f R q=>
 zoa GM.replace hline hbase hform hplain he hn f R (H a ow st s _ X hn f R q) λl t ow1 st₁ s₁ hn' R1 q=>by
 obtain⟨hlen,q⟩:=q;refine wpAny_items_cons (yr (wpAny_toks_of hn' (H2 a _ st₁ _ _ X f R1 q)) (λv s₂ h=>wpAny_items_cons (wpAny_Constant_str (wpAny_items_nil ?_)) rfl) λ_ _ x=>x.2) (he _);obtain⟨hn2,r2,st₂,q,K2,hr2⟩:=h;obtain⟨z,rfl,⟨hb1,hp0,hpz,hz⟩,q⟩:=Res.tstr_inv q;refine zcN hr2.1.inv λu h0 h1 hzz=>?_;subst hzz;have hu:u<s₂.toks:=yy h1 (yj hb1 hn2);refine SC.replaceW (Nat.ne_of_gt h0) (Nat.ne_of_gt (Nat.lt_trans h0 hu)) (Nat.ne_of_lt hu) (by rw[hP];exact zyb hpz) (by rw[zaG];exact yj hlen (by decide)) (by rw[hP,zaG];exact hz) λt' k=>?_;rw[hP,zsc hp0];exact⟨_,st₂,q,K2.trans zgF,.str _ _,λz=>zaD z⟩
end
end
end
theorem ztn(z x:List Nat){l:List (List Nat)}(h:l≠[]):zg5 z (x::l)=x++z++zg5 z l:=by
 induction l with
 |nil=>exact absurd rfl h
 |cons _ _=>rfl
theorem zte(l p:List Nat):zbN l p≠[]:=λh=>by
 have:=zjZ l p;rw[h]at this;exact Nat.succ_ne_zero _ this.symm
theorem zui(p r:List Nat):zdz (p++r) p (p++r).length 0=true:=by
 unfold zdz;rw[List.drop_zero,List.take_left,beq_self_eq_true,Bool.and_true,decide_eq_true_eq,Nat.zero_add,List.length_append];exact yN ..
theorem zux(p r:List Nat):zca (p++r) p 0 (p++r).length=some 0:=by
 unfold zca;rw[Nat.sub_zero,List.range'_succ,List.find?_cons_of_pos (zui p r)]
theorem znO{p:List Nat}(hp:p≠[])(r z:List Nat):zgz (p++r) p z=z++zgz r p z:=by
 unfold zgz;rw[ze9 hp (zux p r),Nat.zero_add,List.drop_left,List.take_zero,ztn _ _ (zte r p)];rfl
theorem zl6{l p z:List Nat}(h:zca l p 0 l.length=none):zgz l p z=l:=by
 unfold zgz;rw[zec h];rfl
theorem zoF(z:List Nat)(c:Nat)(x:List Nat)(l:List (List Nat)):zg5 z ((c::x)::l)=c::zg5 z (x::l):=by
 cases l with
 |nil=>rfl
 |cons _ _=>rfl
theorem zl9{p:List Nat}(hp:p≠[]){c:Nat}{r:List Nat}(z:List Nat)(h:zdz (c::r) p (c::r).length 0=false):zgz (c::r) p z=c::zgz r p z:=by
 refine zfA (zjG hp h) λx l h1 h2=>?_;unfold zgz;rw[h1,h2,zoF]
noncomputable def rp(a b c:Nat):Nat:=if c=a then b else c
theorem zg7{a b:Nat}:rp a b a=b:=if_pos rfl
theorem zeB{a b c:Nat}(h:c≠a):rp a b c=c:=if_neg h
theorem znz(a b:Nat)(l:List Nat):zgz l [a] [b]=l.map (rp a b):=by
 induction l with
 |nil=>exact zl6 (zfw List.not_mem_nil)
 |cons c l ih=>
  rw[List.map_cons,←ih];by_cases e:c=a
  ·subst e
   rw[zg7];exact znO (p:=[c]) nofun l [b]
  ·rw[zeB e]
   refine zl9 (p:=[a]) nofun _ (Bool.eq_false_iff.mpr λz=>e ?_);exact yi ((zgK _ _ _).mp z)
noncomputable def zpl(s:List Nat)(ml:Bool)(c i:Nat):Prop:=s[i]?=some c∧(ml=true->s[i+1]?=some c∧s[i+2]?=some c)
theorem zfj{s:List Nat}{c i:Nat}:cut s i (i+3)=[c,c,c]↔s[i]?=some c∧s[i+1]?=some c∧s[i+2]?=some c:=by
 have e:∀j,j<3->(cut s i (i+3))[j]?=s[i+j]?:=λj hj=>zem (Nat.add_lt_add_left hj i)
 constructor
 ·intro h
  rw[h]at e;exact⟨(e 0 (by decide)).symm,(e 1 (by decide)).symm,(e 2 (by decide)).symm⟩
 ·intro h
  rw[zeA h.1 (Nat.lt_add_of_pos_right (by decide)),zeA h.2.1 (Nat.lt_add_of_pos_right (by decide:0<2)),show i+3=i+1+1+1 from rfl,ziX h.2.2]
theorem zfm{s:List Nat}{c i:Nat}:cut s i (i+1)=[c]↔s[i]?=some c:=by
 constructor
 ·intro h
  have e:(cut s i (i+1))[0]?=s[i+0]?:=zem (yO _);rw[h]at e;exact e.symm
 ·exact ziX
theorem zoA{s p:List Nat}(hp:1≤p.length){i:Nat}:zdz s p s.length i=true↔cut s i (i+p.length)=p:=by
 unfold zdz;rw[Bool.and_eq_true,decide_eq_true_iff,beq_iff_eq];have e:(s.drop i).take p.length=cut s i (i+p.length):=by unfold cut;rw[Nat.add_sub_cancel_left]
 rw[e];exact⟨λh=>h.2,λh=>⟨zfl hp (by rw[h]),h⟩⟩
section
variable{s:List Nat}{ml:Bool}{q e k c:Nat}
theorem zoq{c:Nat}(h:[c]∈znp ml):c≠34∧c≠39∧c≠92∧c<128:=by
 have:c<32∨c=127:=zw7.mp (by
  induction ml with
  |true=>exact(zfr.mp h).1
  |false=>exact(zhQ.mp h).1)
 lia
end
theorem zrr{ml:Bool}{f:Nat}(h:19968≤f):¬[f]∈znp ml:=λz=>by have:=(zoq z).2.2.2;lia
noncomputable def zfy(s:List Nat)(d p:Nat):Nat:=if s[p]?=some d then(if s[p+1]?=some d then 2 else 1)else 0
theorem zo7(s:List Nat)(d p:Nat)(t:List Nat):zgm s d p t=.ok (p+zfy s d p,t++List.replicate (zfy s d p) d):=by
 unfold zgm zfy;by_cases h1:s[p]?=some d
 ·rw[if_pos (zfm.mpr h1),if_pos h1]
  by_cases h2:s[p+1]?=some d
  ·rw[if_pos (zfm.mpr h2),if_pos h2];rfl
  ·rw[if_neg (λz=>h2 (zfm.mp z)),if_neg h2];rfl
 ·rw[if_neg (λz=>h1 (zfm.mp z)),if_neg h1,List.replicate_zero,List.append_nil];rfl
theorem ztf{s U:List Nat}{d d' p p':Nat}(h:∀i,U[p'+i]?=some d'↔s[p+i]?=some d):zfy U d' p'=zfy s d p:=by
 unfold zfy;have h0:U[p']?=some d'↔s[p]?=some d:=h 0;by_cases h1:s[p]?=some d
 ·rw[if_pos h1,if_pos (h0.mpr h1)]
  by_cases h2:s[p+1]?=some d
  ·rw[if_pos h2,if_pos ((h 1).mpr h2)]
  ·rw[if_neg h2,if_neg λz=>h2 ((h 1).mp z)]
 ·rw[if_neg h1,if_neg λz=>h1 (h0.mp z)]
theorem zwe{l:List Nat}{a b c:Nat}(h1:a≤b)(h2:b≤c):cut l a b++cut l b c=cut l a c:=by
 obtain⟨m,rfl⟩:=Nat.le.dest h1;obtain⟨n,rfl⟩:=Nat.le.dest h2;unfold cut;rw[Nat.add_sub_cancel_left,Nat.add_sub_cancel_left,Nat.add_assoc,Nat.add_sub_cancel_left,List.take_add,List.drop_drop]
section
variable{s row done:List Nat}{b f0 f1 f2 at':Nat}{no:Prop}
end
noncomputable def Chr(l:List Nat):Prop:=∀c∈l,c<1114112
theorem Chr.app{a b:List Nat}(x:Chr a)(y:Chr b):Chr (a++b):=λc h=>(List.mem_append.mp h).elim (x c) (y c)
theorem Chr.cons{a:Nat}{b:List Nat}(x:a<1114112)(y:Chr b):Chr (a::b):=λc h=>(yx.mp h).elim (λe=>e▸x) (y c)
theorem Chr.nil:Chr []:=λc h=>zb7 h
theorem Chr.cut{s:List Nat}(x:Chr s)(a b:Nat):Chr (cut s a b):=λc h=>by
 obtain⟨i,_,_,e⟩:=zqF h;exact x c (yw e)
theorem Chr.of{l:List Nat}(h:(l.all λc=>decide (c<1114112))=true):Chr l:=λc hc=>yC (yK.mp h c hc)
theorem zqq{s:List Nat}(h1:s.length≤300000)(h2:Chr s):okT s=true:=by
 unfold okT;rw[decide_eq_true h1,Bool.true_and];refine yK.mpr λc hc=>?_;have hr:=StrLaws.reprText_len (mk [c]) λd hd=>by
  rw[zva,List.mem_singleton]at hd;rw[hd];exact Nat.lt_trans (h2 c hc) (by decide)
 rw[zaG]at hr;rw[decide_eq_true (h2 c hc),Bool.true_and];exact yt (yj hr (show 12≤1000 by decide))
theorem zlc{s:List Nat}(h:okT s=true):Chr s:=λc hc=>(zh6 h hc).1
theorem zqY(i:Int):Chr (zby i):=λc hc=>by
 unfold zby at hc;rw[Str.ofString_eq_toList]at hc;simp only[List.mem_map]at hc;obtain⟨d,_,rfl⟩:=hc;have:=d.valid;unfold UInt32.isValidChar at this;rcases this with h|h
 ·exact Nat.lt_trans h (by decide)
 ·exact h.2
theorem zeU{s m:List Nat}{p:Nat}(h:Chr m):Chr (zcD s p m):=by
 unfold zcD zbZ;refine((h.app (.of (by decide))).app ?_).app (.of (by decide));by_cases c:s.length≤p
 ·rw[if_pos c];exact .of (by decide)
 ·rw[if_neg c];exact(((Chr.of (by decide)).app (zqY _)).app (.of (by decide))).app (zqY _)
noncomputable def zsD:R->Prop
 |.ok r=>Chr r.2
 |.error m=>Chr m
theorem zq3{s:List Nat}{p k:Nat}:zsD (zi4 s p k):=by
 unfold zi4;dsimp only;by_cases c1:(cut s p (p+k)).length≠k∨¬(cut s p (p+k)).all zbr=true
 ·rw[if_pos c1];exact zeU (.of (by decide))
 ·rw[if_neg c1]
  by_cases c2:zbM (zbI (cut s p (p+k)))=true
  ·rw[if_pos c2]
   refine .cons ?_ .nil;unfold zbM at c2;simp only[Bool.or_eq_true,Bool.and_eq_true,decide_eq_true_eq]at c2;lia
  ·rw[if_neg c2];exact zeU (.of (by decide))
theorem zsW{s:List Nat}{p:Nat}:zsD (zez s p):=by
 unfold zez;by_cases c1:cut s p (p+2)=[92,117]
 ·rw[if_pos c1];exact zq3
 ·rw[if_neg c1]
  by_cases c2:cut s p (p+2)=[92,85]
  ·rw[if_pos c2];exact zq3
  ·rw[if_neg c2]
   cases e:zji (cut s p (p+2))with
   |none=>exact zeU (.of (by decide))
   |some v=>
    have:∀q∈zcY,(q.2.all λc=>decide (c<1114112))=true:=by decide
    exact Chr.of (this _ (zhc e))
theorem zur{s:List Nat}{p:Nat}{ml:Bool}:zsD (ze0 s p ml):=by
 unfold ze0;by_cases c:ml=true∧(cut s p (p+2)=[92,32]∨cut s p (p+2)=[92,9]∨cut s p (p+2)=[92,10])
 ·rw[if_pos c]
  unfold zmB;by_cases c1:cut s p (p+2)=[92,10]
  ·rw[if_pos c1];exact Chr.nil
  ·rw[if_neg c1]
   cases s[zaE s wsL (p+2)]? with
   |none=>exact Chr.nil
   |some d=>
    dsimp only;by_cases c2:d=10
    ·rw[if_pos c2];exact Chr.nil
    ·rw[if_neg c2];exact zeU (.of (by decide))
 ·rw[if_neg c];exact zsW
theorem zqU{c:Nat}(h:c∈zg0):Chr (zfz [c]):=by
 have:∀c∈zg0,((zfz [c]).all λc=>decide (c<1114112))=true:=by right
 exact .of (this c h)
theorem zt6{ml:Bool}{c:Nat}(h:[c]∈znp ml):c∈zg0:=by
 induction ml with
 |true=>exact(List.mem_filter.mp (znB.mp (show[c]∈zuk from h))).1
 |false=>exact(List.mem_filter.mp (znB.mp (show[c]∈zwp from h))).1
theorem zn3{s:List Nat}{ml:Bool}(hs:Chr s):∀(n:Nat){acc:List Nat}{q:Nat},s.length+1≤n+q->Chr acc->zsD (zaS s ml acc q)
 |0,acc,q,hn,ha=>by
  rw[zbK (List.getElem?_eq_none_iff.mpr (by lia))];exact zeU (.of (by decide))
 |n+1,acc,q,hn,ha=>by
  cases hc:s[q]? with
  |none=>rw[zbK hc];exact zeU (.of (by decide))
  |some c=>
   have hv:=hs c (yw hc);rw[zaC hc];unfold zbU;by_cases e1:c=34
   ·rw[if_pos e1]
    by_cases e2:ml=false
    ·rw[if_pos e2];exact ha
    ·rw[if_neg e2]
     by_cases e3:cut s q (q+3)=[34,34,34]
     ·rw[if_pos e3];exact ha
     ·rw[if_neg e3];exact zn3 hs n (by omega) (ha.app (.of (by decide)))
   ·rw[if_neg e1]
    by_cases e2:c=92
    ·rw[if_pos e2]
     have hx:=zur (s:=s) (p:=q) (ml:=ml);cases he:ze0 s q ml with
     |error m=>rw[he]at hx;exact hx
     |ok r=>
      obtain⟨p',t⟩:=r;rw[he]at hx;have hle:=ziR (zaK hc) he;exact zn3 hs n (by lia) (ha.app hx)
    ·rw[if_neg e2]
     by_cases e3:[c]∈znp ml
     ·rw[if_pos e3];exact zeU ((Chr.of (by decide)).app (zqU (zt6 e3)))
     ·rw[if_neg e3];exact zn3 hs n (by omega) (ha.app (.cons hv .nil))
theorem zqP{s:List Nat}{ml:Bool}{p:Nat}(hs:Chr s):zsD (zcm s ml p):=zn3 hs (s.length+1) (yN ..) .nil
theorem zs9{i:Int}{l:List Nat}(h:Chr l):okD (.tup [.int i,.str l])=true:=by
 have h1:SeqAt.shaped (.str (mk l))=true:=zew h;show SeqAt.shaped (.tuple [.int i,.str (mk l)])=true;unfold SeqAt.shaped PyData.canLay0 at h1⊢;simp[PyData.canLayAll0,PyData.canLay0,PyData.depth,PyData.depthAll]at h1⊢;exact h1
theorem zrX{s t:List Nat}{d p:Nat}(hd:d<1114112)(ht:Chr t):zsD (zgm s d p t):=by
 unfold zgm;by_cases e1:cut s p (p+1)=[d]
 ·rw[if_pos e1]
  by_cases e2:cut s (p+1) (p+1+1)=[d]
  ·rw[if_pos e2];exact ht.app (.cons hd (.cons hd .nil))
  ·rw[if_neg e2];exact ht.app (.cons hd .nil)
 ·rw[if_neg e1];exact ht
noncomputable def toL:R->D
 |.ok r=>.tup [.int (r.1:Nat),.str r.2]
 |.error m=>.lst [.str m]
theorem zw4{l:List Nat}(h:Chr l):okD (.lst [.str l])=true:=by
 have h1:SeqAt.shaped (.str (mk l))=true:=zew h;show SeqAt.shaped (.list [.str (mk l)])=true;unfold SeqAt.shaped PyData.canLay0 at h1⊢;simp[PyData.canLayAll0,PyData.canLay0,PyData.depth,PyData.depthAll]at h1⊢;exact h1
theorem zr3{r:R}(h:zsD r):okD (toL r)=true:=by
 cases r with
 |ok r=>exact zs9 h
 |error m=>exact zw4 h
theorem zwq(r:R):eqD (toL r) (toL r)=true:=by
 induction r with
 |ok r=>
  show((((r.1:Nat):Int)==((r.1:Nat):Int))&&((mk r.2==mk r.2)&&true))=true;simp
 |error m=>
  show((mk m==mk m)&&true)=true;simp
noncomputable def zz4:D->Nat
 |.tstr _ b=>b
 |_=>0
section
variable{S:St0}{sh:zai}
@[reducible]noncomputable def zuM(cs:PEs):PE:=λQ X st=>cs (λrs st₁=>one cI (rs.map Res.d) λi=>0≤i∧i≤1114111∧∀b,Q (.pl (.tstr [i.toNat] b)) st₁) X st
noncomputable def CT(r:Res)(k:Nat):Prop:=∃i b,r=.pl (.tstr [i] b)∧b≤k
theorem zwK(D0:Std S){x:Str}{np pos:Pos}{e:Expr}{es':List Expr}{cs:PEs}(hx:sh.scope.names.lookup x=some .globalImplicit)(hg:S.mg x=none)(hn:x≠"__name__")(hb:bootBuiltins x=some (.builtin "chr"))(H:zb0 S sh (e::es') cs)
  (hplain:∀env,(backTo pos (starEach (e::es') env)).any (·.1)=false)(he:∀env,starEach (e::es') env=(false,eval e env)::starEach es' env)(hd:(x==("__debug__":Str))=false):zvy CT 1 S sh (.Call (.Name x np) (e::es') [] pos) (zuM cs):=λa ow st s Q X hJ f R q=>by
 show wpAny _ _ (do callWith pos (←eval (.Name x np) a.env) [] (backTo pos (starEach (e::es') a.env)) (backToKw pos (keywordEach [] a.env))) _ _ _;refine yk (zda f hx (D0.g.keeps (R.stays f)) (D0.b.keeps (R.stays f)) hg ((D0.blt x hn).trans hb) ?_ hd);refine Calls.callWith_builtin (hplain _) ?_;have hb':backTo pos (starEach (e::es') a.env)=(false,eval e a.env)::backTo pos (starEach es' a.env):=by rw[he];rfl
 have hgo:=H pos a _ st s _ X f R q;rw[hb']at hgo⊢;refine Calls.evalArgs_plain (yr (wpAny_toks hgo) (λvs s₂ h=>?_) λ_ _ x=>x.2);left;obtain⟨hn2,rs,st₂,g1,K,g3⟩:=h;show wpAny _ _ (call (.builtin "chr") ([]++vs)) _ _ _;rw[List.nil_append];refine za1 (ze2 g1) λi e1 g1=>?_;have c:=g3.cs;rw[e1]at c;refine za1 (zel c) λv hzz h1=>?_;subst hzz;obtain⟨u,rfl⟩:=h1.int;refine chr_of_range g1.1 g1.2.1 ?_;exact⟨.pl (.tstr [i.toNat] (s₂.toks+1)),st₂,⟨g1.2.2 _,_,_,rfl,yq _⟩,K.trans zgF,⟨.tstr (yy hJ hn2) (yO _),λz=>zaD z⟩⟩
end
section
variable{S:St0}{sh:zai}
theorem zoN:zcK S sh (inplaceOp .FloorDiv) zkN:=λa ow st s v1a v2a d₁ d₂ Q X f R h1 h2 q=>by
 refine zfQ (zdi q) λx y e1 e2 q=>?_;rw[e1]at h1;rw[e2]at h2;left;obtain⟨t,rfl⟩:=h1.int;obtain⟨u,rfl⟩:=h2.int;exact AutoIntOps.ifloordiv_1 (λz=>q.1 (beq_iff_eq.mp z)) (by rw[q.2.1];decide) (zbG R q.2.2)
end
theorem zc4.cons{n₀:Nat}{S:St0}{l:List (Str×Ctr)}{n:Str}{c:Ctr}{a:Addr}{o:Obj}{fd:FuncData}(hm:S.mg n=some (.ref a))(ho:S.base.get? a=some o)(hd:o.data=.func fd)(h:zw2 n₀ S (.ref a) c.rank c.calm c.kws c.Φ)(t:zc4 n₀ S (zaz l)):zc4 n₀ S (zaz ((n,c)::l)):=⟨λn' c' v h1 h2=>by
 unfold zaz at h1;by_cases e:n'=n
 ·subst e
  rw[List.lookup_cons_self]at h1;obtain rfl:=yi h1;rw[hm]at h2;obtain rfl:=yi h2;exact⟨h,a,o,fd,rfl,ho,hd⟩
 ·rw[List.lookup,show(n'==n)=false from by simpa using e]at h1
  exact t.ok n' c' v h1 h2⟩
theorem zv6{S:St0}(D0:Std S){sh:zai}{n:Str}{a:Addr}{o:Obj}{params:Arguments}{body:List Stmt}{scope:Scope}{pm cd doc dV kV:Value}{ps rest:List Str}{c:PS}{F:Fn}{n₀:Nat}{l:List (Str×Ctr)}
  (hm:S.mg n=some (.ref a))(ho:S.base.get? a=some o)(hd:o.data=.func {docDef n params body scope pm cd doc with defaults:=dV,kwdefaults:=kV})(hcd:S.base.CodeRec cd n)
  (hco:scope.isCoroutine=false)(hgen:scope.isGenerator=false)(hk:scope.kind=.function)(hsc:sh.scope=scope)(hkeys:∀n,(cellsFrom n scope.names []).map (·.1)=sh.cells)(hcl:(sh.cells.all λx=>sh.scope.names.lookup x==some .cell)=true)
  (hnames:sh.names=ps++rest)(hloc:(sh.names.all λx=>sh.scope.names.lookup x==some .local)=true)(hnd:sh.all.Nodup)
  (hbind:∀(s:Shared)(vs:List Value),vs.length=ps.length->BindsTo s {docDef n params body scope pm cd doc with defaults:=dV,kwdefaults:=kV} ⟨vs,[]⟩ (ps.zip vs))
  (H:zc2 n₀ S sh body c)(k:∀ds dk Q X,zbH (F ds dk) Q X->dk=[]∧ds.length=ps.length∧c (zn4 Q) (λx _=>X x) (start ds rest.length++List.replicate sh.cells.length (.cel none)))
  (hin:sh.inner=false)(t:zc4 n₀ S (zaz l)):zc4 n₀ S (zaz ((n,⟨sh.rank+10,sh.calm,[],λds dk=>zbH (F ds dk)⟩)::l)):=by
 have T:=znC (F:=λds dk=>zbH (F ds dk)) D0 ho hd hcd hco hgen hk hsc hkeys hcl hnames hloc hnd hbind H k hin;refine zc4.cons hm ho hd (λA fr hands P s vs ks ds dk Q X hn C hv hk' hl q=>?_) t;have h0:=(k _ _ _ _ q).1;subst h0;exact T A fr hands P s vs ds Q X hn C hv q
theorem zxl{x i z:Int}{Q:Res->Prop}{X:Err->Prop}(e:x-i=z)(k:Q (.pl (.int z))):zpK (.int x) (.int i) Q X:=by
 subst e;exact k
theorem zdD{x i z:Int}{Q:Res->Prop}{X:Err->Prop}(e:x+i=z)(k:Q (.pl (.int z))):zdb (.int x) (.int i) Q X:=by
 subst e;exact k
theorem ztp{x y:Int}{Q:Res->Prop}{X:Err->Prop}(hx:Builtin.Int.intBits x≤64)(k:Q (.pl (.int (x*y)))):zxf (.int x) (.int y) Q X:=yl hx k
theorem zum{x y:List Nat}{Q:Res->Prop}{X:Err->Prop}(hx:Chr x)(hy:Chr y)(k:Q (.pl (.bool (decide (x=y))))):eqP (.str x) (.str y) Q X:=by
 refine yl (zew hx) (yl (zew hy) ?_);rw[znY];exact k
theorem zrN{n:Nat}{Q:Res->Prop}{X:Err->Prop}(h:n≤1000000)(k:Q (.pl (.rng ((List.range n).map λj:Nat=>.int (j:Nat))))):zjE [.int (n:Nat)] Q X:=by
 refine yl (Int.le_trans (by decide:(-1000000:Int)≤0) (yz n)) (yl (yR.mpr h) ?_);rw[Int.toNat_natCast,show(λj:Nat=>D.int (0+(j:Int)))=λj:Nat=>.int (j:Nat)from funext λj=>by rw[Int.zero_add]];exact k
theorem zrZ(c m:Nat):zxk [c] (m:Nat)=List.replicate m c:=by
 unfold zxk;rw[Int.toNat_natCast]
 induction m with
 |zero=>rfl
 |succ m ih=>rw[List.replicate_succ,List.flatten_cons,ih];rfl
theorem zuY{c m:Nat}{Q:Res->Prop}{X:Err->Prop}(hm:m≤1000000)(k:Q (.pl (.str (List.replicate m c)))):zxh (.str [c]) (.int (m:Nat)) Q X:=by
 refine yl (yR.mpr hm) (yl (Int.le_trans (by decide:(-1000000:Int)≤0) (yz _)) (yl ?_ ?_))
 ·rw[Int.toNat_natCast]
  exact yj (yG (Nat.one_mul m)) hm
 ·rw[zrZ];exact k
theorem zeN{x y:List Nat}{Q:Res->Prop}{X:Err->Prop}(h:x.length+y.length≤LIM)(k:Q (.pl (.str (x++y)))):zdb (.str x) (.str y) Q X:=yl h k
theorem zpO:∀l:List (List Nat),zvR (l.map .str)=some l
 |[]=>rfl
 |x::l=>by
  show(zvR (l.map .str)).map (x::·)=_;rw[zpO l];rfl
theorem zu0{p:List Nat}{l:List (List Nat)}{Q:Res->Prop}{X:Err->Prop}(h:(l.map List.length).sum+l.length*p.length≤1000000)(k:Q (.pl (.str (zg5 p l)))):ztE p [.lst (l.map .str)] Q X:=by
 have e:cLT.of (.lst (l.map .str))=some l:=zpO l;show oM (cLT.of (.lst (l.map .str))) λx=>(x.map List.length).sum+x.length*p.length≤1000000∧Q (.pl (.str (zg5 p x)));rw[e];exact yl h k
theorem zgL:∀l:List (List Nat),zg5 [] l=l.flatten
 |[]=>rfl
 |[x]=>(List.append_nil x).symm
 |x::y::l=>by
  show x++[]++zg5 [] (y::l)=_;rw[zgL (y::l),List.append_nil];rfl
theorem zz8{n:Nat}{Q:Res->Prop}{X:Err->Prop}(hn:n≤1000000)(k:Q (.pl (.int (n:Nat)))):intD [.str (zby (n:Nat))] Q X:=by
 refine yl (yj (zeW hn) (by decide)) ⟨(n:Nat),?_,k⟩;have e:mk (zby (n:Nat))=Str.ofString (toString ((n:Nat):Int)):=zdx _;rw[e];exact KIN.num_reads (yz n) (Int.ofNat_lt.mpr (yU hn (by decide:1000000<10^10)))
theorem zuX{l:List D}{n:Nat}:zbk l none (some (n:Nat))=l.take n:=by
 unfold zbk;rw[show zaT none 0 l.length=0 from rfl,List.drop_zero,Nat.sub_zero];unfold zaT;dsimp only;rw[if_neg (Int.not_lt.mpr (Int.natCast_nonneg n)),zc5];rcases Nat.le_total n l.length with h|h
 ·rw[Nat.min_eq_left h]
 ·rw[Nat.min_eq_right h,List.take_of_length_le (Nat.le_refl _),List.take_of_length_le h]
theorem zq7{l p:List Nat}{r:List (List Nat)}{Q:Res->Prop}{X:Err->Prop}(hl:l.length≤500000)(hp:p≠[])(ha:(p.all λc=>decide (c<256))=true)(e:zbN l p=r)(k:Q (.fr (r.map .str))):zof l [.str p] Q X:=by
 subst e;exact yl hl (yl hp (yl ha k))
theorem zwY{a x:List Nat}{z k:Nat}{Q:Res->Prop}(hs:(a++x++[z]).length≤LIM)(hk:a.length=k)(q:Q (.pl (.str x))):zgv (a++x++[z]) (some (k:Nat)) (some (-1)) Q:=by
 rw[zwI,zqn hk];exact yl hs q
theorem ziO{n:Nat}{Q:Res->Prop}{X:Err->Prop}(k:Q (.pl (.int (n:Nat)))):zpK (.int (n+1:Nat)) (.int 1) Q X:=by
 have e:((n+1:Nat):Int)-1=(n:Nat):=by lia
 show Q (.pl (.int (((n+1:Nat):Int)-1)));rw[e];exact k
theorem zwV{l:List D}{K:Bool->Prop}(h:l.length≤1000000)(k:K (!l.isEmpty)):oM (zjs (.lst l)) K:=by
 rw[zyJ,if_pos h];exact k
theorem zx9{α:Type}{l:List α}{q:Nat}:zbk l (some (q:Nat)) none=l.drop q:=by
 unfold zbk;rw[show zaT none l.length l.length=l.length from rfl];unfold zaT;dsimp only;rw[if_neg (Int.not_lt.mpr (Int.natCast_nonneg q)),zc5,List.take_of_length_le (by rw[List.length_drop];exact Nat.le_refl _)];by_cases h:q≤l.length
 ·rw[Nat.min_eq_left h]
 ·rw[Nat.min_eq_right (Nat.le_of_not_le h),List.drop_of_length_le (Nat.le_refl _),List.drop_of_length_le (Nat.le_of_not_le h)]
theorem zq8{i z:Int}{Q:Res->Prop}{X:Err->Prop}(e:-i=z)(k:Q (.pl (.int z))):zuZ (.int i) Q X:=by
 subst e;exact k
theorem zsi{z:Int}{b:Nat}{Q:Res->Prop}{X:Err->Prop}(hb:0<b)(k:∀N:Nat,N<b->Q (.pl (.int (N:Nat)))):zrB (.int z) (.int (b:Nat)) Q X:=by
 have hb':(0:Int)<(b:Nat):=Int.natCast_pos.mpr hb;have h1:=Int.fmod_nonneg_of_pos z hb';have h2:=Int.fmod_lt_of_pos z hb';obtain⟨N,e⟩:=Int.eq_ofNat_of_zero_le h1;refine yl (Int.ne_of_gt hb') ?_;show Q (.pl (.int (z.fmod (b:Nat))));rw[e]at h2⊢;exact k N (Int.ofNat_lt.mp h2)
theorem zvd{n:Nat}{Q:Res->Prop}{X:Err->Prop}(h:n≤1000000)(k:Q (.pl (.str (zby (n:Nat))))):zy5 [.int (n:Nat)] Q X:=yl (zic h) k
theorem zuy{s m:List Nat}{p:Nat}(hs:s.length≤300000)(hm:m.length≤1100):(zcD s p m).length≤1300:=by
 unfold zcD;exact zb6 (b:=1) (zb6 (zb6 (b:=5) hm (yq 5) (yq _)) (zis hs p) (yq _)) (yq 1) (by decide)
theorem zh0{s p:List Nat}{q:Nat}{b:Bool}{Q:Res->Prop}{X:Err->Prop}{n:Nat}(hp:p.length=n+1)(e:decide (cut s q (q+p.length)=p)=b)(k:Q (.pl (.bool b))):zdY s [.str p,.int (q:Nat)] Q X:=by
 show Q (.pl (.bool (Txt.startswith3 (mk s) (mk p) ((q:Nat):Int))));rw[zkd s p q hp,e];exact k
noncomputable def zqQ(h:Heap):Bool:=match h.nsMap mainGlobals "TOMLDecodeError" with
 |some (.ref C)=>match h.get? C with
  |some o=>match o.data with
   |.cls cd=>(cd.mro == .ref C::bmV)&&h.isNs cd.ns&&(h.nsMap cd.ns "__str__").isNone
   |_=>false
  |none=>false
 |_=>false
set_option tactic.hygienic true in
theorem zAb{h:Heap}{a:Addr}(e:h.isNs a=true):h.Ns a (h.nsMap a):=by
 unfold Heap.isNs at e;left
 split at e
 ·rename_i o ho
  split at e
  ·rename_i es ep hd
   refine zsz o es ep ho hd (λx hx=>?_) (λn=>?_)
   ·have:=Array.all_eq_true_iff_forall_mem.mp e x hx
    left
    split at this
    ·rename_i n t hk
     exact zxR n t hk
    ·exact zaD this
   ·unfold Heap.nsMap
    rw[ho];dsimp only;rw[hd]
  ·exact zaD e
 ·exact zaD e
set_option tactic.hygienic true in
theorem zta{h:Heap}(e:zqQ h=true):ClsAt (h.nsMap mainGlobals) h:=by
 unfold zqQ at e;left
 split at e
 ·rename_i C hC
  split at e
  ·rename_i o ho
   split at e
   ·rename_i cd hd
    obtain⟨e1,e3⟩:=yu.mp e;obtain⟨e1,e2⟩:=yu.mp e1;exact zAv C o cd _ hC ho hd (beq_iff_eq.mp e1) (zAb e2) (Option.isNone_iff_eq_none.mp e3)
   ·exact zaD e
  ·exact zaD e
 ·exact zaD e
theorem zAg{c:ClaimW}{s₀ s₁ s':Shared}{args:List WData}{vs:List Value}{as:List Addr}{r:Result}(hsame:c.same=none)(hwi:c.within=[])(hi:∀a b,c.ident a b=true)
  (hrd:ReadsAllW c.records (classAt s₀.heap) s₁.heap vs args as)(hold:∀a∈as,∃o,s₁.heap.get? a=some o)(hos1:s₁.os=s₀.os)
  (hcase:(∃v d as,r=.ok (.ret v)∧(∀cls,c.raises args cls=false)∧ReadsW c.records (classAt s₀.heap) s'.heap v d as∧c.post args d args=true∧(c.unshared=true->as.Nodup∧∀a∈as,s₁.heap.get? a=none)) ∨
   (∃e ob cls,r=.error (.ref e)∧s'.heap.get? e=some ob∧ExcName.means s₀.heap cls=some ob.cls∧c.raises args cls=true∧s₁.heap.get? e=none))
  (hK:OldK s₁.heap s'.heap)(hos:s'.os=s₁.os)(hg':s'.gens=#[]):c.Ends s₀ args vs s₁ r s'∧s'.os=s₀.os∧s'.gens=#[]:=by
 refine⟨?_,hos.trans hos1,hg'⟩;left;rcases hcase with⟨v,d,bs,rfl,hnr,hrv,hpost,hun⟩|⟨e,ob,cls,rfl,he,hcls,hpr,hnew⟩
 ·exact .inl ⟨v,rfl,hnr,⟨d,args,bs,as,hrv,hrd.keepsK λb o e hc=>hK.get_of_cls e hc,hpost,λhu=>⟨(hun hu).1,(hun hu).2,λa ha hb'=>by
   obtain⟨o,ho⟩:=hold a hb';rw[(hun hu).2 a ha]at ho;exact zad ho⟩,λ_ _=>hi _ _⟩,(λi hi'=>by exact zad (hsame.symm.trans hi')),(λb o hb' _ _=>hK.old b o hb'),λi hi'=>by rw[hwi]at hi';exact zb7 hi'⟩
 ·exact .inr (zAF e ob cls rfl he hcls hpr hnew (λb o hb'=>hK.old b o hb'))
noncomputable abbrev WalkG(prog q:Program)(loose:List Str)(XP:(Str->Option Value)->Heap->Prop)(YP:World->(Str->Option Value)->Heap->Prop)(sets:List (Str×List Str))(d:DefRec)(kwd:List (Str×Expr)):Prop:=
 ∀(w:World)(s₀ s₁:Shared)(mg mb:Str->Option Value),Ground q loose [] XP w s₀ mg mb s₁.heap->zdv prog w sets mg s₁.heap->YP w mg s₁.heap->s₁.gens=#[]->0<s₁.toks ->
  ∀(a:Addr)(o:Obj)(pm cd doc dV kV:Value),s₁.heap.get? a=some o ->
  o.data=.func {docDef d.name d.params d.body d.scope pm cd doc with defaults:=dV,kwdefaults:=kV}->s₁.heap.CodeRec cd d.name->Dflts mg s₁.heap d.params kwd dV kV->mg d.name=some (.ref a) ->
  ∀(xs:List Int)(vs:List Value)(L:Addr),zys vs xs->s₁.heap.get? L=some {cls:=.type "list",data:=.seq vs.toArray}->xs.length≤63->WData.weight (.list (xs.map .int))≤2^20->(L==sysModules)=false ->
   wpAny (model prog w) callerA (PySem.call (.ref a) [.ref L]) (λv s'=>v=.bool true∧OldK s₁.heap s'.heap∧s'.os=s₁.os∧s'.gens=#[]) (λ_ _=>False) s₁
theorem zvK{d0:WData}(h:WShape.has [] d0 (.list .int)=true):∃ds,d0=.list ds∧WShape.hasItems [] ds .int=true:=by
 left;cases d0 with
 |list ds=>exact zbO ds rfl ((Bool.or_false _).symm.trans h)
 |_=>cases (show false=true from h)
theorem zwr{args:List WData}(h:WShape.hasAll [] args [.list .int]=true):∃ds,args=[.list ds]∧WShape.hasItems [] ds .int=true:=by
 refine zfQ (hasAllW_cons h) λd0 r0 hzz h1 h2=>?_;subst hzz;refine za1 (zvK h1) λds hzz hi=>?_;subst hzz
 induction r0 with
 |nil=>exact zbO ds rfl hi
 |cons _ _=>cases (show false=true from h2)
theorem zpZ{d:WData}(h:WData.layableAll [d]=true):d.weight≤2^20:=by
 have:d.layable=true:=(yu.mp h).1;unfold WData.layable at this;exact yC (yu.mp this).2
theorem zsj{P:Params}{h:Heap}{vs:List Value}{args:List WData}(hwl:WellAll P h vs args)(hp1:WShape.hasAll [] args [.list .int]=true)(hlay:WData.layableAll args=true) :
  ∃(xs:List Int)(vs0:List Value)(L:Addr),args=[.list (xs.map .int)]∧vs=[.ref L]∧zys vs0 xs∧h.get? L=some {cls:=.type "list",data:=.seq vs0.toArray}∧WData.weight (.list (xs.map .int))≤2^20:=by
 refine za1 (zwr hp1) λds hzz hit=>?_;subst hzz;clear hp1;left;cases hwl with
 |cons a0 b0=>
  cases b0;cases a0 with
  |@list L vs0 _ hg0 hw0=>
   refine za1 (zvD hw0 hit) λxs hzz hxs=>?_;subst hzz;exact zzQ xs vs0 L rfl rfl hxs hg0 (zpZ hlay)
theorem ofPys_ints:∀ns:List Int,ofPys (ns.map PyData.int)=ns.map WData.int
 |[]=>rfl
 |n::ns=>ya (WData.int n::·) (ofPys_ints ns)
theorem ztJ{R:WRecords}{cl:Str->Option Addr}{P:Params}{ord:List DictEntry->List DictEntry}{ns:List Int}{s:Shared}{r:List Value×Shared}(e:layAllW R cl P ord [.list (ns.map .int)] s=some r):s.toks≤r.2.toks:=by
 rw[←ofPys_ints]at e;simp only[layAllW,layW]at e;cases q:layAllW R cl P ord (ofPys (List.map PyData.int ns)) s with
 |none=>rw[q]at e;exact zad e
 |some r'=>
  rw[q]at e;have hh:=PySem.W.X.lay_ints_toks ns s r' q;simp only[Option.some.injEq]at e;rw[←e];exact hh
theorem zzt{q:Program}{loose:List Str}{R:WRecords}{XP:(Str->Option Value)->Heap->Prop}{w:World}{s₀:Shared}{mg mb:Str->Option Value}{h:Heap}{name:Str}{d:DefRec}{kw:List (Str×Expr)}(G:Ground q loose R XP w s₀ mg mb h)(e:defOf q name=some (d,kw)):zvl (d,kw) mg h:=by
 obtain⟨a,o,pm,cd,doc,dV,kV,q1,q2,q3,q4,q5⟩:=G.fn e;exact⟨a,o,pm,cd,doc,dV,kV,defOf_name e▸q1,q2,q3,q4,q5⟩
theorem holds_grown{l:OpenLaw}{q:Program}{loose:List Str}{Xt:Shared->Bool}{XP:(Str->Option Value)->Heap->Prop}{YP:World->(Str->Option Value)->Heap->Prop}{sets:List (Str×List Str)}{β:Type}{ext:BS->β}{extV:World->β}{N M:Nat}{d:DefRec}{kwd:List (Str×Expr)}
  (hm:l.most=some 63)(hbd:l.bound=none)
  (hB:∀w:World,(fencedOpening treeTable l.prog w M).map (λs=>(s.heap,s.gens,s.drawn,s.toks))=some (boot_heap w.params,Array.mk [],boot_drawn,boot_toks))
  (left:∀w,zhF l.prog q loose Xt sets ext extV (denote table) pyNext openSeen N w)
  (hX:∀s,Xt s=true->XP (s.heap.nsMap mainGlobals) s.heap)(hXk:∀mg h h',XP mg h->(∀b o,h.get? b=some o->h'.get? b=some o)->XP mg h')
  (hE:∀w b,ext b=extV w->YP w (b.heap.nsMap mainGlobals) b.heap)(hYk:∀w mg h h',YP w mg h->(∀b o,h.get? b=some o->h'.get? b=some o)->YP w mg h')
  (hK:∀w b,ext b=extV w->0<b.toks)
  (hdef:defOf q l.name=some (d,kwd))(hp:l.prog.theDef l.name=some (d.params,d.body,d.scope))(hk:kwWritten? d.params.kwonlyargs d.params.kw_defaults=some kwd)
  (k1:l.row.wellSaid=true)(ok:(chainsOk q&&opensWell l.prog&&(frees l.row.toRowW&&l.row.within.isEmpty))=true)(hb:l.prog.bare)(hw:l.row.toRowW.promised)
  (call:WalkG l.prog q loose XP YP sets d kwd):l.row.Holds:=by
 obtain⟨ok,k5⟩:=yu.mp ok;obtain⟨hch,o1⟩:=yu.mp ok;obtain⟨k5,k6⟩:=yu.mp k5;refine zzX (frees_parts k5) λhsame hu ha hap hmk=>?_;refine⟨k1,hw,⟨hb,o1,by show l.row.toRowW.makers.map l.row.toRowW.maker=[];exact ya _ hmk⟩,hw.witness,λw=>⟨(zuK (w:=w) hB (left w) hX hch).1,λs' hs'=>?_⟩⟩;left;obtain⟨s₀,s,hf,hg0,hT,hz,hgens,hg,G,SS,b,hsb,hext⟩:=(zuK (w:=w) hB (left w) hX hch).2 s' hs';have Y:YP w (s.heap.nsMap mainGlobals) s.heap:=hsb▸(hE w b hext);have RF:RecFacts ([]:WRecords) s.heap:=recFacts_nil rfl;refine⟨s₀,hf,hg0,s,hT,λn hn=>?_,RF.1,RF.2.1,?_⟩
 ·obtain rfl:n=l.name:=by
   have:n∈[l.name]:=hn;simpa using this
  exact pinned_of_view hg G hdef hp hk
 refine ClaimW.callFrom_of_specN (c:=l.row.toRowW.claim) (tree:=λvs=>do match ←nsGet mainNs l.row.name with
   |some f=>do ret (←PySem.call f vs)
   |none=>unsupported "claim.caller:no-such-global") hz hgens λargs hpre hlay ord hord=>?_
 obtain⟨⟨vs,s₁⟩,hlaid⟩:=yI.mp (layAllW_isSome (P:=w.params) (ord:=ord) (R:=[]) G.has args l.row.args s (pre_splitW hpre).1);have keeps:=layAllW_keeps _ _ _ hlaid;have hal:=layAllW_rest _ _ _ hlaid;refine zcN (reads_layAllW hord _ _ _ hlaid hlay s₁.heap (λ_ _ e=>e)) λas hrd hin hold=>?_;have G1:=G.keeps hXk keeps;have hwl:=well_layAllW hord args s _ hlaid s₁.heap λ_ _ e=>e;obtain⟨hp1,hp2⟩:=pre_splitW hpre;clear hpre;obtain⟨xs,vs0,L,rfl,rfl,hxs,hg0,hwt⟩:=zsj hwl hp1 hlay;have hlen:(xs.map WData.int).length≤63:=zwW hm hbd hp2;have hlow:(L==sysModules)=false:=by
  clear hwl G1 hold hal keeps hlaid hg0;cases hrd with
  |cons x y=>
   cases x with
   |list g1 g2 g3 g4=>
    refine beq_eq_false_iff_ne.mpr λe=>?_;have:=(hin.2.2 L (by simp)).1;subst e;exact absurd G.low (yg.mpr this)
 left;obtain⟨a,o,pm,cd,doc,dV,kV,q1,q2,q3,q4,q5⟩:=zzt G1 hdef;have hn:=defOf_name hdef;have hk1:0<s₁.toks:=yy (hsb▸(hK w b hext)) (ztJ hlaid);have h:=call w s {s₁ with gens:=#[]} _ _ G1 (SS.keeps keeps) (hYk _ _ _ _ Y keeps) rfl hk1 a o pm cd doc dV kV q2 q3 q4 q5 q1 xs vs0 L hxs hg0 (by simpa using hlen) hwt hlow;have hi:=ident_freeW hu ha hap;have hwi:l.row.toRowW.claim.within=[]:=List.isEmpty_iff.mp k6;refine zlq _ s₁ hlaid (yk (wpAny_nsGet G1.T.g ?_));simp only[show l.row.name=l.name from rfl,show s.heap.nsMap mainGlobals l.name=some (.ref a)from hn▸q1];refine yk (yr h (λv s' g=>?_) λ_ _ g=>g.elim);refine zvH g λhzz g1 g2 g3=>?_;subst hzz;have z:=zAg (c:=l.row.toRowW.claim) (s₀:=s) (s₁:=s₁) (s':=s') (r:=.ok (.ret (.bool true))) hsame hwi hi hrd hold hal.2.2.1 (.inl (zzQ _ (.bool true) ([]) rfl (λ_=>rfl) (.bool true) (zs2 rfl) (λ_=>⟨.nil,λ_ h=>zb7 h⟩))) g1 g2 g3;exact yn (zA1 _ rfl z.1 z.2.1 z.2.2 (λq=>⟨namesKept_of hT hg _ keeps g1.old,λx hx=>zb7 hx⟩))
theorem zn7(s:List Nat)(a b i:Nat):(cut s a b)[i]?=if a+i<b then s[a+i]? else none:=by
 by_cases h:a+i<b
 ·rw[if_pos h];exact zem h
 ·rw[if_neg h]
  refine List.getElem?_eq_none_iff.mpr (yj (zkS s a b) ?_);omega
theorem zhS{s s':List Nat}{a b:Nat}(h:∀i,a≤i->i<b->s'[i]?=s[i]?):cut s' a b=cut s a b:=List.ext_getElem? λi=>by
 rw[zn7,zn7];by_cases z:a+i<b
 ·rw[if_pos z,if_pos z];exact h _ (yN ..) z
 ·rw[if_neg z,if_neg z]
inductive Rd(s:List Nat):Nat->Nat->List Nat->Prop
 |stop {p:Nat}:Rd s p p []
 |sign {p p' c:Nat} {v:List Nat}:s[p]?=some c->c≠34->c≠92->¬[c]∈zwp->Rd s (p+1) p' v->Rd s p p' (c::v)
 |esc {p p1 p':Nat} {t v:List Nat}:s[p]?=some 92->zez s p=.ok (p1,t)->Rd s p1 p' v->Rd s p p' (t++v)
theorem Rd.le{s:List Nat}{p p':Nat}{v:List Nat}(x:Rd s p p' v):p≤p':=by
 induction x with
 |stop=>exact yq _
 |sign _ _ _ _ _ ih=>exact Nat.le_of_succ_le ih
 |esc _ h _ ih=>exact yj (yj (yN ..) (zns h).1) ih
theorem ztd{s:List Nat}{p p1:Nat}{t:List Nat}(h:zez s p=.ok (p1,t)):p+t.length≤p1:=by
 unfold zez at h;by_cases c1:cut s p (p+2)=[92,117]
 ·rw[if_pos c1]at h
  obtain⟨_,_,_,rfl,rfl⟩:=zdh.mp h;exact ye (yN ..) (zds rfl)
 ·rw[if_neg c1]at h
  by_cases c2:cut s p (p+2)=[92,85]
  ·rw[if_pos c2]at h
   obtain⟨_,_,_,rfl,rfl⟩:=zdh.mp h;exact ye (yN ..) (zds rfl)
  ·rw[if_neg c2]at h
   cases e:zji (cut s p (p+2))with
   |none=>rw[e]at h;exact zek h
   |some v=>
    rw[e]at h;obtain⟨rfl,rfl⟩:=Prod.mk.inj (Except.ok.inj h);rw[zox e];exact yh _
theorem Rd.len{s:List Nat}{p p':Nat}{v:List Nat}(x:Rd s p p' v):p+v.length≤p':=by
 induction x with
 |stop=>exact yq _
 |sign _ _ _ _ _ ih=>rw[List.length_cons];omega
 |esc _ h _ ih=>have:=ztd h;rw[List.length_append];omega
theorem Rd.app{s:List Nat}{p m:Nat}{v:List Nat}(x:Rd s p m v):∀{p':Nat}{w:List Nat},Rd s m p' w->Rd s p p' (v++w):=by
 induction x with
 |stop=>exact λh=>h
 |sign h1 h2 h3 h4 _ ih=>exact λh=>.sign h1 h2 h3 h4 (ih h)
 |esc h1 h2 _ ih=>intro p' w h;rw[List.append_assoc];exact .esc h1 h2 (ih h)
theorem Rd.go{s:List Nat}{p p':Nat}{v:List Nat}(x:Rd s p p' v):∀acc,zaS s false acc p=zaS s false (acc++v) p':=by
 induction x with
 |stop=>intro acc;rw[List.append_nil]
 |@sign p p' c v h1 h2 h3 h4 _ ih=>
  intro acc;rw[zaC h1];unfold zbU;rw[if_neg h2,if_neg h3,if_neg (show ¬[c]∈znp false from h4),ih,List.append_assoc];rfl
 |@esc p p1 p' t v h1 h2 _ ih=>
  intro acc;rw[zaC h1];unfold zbU;have e:ze0 s p false=.ok (p1,t):=(if_neg λz=>Bool.noConfusion z.1).trans h2;rw[if_neg (by decide),if_pos rfl,e];show zaS s false (acc++t) p1=_;rw[ih,List.append_assoc]
theorem zto{s s':List Nat}{p p1:Nat}{t:List Nat}(h:zez s p=.ok (p1,t))(k:∀i,p≤i->i<p1->s'[i]?=s[i]?):zez s' p=.ok (p1,t):=by
 have hle:=zns h;have e2:cut s' p (p+2)=cut s p (p+2):=zhS λi h1 h2=>k i h1 (yy h2 hle.1);unfold zez at h⊢;rw[e2];by_cases c1:cut s p (p+2)=[92,117]
 ·rw[if_pos c1]at h⊢
  have h5:=zdh.mp h;have e3:cut s' (p+2) (p+2+4)=cut s (p+2) (p+2+4):=zhS λi h1 h2=>k i (yj (yN ..) h1) (h5.2.2.2.1▸h2);exact zdh.mpr (e3▸h5)
 ·rw[if_neg c1]at h⊢
  by_cases c2:cut s p (p+2)=[92,85]
  ·rw[if_pos c2]at h⊢
   have h5:=zdh.mp h;have e3:cut s' (p+2) (p+2+8)=cut s (p+2) (p+2+8):=zhS λi h1 h2=>k i (yj (yN ..) h1) (h5.2.2.2.1▸h2);exact zdh.mpr (e3▸h5)
  ·rw[if_neg c2]at h⊢
   cases e:zji (cut s p (p+2))with
   |none=>rw[e]at h;exact zek h
   |some v=>rw[e]at h;exact h
theorem Rd.same{s s':List Nat}{p p':Nat}{v:List Nat}(x:Rd s p p' v):(∀i,p≤i->i<p'->s'[i]?=s[i]?)->Rd s' p p' v:=by
 induction x with
 |stop=>exact λ_=>.stop
 |@sign p p' c v h1 h2 h3 h4 x ih=>
  intro k;exact .sign ((k p (yq _) x.le).trans h1) h2 h3 h4 (ih λi i1 i2=>k i (Nat.le_of_succ_le i1) i2)
 |@esc p p1 p' t v h1 h2 x ih=>
  intro k;have h5:=(zns h2).1;have h6:=x.le;exact .esc ((k p (yq _) (by omega)).trans h1) (zto h2 λi i1 i2=>k i i1 (by omega)) (ih λi i1 i2=>k i (by omega) i2)
theorem Rd.void{s:List Nat}{v0:Nat}(hv:19968≤v0):∀(n p:Nat),(∀i,p≤i->i<p+n->s[i]?=some v0)->Rd s p (p+n) (List.replicate n v0)
 |0,p,_=>.stop
 |n+1,p,h=>by
  have e:p+(n+1)=p+1+n:=by omega
  rw[e]at h⊢;refine .sign (h p (yq _) (by omega)) (by omega) (by omega) (zrr (ml:=false) hv) (Rd.void hv n (p+1) λi i1 i2=>h i (by omega) i2)
noncomputable def Sp(T:List Nat)(f:Nat):Prop:=∀p k,(k=4∨k=8)->(cut T p (p+k)).length=k->(cut T p (p+k)).all zbr=true->zbI (cut T p (p+k))≠f
structure Fv(T:List Nat)(f v0:Nat):Prop where
 g0:19968≤f
 g1:19968≤v0
 c0:f<1114112
 c1:v0<1114112
 n0:f∉T
 n1:v0∉T
 ne:f≠v0
 s0:Sp T f
 s1:Sp T v0
noncomputable def bk(f v0:Nat)(x:List Nat):List Nat:=(x.filter λc=>c != v0).map (rp f 10)
theorem zjx(f v0:Nat)(x y:List Nat):bk f v0 (x++y)=bk f v0 x++bk f v0 y:=by
 unfold bk;rw[List.filter_append,List.map_append]
theorem zw3(f v0 n:Nat):bk f v0 (List.replicate n v0)=[]:=by
 unfold bk;rw[List.filter_eq_nil_iff.mpr λc hc=>by rw[(List.mem_replicate.mp hc).2];simp];rfl
theorem zq2{f v0:Nat}{x:List Nat}(h:∀c∈x,c≠f∧c≠v0):bk f v0 x=x:=by
 unfold bk;rw[List.filter_eq_self.mpr λc hc=>bne_iff_ne.mpr (h c hc).2];exact(List.map_congr_left λc hc=>zeB (h c hc).1).trans (List.map_id _)
theorem zxy{f v0 c:Nat}(h1:c≠f)(h2:c≠v0)(hf:f≠v0):bk f v0 [rp 10 f c]=[c]:=by
 unfold bk;by_cases e:c=10
 ·rw[e,zg7,List.filter_cons_of_pos (p:=λc=>c != v0) (bne_iff_ne.mpr hf)]
  show[rp f 10 f]=_;rw[zg7]
 ·rw[zeB e,List.filter_cons_of_pos (p:=λc=>c != v0) (bne_iff_ne.mpr h2)]
  show[rp f 10 c]=_;rw[zeB h1]
noncomputable def znA(T row:List Nat)(b f m:Nat):Prop:=∀j,m≤j->row[j]?=(T[b+j]?).map (rp 10 f)
section
variable{T row:List Nat}{b f v0 m:Nat}
theorem znA.up{m':Nat}(h:znA T row b f m)(k:m≤m'):znA T row b f m':=λj hj=>h j (yj k hj)
theorem znA.cut(h:znA T row b f m){a e:Nat}(ha:m≤a):Mine.Internal.cut row a e=(Mine.Internal.cut T (b+a) (b+e)).map (rp 10 f):=List.ext_getElem? λi=>by
 rw[zn7,List.getElem?_map,zn7];by_cases z:a+i<e
 ·rw[if_pos z,if_pos (by omega),h _ (Nat.le_trans ha (Nat.le_add_right ..)),Nat.add_assoc]
 ·rw[if_neg z,if_neg (by omega)];rfl
theorem zyY{f c:Nat}(hf:19968≤f):zbr (rp 10 f c)=zbr c:=by
 by_cases e:c=10
 ·rw[e,zg7]
  cases h:zbr f with
  |true=>have:=(ze5 h).2.1;omega
  |false=>rfl
 ·rw[zeB e]
theorem zwP{f:Nat}{x:List Nat}(h:x.all zbr=true):x.map (rp 10 f)=x:=by
 refine(List.map_congr_left λc hc=>zeB ?_).trans (List.map_id _);intro e;have:=(ze5 (yK.mp h c hc)).1;omega
inductive Hx(T row:List Nat)(b f v0 a k:Nat):Prop
 |ok (n:Nat) (h1:zi4 row a k=.ok (a+k,[n])) (h2:zi4 T (b+a) k=.ok (b+(a+k),[n])) (h3:n≠f∧n≠v0)
 |bad (q:Nat) (w:List Nat) (hw:w=zjN∨w=zjI) (h1:zi4 row a k=.error (zcD row q w)) (h2:zi4 T (b+a) k=.error (zcD T (b+q) w))
theorem zAX(F:Fv T f v0)(h:znA T row b f m){a k:Nat}(ha:m≤a)(hk:k=4∨k=8):Hx T row b f v0 a k:=by
 have ec:=h.cut (e:=a+k) ha;rw[←Nat.add_assoc]at ec;have el:(Mine.Internal.cut row a (a+k)).length=(Mine.Internal.cut T (b+a) (b+a+k)).length:=by rw[ec,List.length_map]
 have ea:(Mine.Internal.cut row a (a+k)).all zbr=(Mine.Internal.cut T (b+a) (b+a+k)).all zbr:=by
  rw[ec,List.all_map];exact ya _ (funext λc=>zyY F.g0)
 by_cases c1:(Mine.Internal.cut T (b+a) (b+a+k)).length≠k∨¬(Mine.Internal.cut T (b+a) (b+a+k)).all zbr=true
 ·refine .bad a zjN (.inl rfl) (if_pos ?_) (if_pos c1)
  rw[el,ea];exact c1
 ·have c1':=not_or.mp c1
  have hl:=Classical.not_not.mp c1'.1;have hx:=Classical.not_not.mp c1'.2;have e:Mine.Internal.cut row a (a+k)=Mine.Internal.cut T (b+a) (b+a+k):=ec.trans (zwP hx);by_cases c2:zbM (zbI (Mine.Internal.cut T (b+a) (b+a+k)))=true
  ·refine .ok (zbI (Mine.Internal.cut T (b+a) (b+a+k))) ?_ ?_ ⟨F.s0 _ _ hk hl hx,F.s1 _ _ hk hl hx⟩
   ·exact zdh.mpr ⟨el.trans hl,ea.trans hx,e▸c2,rfl,by rw[e]⟩
   ·exact zdh.mpr ⟨hl,hx,c2,(Nat.add_assoc ..).symm,rfl⟩
  ·refine .bad (a+k) zjI (.inr rfl) ?_ ?_
   ·unfold zi4
    dsimp only;rw[if_neg (by rw[el,ea];exact c1),e,if_neg c2]
   ·unfold zi4
    dsimp only;rw[if_neg c1,if_neg c2,Nat.add_assoc]
inductive Es(T row:List Nat)(b f v0 p:Nat):Prop
 |ok (p1:Nat) (t:List Nat) (h0:p<p1) (h1:zez row p=.ok (p1,t)) (h2:ze0 T (b+p) true=.ok (b+p1,t)) (h3:∀c∈t,c≠f∧c≠v0)
 |bad (q:Nat) (w:List Nat) (hw:w=zjN∨w=zjI) (h1:zez row p=.error (zcD row q w)) (h2:ze0 T (b+p) true=.error (zcD T (b+q) w))
 |uns (hn:∀d,T[b+(p+1)]?=some d->d≠32∧d≠9∧d≠10∧d≠92) (h1:zez row p=.error (zcD row (p+2) zbd)) (h2:ze0 T (b+p) true=.error (zcD T (b+(p+2)) zbd))
 |fold (d:Nat) (hd:T[b+(p+1)]?=some d) (hj:d=32∨d=9∨d=10) (h1:zez row p=.error (zcD row (p+2) zbd)) (h2:ze0 T (b+p) true=zmB T (b+p))
theorem zvW{d:Nat}(h:¬(34≤d∧d<127)):zji [92,d]=none:=by
 cases e:zji [92,d]with
 |none=>rfl
 |some v=>exact absurd ((zhL e).2.2 d rfl) h
theorem ztW{x v:List Nat}(h:zji x=some v):∀c∈v,c<128:=by
 have:∀p∈zcY,∀c∈p.2,c<128:=by decide
 exact this _ (zhc h)
theorem zAz(F:Fv T f v0)(h:znA T row b f m){p:Nat}(hp:m≤p)(h0:T[b+p]?=some 92):Es T row b f v0 p:=by
 have g0:=F.g0;have g1:=F.g1;have r0:row[p]?=some 92:=by rw[h p hp,h0];exact ya some (zeB (by decide))
 have r1:=h (p+1) (xc hp);have noT:ze0 T (b+p) true=zez T (b+p)∨∃d,T[b+(p+1)]?=some d∧(d=32∨d=9∨d=10):=by
  by_cases z:Mine.Internal.cut T (b+p) (b+p+2)=[92,32]∨Mine.Internal.cut T (b+p) (b+p+2)=[92,9]∨Mine.Internal.cut T (b+p) (b+p+2)=[92,10]
  ·refine .inr ?_
   rcases z with z|z|z
   ·exact⟨32,(zhV z).2,.inl rfl⟩
   ·exact⟨9,(zhV z).2,.inr (.inl rfl)⟩
   ·exact⟨10,(zhV z).2,.inr (.inr rfl)⟩
  ·exact .inl (if_neg λy=>z y.2)
 cases hd:T[b+(p+1)]? with
 |none=>
  rw[hd]at r1;have e1:Mine.Internal.cut row p (p+2)=[92]:=by rw[zeA r0 (by omega),show p+2=p+1+1 from rfl,znM r1]
  have e2:Mine.Internal.cut T (b+p) (b+p+2)=[92]:=by rw[zeA h0 (by omega),show b+p+2=b+p+1+1 from rfl,znM (show T[b+p+1]?=none from hd)]
  have en:zji [92]=none:=by
   cases e:zji [92]with
   |none=>rfl
   |some v=>exact absurd (zhL e).1 (by decide)
  refine .uns (λd hd'=>zad (hd.symm.trans hd')) ?_ ?_
  ·unfold zez;rw[e1,if_neg (by decide),if_neg (by decide),en]
  ·rcases noT with z|⟨d,z,_⟩
   ·rw[z];unfold zez;rw[e2,if_neg (by decide),if_neg (by decide),en];rfl
   ·exact zad (hd.symm.trans z)
 |some d=>
  rw[hd]at r1;have r1:row[p+1]?=some (rp 10 f d):=r1;have e1:Mine.Internal.cut row p (p+2)=[92,rp 10 f d]:=by rw[zeA r0 (by omega),show p+2=p+1+1 from rfl,ziX r1]
  have e2:Mine.Internal.cut T (b+p) (b+p+2)=[92,d]:=by rw[zeA h0 (by omega),show b+p+2=b+p+1+1 from rfl,ziX (show T[b+p+1]?=some d from hd)]
  by_cases hj:d=32∨d=9∨d=10
  ·have hr:¬(34≤rp 10 f d∧rp 10 f d<127):=by
    by_cases z:d=10
    ·rw[z,zg7];omega
    ·rw[zeB z];omega
   refine .fold d hd hj ?_ ?_
   ·have n1:([92,rp 10 f d]:List Nat)≠[92,117]:=λz=>hr (by rw[(List.cons.inj (List.cons.inj z).2).1];decide)
    have n2:([92,rp 10 f d]:List Nat)≠[92,85]:=λz=>hr (by rw[(List.cons.inj (List.cons.inj z).2).1];decide);unfold zez;rw[e1,if_neg n1,if_neg n2,zvW hr]
   ·refine if_pos ⟨rfl,?_⟩
    rw[e2];rcases hj with rfl|rfl|rfl
    ·exact .inl rfl
    ·exact .inr (.inl rfl)
    ·exact .inr (.inr rfl)
  ·have hz:d≠10:=λz=>hj (.inr (.inr z))
   rw[zeB hz]at e1;have eT:ze0 T (b+p) true=zez T (b+p):=noT.elim id λ⟨d',z,y⟩=>by
    obtain rfl:=yi (hd.symm.trans z);exact absurd y hj
   have hx:∀k,k=4∨k=8->zez row p=zi4 row (p+2) k->zez T (b+p)=zi4 T (b+p+2) k->Es T row b f v0 p:=λk hk y1 y2=>by
    cases zAX F h (a:=p+2) (Nat.le_add_right_of_le hp) hk with
    |ok n z1 z2 z3=>
     refine .ok (p+2+k) [n] (by omega) (y1.trans z1) (eT.trans (y2.trans z2)) λc hc=>?_;rw[List.mem_singleton.mp hc];exact z3
    |bad q w hw z1 z2=>exact .bad q w hw (y1.trans z1) (eT.trans (y2.trans z2))
   by_cases c1:([92,d]:List Nat)=[92,117]
   ·refine hx 4 (.inl rfl) ?_ ?_
    ·unfold zez;rw[e1,if_pos c1]
    ·unfold zez;rw[e2,if_pos c1]
   ·by_cases c2:([92,d]:List Nat)=[92,85]
    ·refine hx 8 (.inr rfl) ?_ ?_
     ·unfold zez;rw[e1,if_neg c1,if_pos c2]
     ·unfold zez;rw[e2,if_neg c1,if_pos c2]
    ·cases e:zji [92,d]with
     |some v=>
      refine .ok (p+2) v (by omega) ?_ ?_ λc hc=>?_
      ·unfold zez;rw[e1,if_neg c1,if_neg c2,e]
      ·rw[eT];unfold zez;rw[e2,if_neg c1,if_neg c2,e];rfl
      ·have:=ztW e c hc;omega
     |none=>
      refine .uns (λd' hd'=>?_) ?_ ?_
      ·obtain rfl:=yi (hd.symm.trans hd')
       refine⟨λz=>hj (.inl z),λz=>hj (.inr (.inl z)),hz,λz=>?_⟩;rw[z]at e;exact absurd e (by decide)
      ·unfold zez;rw[e1,if_neg c1,if_neg c2,e]
      ·rw[eT];unfold zez;rw[e2,if_neg c1,if_neg c2,e];rfl
end
section
variable{T row:List Nat}{b f v0 m:Nat}
inductive Evt(T row:List Nat)(b f v0 p:Nat):Prop
 |eof (h:T[b+p]?=none)
 |mark (h:T[b+p]?=some 34)
 |bad (c:Nat) (h:T[b+p]?=some c) (hc:[c]∈zuk)
 |esc (h:T[b+p]?=some 92) (q:Nat) (w:List Nat) (hw:w=zjN∨w=zjI) (h1:zez row p=.error (zcD row q w)) (h2:ze0 T (b+p) true=.error (zcD T (b+q) w))
 |uns (h:T[b+p]?=some 92) (hn:∀d,T[b+(p+1)]?=some d->d≠32∧d≠9∧d≠10∧d≠92) (h1:zez row p=.error (zcD row (p+2) zbd)) (h2:ze0 T (b+p) true=.error (zcD T (b+(p+2)) zbd))
 |fold (h:T[b+p]?=some 92) (d:Nat) (hd:T[b+(p+1)]?=some d) (hj:d=32∨d=9∨d=10) (h1:zez row p=.error (zcD row (p+2) zbd)) (h2:ze0 T (b+p) true=zmB T (b+p))
theorem ziy(h:znA T row b f m){p c:Nat}(hp:m≤p)(hc:T[b+p]?=some c):row[p]?=some (rp 10 f c):=by rw[h p hp,hc];rfl
theorem zor(h:znA T row b f m){p:Nat}(hp:m≤p)(hc:T[b+p]?=none):row[p]?=none:=by rw[h p hp,hc];rfl
theorem zvu(F:Fv T f v0)(h:znA T row b f m):∀(n p:Nat),m≤p->T.length≤b+p+n->∃p' v,Rd row p p' v∧(∀acc,zaS T true acc (b+p)=zaS T true (acc++bk f v0 v) (b+p'))∧Evt T row b f v0 p'
 |0,p,hp,hn=>⟨p,[],.stop,λacc=>by rw[show bk f v0 []=[]from rfl,List.append_nil],.eof (List.getElem?_eq_none_iff.mpr hn)⟩
 |n+1,p,hp,hn=>by
  have here:Evt T row b f v0 p->∃p' v,Rd row p p' v∧(∀acc,zaS T true acc (b+p)=zaS T true (acc++bk f v0 v) (b+p'))∧Evt T row b f v0 p':=λE=>⟨p,[],.stop,λacc=>by rw[show bk f v0 []=[]from rfl,List.append_nil],E⟩;cases hc:T[b+p]? with
  |none=>exact here (.eof hc)
  |some c=>
   have hcT:=yw hc;by_cases e1:c=34
   ·exact here (.mark (e1▸hc))
   ·by_cases e2:c=92
    ·subst e2
     cases zAz F h hp hc with
     |ok p1 t h0 h1 h2 h3=>
      obtain⟨p',v,i1,i2,i3⟩:=zvu F h n p1 (yj hp (yc h0)) (by omega);refine⟨p',t++v,.esc (ziy h hp hc) h1 i1,λacc=>?_,i3⟩;rw[zaC hc];unfold zbU;rw[if_neg (by decide),if_pos rfl,h2];show zaS T true (acc++t) (b+p1)=_;rw[i2,zjx,zq2 h3,List.append_assoc]
     |bad q w hw h1 h2=>exact here (.esc hc q w hw h1 h2)
     |uns hn h1 h2=>exact here (.uns hc hn h1 h2)
     |fold d hd hj h1 h2=>exact here (.fold hc d hd hj h1 h2)
    ·by_cases e3:[c]∈zuk
     ·exact here (.bad c hc e3)
     ·obtain⟨p',v,i1,i2,i3⟩:=zvu F h n (p+1) (xc hp) (by omega)
      have g0:=F.g0;have hr:=ziy h hp hc;have nf:c≠f:=λz=>F.n0 (z▸hcT);have nv:c≠v0:=λz=>F.n1 (z▸hcT);have nq:∀d,d<19968->c≠d->rp 10 f c≠d:=λd hd hcd=>by
       by_cases z:c=10
       ·rw[z,zg7];omega
       ·rw[zeB z];exact hcd
      refine⟨p',rp 10 f c::v,.sign hr (nq 34 (by decide) e1) (nq 92 (by decide) e2) (λz=>?_) i1,λacc=>?_,i3⟩
      ·by_cases y:c=10
       ·rw[y,zg7]at z;exact zrr (ml:=false) g0 z
       ·rw[zeB y]at z
        exact e3 (zfr.mpr ⟨(zhQ.mp z).1,(zhQ.mp z).2,y⟩)
      ·rw[zaC hc]
       unfold zbU;rw[if_neg e1,if_neg e2,if_neg (show ¬[c]∈znp true from e3),show b+p+1=b+(p+1)from rfl,i2,show rp 10 f c::v=[rp 10 f c]++v from rfl,zjx,zxy nf nv F.ne,List.append_assoc]
theorem zng(h:znA T row b f m){cs cs':List (List Nat)}(hcs:∀c∈T,[rp 10 f c]∈cs ↔ [c]∈cs'):∀(n j:Nat),m≤j->T.length≤b+j+n->zaE T cs' (b+j)=b+zaE row cs j
 |0,j,hj,hn=>by
  have hT:T[b+j]?=none:=List.getElem?_eq_none_iff.mpr hn;rw[zdw hT,zdw (zor h hj hT)]
 |n+1,j,hj,hn=>by
  cases hc:T[b+j]? with
  |none=>rw[zdw hc,zdw (zor h hj hc)]
  |some c=>
   have hr:=ziy h hj hc;by_cases z:[c]∈cs'
   ·rw[zdT hc z,zdT hr ((hcs c (List.mem_of_getElem? hc)).mpr z)]
    exact zng h hcs n (j+1) (xc hj) (by omega)
   ·rw[zeb hc z,zeb hr λy=>z ((hcs c (List.mem_of_getElem? hc)).mp y)]
noncomputable def zvL(f:Nat):List (List Nat):=[[32],[9],[f]]
theorem zwB(F:Fv T f v0):∀c∈T,[rp 10 f c]∈wsL ↔ [c]∈wsL:=λc _=>by
 have g0:=F.g0;by_cases z:c=10
 ·rw[z,zg7]
  refine⟨λy=>?_,λy=>absurd y (by decide)⟩;rcases yx.mp y with y|y
  ·have:=zjq.mp y;omega
  ·have:=zjq.mp (yY.mp y);omega
 ·rw[zeB z]
theorem zxF(F:Fv T f v0):∀c∈T,[rp 10 f c]∈zvL f ↔ [c]∈zvk:=λc hc=>by
 have nf:c≠f:=λz=>F.n0 (z▸hc);by_cases z:c=10
 ·rw[z,zg7]
  exact⟨λ_=>by decide,λ_=>ym _ (ym _ yp)⟩
 ·rw[zeB z]
  show[c]∈[[32],[9],[f]] ↔ [c]∈[[32],[9],[10]];rw[zAs,zAs,zjq,zjq,zjq,zjq];exact⟨λy=>y.imp id λy=>y.imp id λy=>absurd y nf,λy=>y.imp id λy=>y.imp id λy=>absurd y z⟩
theorem zj7(s:List Nat)(cs:List (List Nat))(p:Nat):p≤zaE s cs p:=by unfold zaE;exact yN ..
theorem zmG(s:List Nat)(cs:List (List Nat)){p:Nat}(h:p≤s.length):zaE s cs p≤s.length:=by
 unfold zaE;have:=(List.takeWhile_prefix (l:=s.drop p) λc=>decide ([c]∈cs)).length_le;rw[List.length_drop]at this;omega
inductive zr7(T:List Nat)(b f v0:Nat)(row:List Nat)(p:Nat)(done:List Nat)(m:Nat)(w:List Nat):Prop
 |mk (len:row.length=T.length-(b+1)+1) (h34:row[p]?=some 34) (pm:p<m) (ml:m≤row.length) (same:znA T row b f m) (chr:∀c∈row,c<1114112∧c≠10) (rd:Rd row (p+1) m w)
  (go:zcm T true (b+1)=zaS T true (bk f v0 (done++w)) (b+m)) (dl:done.length≤p)
inductive Uns(T:List Nat)(b f v0:Nat)(row:List Nat)(p:Nat)(done:List Nat)(m q:Nat):Prop
 |plain (hn:∀d,row[q+1]?=some d->d≠32∧d≠9∧d≠f) (h:zhI T (b+1)=.error (zcD T (b+(q+2)) zbd))
 |eof (h0:q+1<zaE row wsL (q+1)) (h1:zaE row wsL (q+1)=row.length) (h:zhI T (b+1)=.error (zcD T T.length zes))
 |sign (c:Nat) (h0:q+1<zaE row wsL (q+1)) (h1:row[zaE row wsL (q+1)]?=some c) (hc:c≠f) (h:zhI T (b+1)=.error (zcD T (b+zaE row wsL (q+1)) zbd))
 |fold (g:Nat) (w:List Nat) (h1:row[zaE row wsL (q+1)]?=some f) (hg:g=zaE row (zvL f) (zaE row wsL (q+1))) (hg1:q<g) (hg2:g≤row.length) (h:zr7 T b f v0 (row.take q++List.replicate (g-q) v0++row.drop g) p done g w) (hm:m<g)
inductive zzy(T:List Nat)(b f v0:Nat)(row:List Nat)(p:Nat)(done:List Nat)(m:Nat):Prop
 |err (k:Nat) (w:List Nat) (hw:40∉w) (hw2:w≠zbd) (hl:w.length≤60) (hc:Chr w) (h1:zcm row false (p+1)=.error (zcD row k w)) (h2:zhI T (b+1)=.error (zcD T (b+k) w))
 |uns (q:Nat) (hq:p<q) (h0:row[q]?=some 92) (hn:row[q+1]?≠some 92) (h1:zcm row false (p+1)=.error (zcD row (q+2) zbd)) (h2:Uns T b f v0 row p done m q)
 |stop (e:Nat) (x:List Nat) (h1:zcm row false (p+1)=.ok (e+1,x)) (hx:x.length≤row.length) (h2:zpl row true 34 e) (h3:zhI T (b+1)=zgm T 34 (b+e+3) (bk f v0 (done++x))) (h4:∀i,row[e+3+i]?=some 34↔T[b+e+3+i]?=some 34)
 |on (e:Nat) (x:List Nat) (h1:zcm row false (p+1)=.ok (e+1,x)) (hx:x.length≤row.length) (h2:¬zpl row true 34 e) (he:e<row.length) (h3:zr7 T b f v0 row e (done++x++[34]) (e+1) []) (hm:m<e+1)
end
section
variable{T row done:List Nat}{b f v0 m p:Nat}{w:List Nat}
theorem zrb(F:Fv T f v0)(hT:Chr T):zr7 T b f v0 (34::(T.drop (b+1)).map (rp 10 f)) 0 [] 1 []:=by
 refine⟨by rw[List.length_cons,List.length_map,List.length_drop],rfl,by decide,by rw[List.length_cons];exact xb ..,λj hj=>?_,λc hc=>?_,.stop,rfl,yq _⟩
 ·obtain⟨i,rfl⟩:=Nat.le.dest hj
  rw[Nat.add_comm 1 i,List.getElem?_cons_succ,List.getElem?_map,List.getElem?_drop,Nat.add_assoc,Nat.add_comm 1 i]
 ·rcases yx.mp hc with rfl|hc
  ·decide
  ·obtain⟨d,hd,rfl⟩:=List.mem_map.mp hc
   have g0:=F.g0;have c0:=F.c0;by_cases z:d=10
   ·rw[z,zg7];omega
   ·rw[zeB z];exact⟨hT d (List.mem_of_mem_drop hd),z⟩
theorem zu4(h:znA T row b f m){q c:Nat}(hq:m≤q)(hr:row[q]?=some c):∃d,T[b+q]?=some d∧c=rp 10 f d:=by
 rw[h q hq]at hr;obtain⟨d,h1,h2⟩:=Option.map_eq_some_iff.mp hr;exact⟨d,h1,h2.symm⟩
theorem zgZ(h:znA T row b f m)(F:Fv T f v0){q c:Nat}(hq:m≤q)(hc:c<19968)(hc2:c≠10):row[q]?=some c↔T[b+q]?=some c:=by
 have g0:=F.g0
 constructor
 ·intro hr
  obtain⟨d,h1,h2⟩:=zu4 h hq hr;by_cases z:d=10
  ·rw[z,zg7]at h2;omega
  ·rw[zeB z]at h2;rw[h1,h2]
 ·intro hT
  rw[h q hq,hT];exact ya some (zeB hc2)
theorem zg4{e:List Nat}{q:Nat}(h:zcm T true q=.error e):zhI T q=.error e:=by unfold zhI;rw[h]
theorem zx6{p' q:Nat}{t:List Nat}(h:zcm T true q=.ok (p',t)):zhI T q=zgm T 34 p' t:=by unfold zhI;rw[h]
theorem zpR{acc e:List Nat}{q:Nat}(h0:T[q]?=some 92)(h:ze0 T q true=.error e):zaS T true acc q=.error e:=by
 rw[zaC h0];unfold zbU;rw[if_neg (by decide),if_pos rfl,h];rfl
theorem zmY{acc e:List Nat}{q:Nat}(h0:row[q]?=some 92)(h:zez row q=.error e):zaS row false acc q=.error e:=by
 rw[zaC h0];unfold zbU;have h2:ze0 row q false=.error e:=(if_neg λz=>Bool.noConfusion z.1).trans h;rw[if_neg (by decide),if_pos rfl,h2];rfl
theorem zt3{q g:Nat}(h1:q≤g)(h2:g≤row.length)(i:Nat):(row.take q++List.replicate (g-q) v0++row.drop g)[i]?=if i<q then row[i]? else if i<g then some v0 else row[i]?:=by
 have l1:(row.take q).length=q:=List.length_take_of_le (yj h1 h2);have l2:(row.take q++List.replicate (g-q) v0).length=g:=by rw[List.length_append,l1,List.length_replicate];exact Nat.add_sub_cancel' h1
 by_cases z1:i<q
 ·rw[if_pos z1,List.getElem?_append_left (by rw[l2];exact Nat.lt_of_lt_of_le z1 h1),List.getElem?_append_left (by rw[l1];exact z1),List.getElem?_take,if_pos z1]
 ·rw[if_neg z1]
  by_cases z2:i<g
  ·rw[if_pos z2,List.getElem?_append_left (by rw[l2];exact z2),List.getElem?_append_right (by rw[l1];exact Nat.le_of_not_lt z1),List.getElem?_replicate,if_pos (by rw[l1];exact Nat.sub_lt_sub_right (Nat.le_of_not_lt z1) z2)]
  ·rw[if_neg z2,List.getElem?_append_right (by rw[l2];exact Nat.le_of_not_lt z2),l2,List.getElem?_drop,Nat.add_sub_cancel' (Nat.le_of_not_lt z2)]
theorem ztx{q g:Nat}(h1:q≤g)(h2:g≤row.length):(row.take q++List.replicate (g-q) v0++row.drop g).length=row.length:=by
 rw[List.length_append,List.length_append,List.length_take_of_le (Nat.le_trans h1 h2),List.length_replicate,List.length_drop,Nat.add_sub_cancel' h1,Nat.add_sub_cancel' h2]
theorem zzF(F:Fv T f v0)(I:zr7 T b f v0 row p done m w){q g:Nat}{v:List Nat}(hm:m≤q)(hg:q<g)(hgl:g≤row.length)(rd:Rd row m q v)(hgo:∀acc,zaS T true acc (b+m)=zaS T true (acc++bk f v0 v) (b+q))
  (h0:T[b+q]?=some 92)(he:ze0 T (b+q) true=.ok (b+g,[])):zr7 T b f v0 (row.take q++List.replicate (g-q) v0++row.drop g) p done g (w++v++List.replicate (g-q) v0):=by
 obtain⟨len,h34,pm,ml,same,chr,rd0,go,dl⟩:=I;have G:=zt3 (v0:=v0) (yc hg) hgl;have L:=ztx (v0:=v0) (yc hg) hgl;have hpq:=yy pm hm;have hqg:=Nat.add_sub_cancel' (yc hg);refine⟨L.trans len,?_,Nat.lt_trans hpq hg,L.symm▸hgl,λj hj=>?_,λc hc=>?_,?_,?_,dl⟩
 ·rw[G,if_pos hpq];exact h34
 ·have hqj:=yj (yc hg) hj
  rw[G,if_neg (Nat.not_lt.mpr hqj),if_neg (Nat.not_lt.mpr hj)];exact same j (yj hm hqj)
 ·rcases List.mem_append.mp hc with hc|hc
  ·rcases List.mem_append.mp hc with hc|hc
   ·exact chr c (List.mem_of_mem_take hc)
   ·rw[(List.mem_replicate.mp hc).2]
    exact⟨F.c1,Nat.ne_of_gt (yy (by decide) F.g1)⟩
  ·exact chr c (List.mem_of_mem_drop hc)
 ·refine((rd0.app rd).same λi i1 i2=>by rw[G,if_pos i2]).app ?_
  have R:=Rd.void (s:=row.take q++List.replicate (g-q) v0++row.drop g) F.g1 (g-q) q λi i1 i2=>by rw[G,if_neg (Nat.not_lt.mpr i1),if_pos (Nat.lt_of_lt_of_eq i2 hqg)]
  rwa[hqg]at R
 ·rw[go,hgo,zaC h0]
  unfold zbU;rw[if_neg (by decide),if_pos rfl,he];show zaS T true (_++[]) (b+g)=_;rw[List.append_nil,←List.append_assoc,zjx f v0 _ (List.replicate (g-q) v0),zw3,List.append_nil,←zjx,List.append_assoc]
end
section
variable{T row done:List Nat}{b f v0 m p:Nat}{w:List Nat}
theorem zs7{k:Nat}{e:List Nat}(h:T.length≤k):zcD T k e=zcD T T.length e:=by
 unfold zcD zbZ;rw[if_pos h,if_pos (Nat.le_refl _)]
theorem zsJ{e:List Nat}(h:e=zjN∨e=zjI):40∉e∧e≠zbd∧e.length≤60∧Chr e:=by
 rcases h with rfl|rfl
 ·exact⟨zdy rfl,by decide,by decide,.of (by decide)⟩
 ·exact⟨zdy rfl,by decide,by decide,.of (by decide)⟩
theorem zoL{c:Nat}(h:[c]∈zuk):40∉zkO++zfz [c]∧zkO++zfz [c]≠zbd∧(zkO++zfz [c]).length≤60∧Chr (zkO++zfz [c]):=by
 have:∀c∈zg0,((zfz [c]).all λd=>d != 40)=true∧(zfz [c]).length≤10:=by right
 have hc:=(zfr.mp h).1;have h3:=this c hc;refine⟨zim (zdy rfl) (zdy h3.1),λz=>absurd (yi (show some 73=some 85 from ya List.head? z)) (by decide),?_,(Chr.of (by decide)).app (zqU hc)⟩;exact zb6 (a:=18) (by decide) h3.2 (by decide)
theorem zpU(F:Fv T f v0)(I:zr7 T b f v0 row p done m w){q:Nat}{v:List Nat}(rd:Rd row m q v)(hgo:∀acc,zaS T true acc (b+m)=zaS T true (acc++bk f v0 v) (b+q))
  (h0:T[b+q]?=some 92){d:Nat}(hd:T[b+(q+1)]?=some d)(hj:d=32∨d=9∨d=10)(h2:ze0 T (b+q) true=zmB T (b+q)):Uns T b f v0 row p done m q:=by
 have I':=I;obtain⟨len,h34,pm,ml,same,chr,rd0,go,dl⟩:=I';have hmq:=rd.le;have g0:=F.g0;have hq1:m≤q+1:=xc hmq;have hr1:=ziy same hq1 hd;have hql:q+1≤row.length:=yc (zaK hr1);have sk:zaE T wsL (b+(q+1))=b+zaE row wsL (q+1):=zng same (zwB F) T.length (q+1) hq1 (by omega);have hge:=zj7 row wsL (q+1);have hgl:=zmG row wsL hql;have sk2:zaE T zvk (b+zaE row wsL (q+1))=b+zaE row (zvL f) (zaE row wsL (q+1)):=zng same (zxF F) T.length _ (by omega) (by omega);have hge2:=zj7 row (zvL f) (zaE row wsL (q+1));have hgl2:=zmG row (zvL f) hgl;have hT:zcm T true (b+1)=zaS T true (bk f v0 (done++w)++bk f v0 v) (b+q):=by rw[go,hgo]
 have fold:row[zaE row wsL (q+1)]?=some f->zmB T (b+q)=.ok (b+zaE row (zvL f) (zaE row wsL (q+1)),[])->Uns T b f v0 row p done m q:=λhf he=>
  .fold _ _ hf rfl (by omega) hgl2 (zzF F I hmq (by omega) hgl2 rd hgo h0 (h2.trans he)) (by omega)
 have e2:cut T (b+q) (b+q+2)=[92,d]:=by rw[zeA h0 (by omega),show b+q+2=b+q+1+1 from rfl,ziX (show T[b+q+1]?=some d from hd)]
 by_cases z:d=10
 ·subst z
  have eg:zaE row wsL (q+1)=q+1:=zeb hr1 λy=>by
   have:=(zwB F 10 (yw hd)).mp y;exact absurd this (by decide)
  refine fold (by rw[eg,hr1,zg7]) ?_;unfold zmB;rw[if_pos e2,←sk2,eg];have:zaE T zvk (b+(q+1))=zaE T zvk (b+(q+1)+1):=zdT hd (by decide);rw[this];rfl
 ·have hw:[d]∈wsL:=by
   rcases hj with rfl|rfl|rfl
   ·decide
   ·decide
   ·exact absurd rfl z
  have sk1:zaE T wsL (b+q+2)=b+zaE row wsL (q+1):=by
   rw[←sk];exact(zdT (p:=b+(q+1)) hd hw).symm
  have hgt:q+1<zaE row wsL (q+1):=by
   have hw':[rp 10 f d]∈wsL:=(zwB F d (yw hd)).mpr hw;rw[zdT hr1 hw'];exact zj7 row wsL (q+1+1)
  have eW:zmB T (b+q)=(match T[b+zaE row wsL (q+1)]? with
   |none=>.ok (b+zaE row wsL (q+1),[])
   |some c=>if c=10 then .ok (zaE T zvk (b+zaE row wsL (q+1)+1),[])else .error (zcD T (b+zaE row wsL (q+1)) zbd)):=by
   unfold zmB;rw[if_neg (by rw[e2];exact λy=>z (List.cons.inj (List.cons.inj y).2).1),sk1]
   all_goals rfl
  cases hc:T[b+(zaE row wsL (q+1))]? with
  |none=>
   rw[hc]at eW;have eW:zmB T (b+q)=.ok (b+(zaE row wsL (q+1)),[]):=eW;have hl:T.length≤b+(zaE row wsL (q+1)):=List.getElem?_eq_none_iff.mp hc;have hrl:row.length≤(zaE row wsL (q+1)):=List.getElem?_eq_none_iff.mp (zor same (by omega) hc);refine .eof hgt (Nat.le_antisymm hgl hrl) (zg4 ?_);rw[hT,zaC h0];unfold zbU;rw[if_neg (by decide),if_pos rfl,h2,eW];show zaS T true _ (b+(zaE row wsL (q+1)))=_;rw[zbK hc,zs7 hl]
  |some c=>
   rw[hc]at eW;by_cases y:c=10
   ·subst y
    have eW:zmB T (b+q)=.ok (zaE T zvk (b+(zaE row wsL (q+1))+1),[]):=eW.trans (if_pos rfl);refine fold (by rw[ziy same (by omega) hc,zg7]) ?_;rw[eW,←sk2,zdT hc (by decide)]
   ·have eW:zmB T (b+q)=.error (zcD T (b+(zaE row wsL (q+1))) zbd):=eW.trans (if_neg y)
    have hr:=ziy same (show m≤(zaE row wsL (q+1)) by omega) hc;rw[zeB y]at hr;refine .sign c hgt hr (λe=>F.n0 (e▸yw hc)) (zg4 ?_);rw[hT];exact zpR h0 (h2.trans eW)
theorem zzp(F:Fv T f v0)(I:zr7 T b f v0 row p done m w):zzy T b f v0 row p done m:=by
 have I':=I;obtain⟨len,h34,pm,ml,same,chr,rd0,go,dl⟩:=I';obtain⟨q,v,rd,hgo,E⟩:=zvu F same T.length m (yq _) (by omega);have hmq:=rd.le;have R:=rd0.app rd;have hread:zcm row false (p+1)=zaS row false (w++v) q:=R.go [];have hT:zcm T true (b+1)=zaS T true (bk f v0 (done++(w++v))) (b+q):=by rw[go,hgo,←zjx,List.append_assoc]
 have hRl:=R.len;have nb:∀{d:Nat},(∀d,T[b+(q+1)]?=some d->d≠92)->row[q+1]?≠some 92:=λhn z=>hn 92 ((zgZ same F (by omega) (by decide) (by decide)).mp z) rfl;cases E with
 |eof h=>
  refine .err q zes (zdy rfl) (by decide) (by decide) (.of (by decide)) ?_ (zg4 ?_)
  ·rw[hread,zbK (zor same hmq h)]
  ·rw[hT,zbK h]
 |mark h=>
  have hr:row[q]?=some 34:=(zgZ same F hmq (by decide) (by decide)).mpr h;have hql:=zaK hr;have h1:zcm row false (p+1)=.ok (q+1,w++v):=by
   rw[hread,zaC hr];unfold zbU;rw[if_pos rfl,if_pos rfl]
  have iff34:∀i,m≤i->(row[i]?=some 34↔T[b+i]?=some 34):=λi hi=>zgZ same F hi (by decide) (by decide);by_cases hS:zpl row true 34 q
  ·refine .stop q (w++v) h1 (by omega) hS ?_ λi=>by rw[iff34 (q+3+i) (by omega)];rw[show b+(q+3+i)=b+q+3+i by omega]
   refine zx6 ?_;have hS2:=hS.2 rfl;have ec:cut T (b+q) (b+q+3)=[34,34,34]:=zfj.mpr ⟨h,(iff34 (q+1) (by omega)).mp hS2.1,(iff34 (q+2) (by omega)).mp hS2.2⟩;rw[hT,zaC h];unfold zbU;rw[if_pos rfl,if_neg (λz=>Bool.noConfusion z),if_pos ec]
  ·refine .on q (w++v) h1 (by omega) hS hql ⟨len,hr,yO q,hql,same.up (by omega),chr,.stop,?_,?_⟩ (by omega)
   ·have ec:¬cut T (b+q) (b+q+3)=[34,34,34]:=λz=>hS ⟨hr,λ_=>⟨(iff34 (q+1) (by omega)).mpr (zfj.mp z).2.1,(iff34 (q+2) (by omega)).mpr (zfj.mp z).2.2⟩⟩
    have g0:=F.g0;have g1:=F.g1;rw[hT,zaC h];unfold zbU;rw[if_pos rfl,if_neg (λz=>Bool.noConfusion z),if_neg ec,List.append_nil,zjx f v0 _ [34],zq2 (x:=[34]) λc hc=>by rw[List.mem_singleton.mp hc];omega];rfl
   ·rw[List.length_append,List.length_append,List.length_singleton];omega
 |bad c h hc=>
  have h10:=(zfr.mp hc).2.2;have hr:row[q]?=some c:=by rw[ziy same hmq h,zeB h10]
  have hB:[c]∈znp false:=zhQ.mpr ⟨(zfr.mp hc).1,(zfr.mp hc).2.1⟩;have h3:=zoq (ml:=true) hc;have W:=zoL hc;refine .err q (zkO++zfz [c]) W.1 W.2.1 W.2.2.1 W.2.2.2 ?_ (zg4 ?_)
  ·rw[hread,zaC hr]
   unfold zbU;rw[if_neg h3.1,if_neg h3.2.2.1,if_pos hB]
  ·rw[hT,zaC h]
   unfold zbU;rw[if_neg h3.1,if_neg h3.2.2.1,if_pos (show[c]∈znp true from hc)]
 |esc h k e hw h1 h2=>
  have hr:row[q]?=some 92:=(zgZ same F hmq (by decide) (by decide)).mpr h;have W:=zsJ hw;refine .err k e W.1 W.2.1 W.2.2.1 W.2.2.2 ?_ (zg4 ?_)
  ·rw[hread];exact zmY hr h1
  ·rw[hT];exact zpR h h2
 |uns h hn h1 h2=>
  have hr:row[q]?=some 92:=(zgZ same F hmq (by decide) (by decide)).mpr h;refine .uns q (by omega) hr (nb (d:=0) λd hd=>(hn d hd).2.2.2) (by rw[hread];exact zmY hr h1) (.plain (λd hd=>?_) (zg4 (by rw[hT];exact zpR h h2)));obtain⟨d',e1,e2⟩:=zu4 same (show m≤q+1 by omega) hd;have:=hn d' e1;rw[zeB this.2.2.1]at e2;exact⟨e2▸this.1,e2▸this.2.1,λz=>F.n0 (by rw[←z,e2];exact yw e1)⟩
 |fold h d hd hj h1 h2=>
  have hr:row[q]?=some 92:=(zgZ same F hmq (by decide) (by decide)).mpr h;refine .uns q (by omega) hr (nb (d:=0) λd' hd'=>?_) (by rw[hread];exact zmY hr h1) (zpU F I rd hgo h hd hj h2);obtain rfl:=yi (hd.symm.trans hd');omega
end
@[reducible]noncomputable def tkD(x:Nat×Nat):D:=.tstr [x.1] x.2
noncomputable def tk1?(d:D):Option (Nat×Nat):=match d.tstr? with
 |some ([c],b)=>some (c,b)
 |_=>none
theorem tk1?_inv{d:D}{x:Nat×Nat}(h:tk1? d=some x):d=tkD x:=by
 unfold tk1? at h;cases e1:d.tstr? with
 |none=>rw[e1]at h;exact zad h
 |some y=>
  obtain⟨y,b⟩:=y;rw[e1]at h;have e1:=D.tstr?_inv e1;rcases y with _|⟨c,_|⟨c',y⟩⟩
  ·exact zad h
  ·obtain rfl:=yi h
   exact e1
  ·exact zad h
noncomputable def cT:Dc (Nat×Nat):=⟨tk1?,tkD,tk1?_inv⟩
noncomputable def zAr{α β γ δ:Type}(A:Dc α)(B:Dc β)(C:Dc γ)(E:Dc δ)(k:α->β->γ->δ->zjj):Fn:=λds dk=>zeQ A ds λx ds=>zeQ B ds λy ds=>zeQ C ds λz ds=>zeQ E ds λu ds=>zr5 ds (zr5 dk (k x y z u))
theorem ztt{α β γ δ:Type}{A:Dc α}{B:Dc β}{C:Dc γ}{E:Dc δ}{ds dk:List D}{Q:D->Prop}{X:Err->Prop}{k:α->β->γ->δ->zjj}(h:zbH (zAr A B C E k ds dk) Q X):∃x y z u,ds=[A.to x,B.to y,C.to z,E.to u]∧dk=[]∧zbH (k x y z u) Q X:=by
 left;refine zfA (zbE h) λx r1 e1 g1=>?_;refine zfA (zbE g1) λy r2 e2 g2=>?_;refine zfA (zbE g2) λz r3 e3 g3=>?_;refine zfA (zbE g3) λu r4 e4 g4=>?_;obtain⟨e5,g5⟩:=zc1 g4;refine zbP (zc1 g5) λe6 g6=>?_;exact⟨x,y,z,u,by rw[e1,e2,e3,e4,e5],e6,g6⟩
noncomputable def zeh(s:List Nat)(p:Nat):List Nat:=zvU++zbZ s p++zvn
noncomputable def ziw:List D->List D->PD:=λds dk Q _=>one cL ds λns=>zxj dk (ns.length≤63∧∀t,Chr t->t.length≤450->Q (.str t))
noncomputable def zcz:Fn:=zxb cS cI λs p=>gO (okB 340000 s p) (some (.ok (.str (zeh s p.toNat))))
open Classical in
noncomputable def zft(n:Nat):Fn:=zAr cS cI cT cT λs q f v=>gO ((okT s&&decide (s.length≤450))&&decide ((1≤q∧q≤600)∧f.2≤n∧v.2≤n∧Fv s f.1 v.1)) (some (.ok (toL (zhI s q.toNat))))
noncomputable def zs3:Fn:=zzc cL λns=>gO (decide (ns.length≤63)) (some (.ok (.bool true)))
noncomputable def zey:Ctr:=⟨110,true,[],ziw⟩
noncomputable def zct:Ctr:=⟨110,false,[],λds dk=>zbH (zcz ds dk)⟩
noncomputable def zgW(n:Nat):Ctr:=⟨120,true,[],λds dk=>zbH (zft n ds dk)⟩
noncomputable def zin:D:=.fn (ofString "_law_text")
noncomputable def zlr:D:=.fn (ofString "_law_where")
noncomputable def zpm:D:=.fn (ofString "_law_due")
noncomputable abbrev p8:Program:=PySem.Challenge.pw_kq0033_06
noncomputable def gl8:List (Str×D):=[(ofString "TOML_WS",zmg),(ofString "TOML_WS_AND_NEWLINE",zc9),(ofString "ILLEGAL_BASIC_STR_CHARS",zcf),(ofString "ILLEGAL_MULTILINE_BASIC_STR_CHARS",zbm),(ofString "HEXDIGIT_CHARS",zeL),(ofString "suffixed_err",zjg),(ofString "skip_chars",zlB),(ofString "is_unicode_scalar_value",zd6),(ofString "parse_hex_char",zhz),(ofString "parse_basic_str_escape",zcu),(ofString "parse_basic_str_escape_multiline",zbq),(ofString "parse_basic_str",zgT),(ofString "parse_one_line_basic_str",zdE),(ofString "parse_multiline_str",ze8)]
noncomputable def zbu:List (Str×Ctr):=(ofString "parse_one_line_basic_str",zbs)::za5
noncomputable def zxY:List (Str×Ctr):=(ofString "parse_multiline_str",zbS)::zbu
noncomputable def zdl:zai:=⟨zh3 p8 25,[ofString "src",ofString "pos",ofString "line",ofString "column"],0,false,false,[]⟩
section
variable{S:St0}(D0:Std S)(NG:NoG S)(G:Gl S gl8)(E0:zaw S)
include D0 NG G E0
theorem zmi:zaV S zdl (zon p8 25) zdJ:=
 (zac (zde (zaI zar (zaa (i:=1) (by rfl)) (zcG D0 (by kernel_rfl) (NG _ (by right)) (by right) (by right) (zaa (i:=0) (by rfl)) zbX) zkH) (zac (zbD (zaJ (by rfl))) zam) zam) (zac (zax (i:=2) (by rfl) (zas (zcP (zaa (i:=0) (by rfl)) (by(refine zak ?_ ?_);(exact(zaJ (by rfl)));(exact(zak zaA (zak (zaa (i:=1) (by rfl)) zav)))) zoI (λh=>GM.count h) (by rfl)) zaA zal)) (zac (zde (zaI zar (zaa (i:=2) (by rfl)) zaA zdV) (zac (zax (i:=3) (by rfl) (zas (zaa (i:=1) (by rfl)) zaA zal)) zam) (zac (zax (i:=3) (by rfl) (zas (zaa (i:=1) (by rfl)) (zcP (zaa (i:=0) (by rfl)) (by(refine zak ?_ ?_);(exact(zaJ (by rfl)));(exact(zak zaA (zak (zaa (i:=1) (by rfl)) zav)))) zix (λh=>GM.rindex h) (by rfl)) zdn)) zam)) (zac (zbD (znw (zeP.cons (zaJ (by rfl)) (zeP.cons (zhX (zaa (i:=2) (by rfl))) (zeP.cons (zaJ (by rfl)) (zeP.cons (zhX (zaa (i:=3) (by rfl))) zeP.nil)))))) zam))))
noncomputable def ze1:zai:=⟨zau p8 25,[ofString "src",ofString "pos",ofString "msg",ofString "coord_repr"],10,false,true,[]⟩
theorem zjf(TB:zaB S (zaz zcg))(hlf:S.lf=zzo p8 25 S)(hB:S.base.BuiltinsAt S.mg S.tab)(CL:zjk S 10 false (λds=>zbH (zcx ds []))):zaV S ze1 (zah p8 25) zd4:=
 (zac (zyZ D0 (i:=3) rfl (by rfl) hlf hB (by right) (by rfl) (by intro;rfl)) (zac (zbD (zww D0 (by kernel_rfl) (znw (zeP.cons (zhX (zaa (i:=2) (by rfl))) (zeP.cons (zaJ (by rfl)) (zeP.cons (zhX (zzY (by decide) (by decide) CL (zaa (i:=3) (by rfl)) (zak (zaa (i:=0) (by rfl)) (zak (zaa (i:=1) (by rfl)) zav)))) (zeP.cons (zaJ (by rfl)) zeP.nil))))))) zam))
noncomputable def zgu:zai:=⟨zau p8 17,[ofString "src",ofString "pos",ofString "chars"],0,true,false,[]⟩
theorem zlK(TB:zaB S (zaz zdK)):zaV S zgu (zah p8 17) ze7:=
 (zac (zjA D0 (zac (zfk (zaI zar (zd2 rfl (zaa (i:=0) (by rfl)) (zaa (i:=1) (by rfl))) (zaa (i:=2) (by rfl)) zkJ) (zac (zcy (i:=1) (by rfl) zaA zaM) zam)) zam) (zlN.cons (HdS.plain (T:=.index) (by kernel_rfl) (λ_=>NG _ (by right)) (zac zxN zam)) zlN.nil)) (zac (zbD (zaa (i:=1) (by rfl))) zam))
noncomputable def zb8:zai:=⟨zau p8 26,[ofString "codepoint"],0,true,false,[]⟩
theorem zd0(TB:zaB S (zaz za8)):zaV S zb8 (zah p8 26) zbC:=
 (zac (zbD (zxw zar (znX zaA (zaa (i:=0) (by rfl)) zaA zkV zkV) (zve (znX zaA (zaa (i:=0) (by rfl)) zaA zkV zkV)))) zam)
noncomputable def zed:zai:=⟨zau p8 22,[ofString "src",ofString "pos",ofString "hex_len",ofString "hex_str",ofString "hex_int"],20,true,false,[]⟩
theorem zhE(TB:zaB S (zaz zcn)):zaV S zed (zah p8 22) zdf:=
 (zac (zax (i:=3) (by rfl) (zcp (zaa (i:=0) (by rfl)) (zaN (zaa (i:=1) (by rfl))) (zaN (zas (zaa (i:=1) (by rfl)) (zaa (i:=2) (by rfl)) zal)))) (zac (zde (zp2 (zaI zar (zcG D0 (by kernel_rfl) (NG _ (by right)) (by right) (by right) (zaa (i:=3) (by rfl)) zbX) (zaa (i:=2) (by rfl)) ziC) (zp2 (zgc (zbh zar (zs0 (zsL D0 G (by kernel_rfl) (by rfl) (by rfl) (by right)) (zak (zaa (i:=3) (by rfl)) zav) zoJ FZ.slot_issuperset FZ.type_issuperset (by rfl)))) zuc)) (zac (zhW D0 (zkI D0 G TB (c:=zbg) (by kernel_rfl) (by kernel_rfl) rfl rfl (by decide) (by decide) (by kernel_rfl) (by right) (by(refine zak ?_ ?_);(exact(zaa (i:=0) (by rfl)));(exact(zak (zaa (i:=1) (by rfl)) (zak (zaJ (by rfl)) zav)))) KwS.nil)) zam) zam) (zac (zcy (i:=1) (by rfl) (zaa (i:=2) (by rfl)) zaM) (zac (zax (i:=4) (by rfl) (zgh D0 (by kernel_rfl) (NG _ (by right)) (by right) (by right) (zak (zaa (i:=3) (by rfl)) (zak zaA zav)) zop)) (zac (zde (zgc (zbh zar (zkI D0 G TB (c:=zbA) (by kernel_rfl) (by kernel_rfl) rfl rfl (by decide) (by decide) (by kernel_rfl) (by right) (zak (zaa (i:=4) (by rfl)) zav) KwS.nil))) (zac (zhW D0 (zkI D0 G TB (c:=zbg) (by kernel_rfl) (by kernel_rfl) rfl rfl (by decide) (by decide) (by kernel_rfl) (by right) (by(refine zak ?_ ?_);(exact(zaa (i:=0) (by rfl)));(exact(zak (zaa (i:=1) (by rfl)) (zak (zaJ (by rfl)) zav)))) KwS.nil)) zam) zam) (zac (zbD (zeK (zak (zaa (i:=1) (by rfl)) (zak (zq5 D0 (by kernel_rfl) (NG _ (by right)) (by right) (by right) (zak (zaa (i:=4) (by rfl)) zav) zkx) zav)))) zam))))))
noncomputable def zaR:zai:=⟨zau p8 20,[ofString "src",ofString "pos",ofString "multiline",ofString "escape_id",ofString "char"],30,true,false,[]⟩
theorem zcv(TB:zaB S (zaz zaU)):zaV S zaR (zah p8 20) zaX:=
 (zac (zax (i:=3) (by rfl) (zcp (zaa (i:=0) (by rfl)) (zaN (zaa (i:=1) (by rfl))) (zaN (zas (zaa (i:=1) (by rfl)) zaA zal)))) (zac (zcy (i:=1) (by rfl) zaA zaM) (zac (zde (zco (zbh zar (zaa (i:=2) (by rfl))) (zco (zoZ rfl (zaa (i:=3) (by rfl)) (zcE.cons (by rfl) (zcE.cons (by rfl) (zcE.cons (by rfl) zcE.nil))) (by decide) (by kernel_rfl) (by kernel_rfl)) zej)) (zac (zde (zaI zar (zaa (i:=3) (by rfl)) (zaJ (by rfl)) ziC) (zac (zax (i:=1) (by rfl) (zkI D0 G TB (c:=zdN) (by kernel_rfl) (by kernel_rfl) rfl rfl (by decide) (by decide) (by kernel_rfl) (by right) (by(refine zak ?_ ?_);(exact(zaa (i:=0) (by rfl)));(exact(zak (zaa (i:=1) (by rfl)) (zak (zsL D0 G (by kernel_rfl) (by rfl) (by rfl) (by right)) zav)))) KwS.nil)) (zac (zjA D0 (zac (zax (i:=4) (by rfl) (zd2 rfl (zaa (i:=0) (by rfl)) (zaa (i:=1) (by rfl)))) zam) (zlN.cons (HdS.plain (T:=.index) (by kernel_rfl) (λ_=>NG _ (by right)) (zac (zbD (zeK (zak (zaa (i:=1) (by rfl)) (zak (zaJ (by rfl)) zav)))) zam)) zlN.nil)) (zac (zde (zaI zar (zaa (i:=4) (by rfl)) (zaJ (by rfl)) ziC) (zac (zhW D0 (zkI D0 G TB (c:=zbg) (by kernel_rfl) (by kernel_rfl) rfl rfl (by decide) (by decide) (by kernel_rfl) (by right) (by(refine zak ?_ ?_);(exact(zaa (i:=0) (by rfl)));(exact(zak (zaa (i:=1) (by rfl)) (zak (zaJ (by rfl)) zav)))) KwS.nil)) zam) zam) (zac (zcy (i:=1) (by rfl) zaA zaM) zam)))) zam) (zac (zax (i:=1) (by rfl) (zkI D0 G TB (c:=zdN) (by kernel_rfl) (by kernel_rfl) rfl rfl (by decide) (by decide) (by kernel_rfl) (by right) (by(refine zak ?_ ?_);(exact(zaa (i:=0) (by rfl)));(exact(zak (zaa (i:=1) (by rfl)) (zak (zsL D0 G (by kernel_rfl) (by rfl) (by rfl) (by right)) zav)))) KwS.nil)) (zac (zbD (zeK (zak (zaa (i:=1) (by rfl)) (zak (zaJ (by rfl)) zav)))) zam))) zam) (zac (zde (zaI zar (zaa (i:=3) (by rfl)) (zaJ (by rfl)) zdV) (zac (zbD (zkI D0 G TB (c:=zcq) (by kernel_rfl) (by kernel_rfl) rfl rfl (by decide) (by decide) (by kernel_rfl) (by right) (by(refine zak ?_ ?_);(exact(zaa (i:=0) (by rfl)));(exact(zak (zaa (i:=1) (by rfl)) (zak zaA zav)))) KwS.nil)) zam) zam) (zac (zde (zaI zar (zaa (i:=3) (by rfl)) (zaJ (by rfl)) zdV) (zac (zbD (zkI D0 G TB (c:=zcq) (by kernel_rfl) (by kernel_rfl) rfl rfl (by decide) (by decide) (by kernel_rfl) (by right) (by(refine zak ?_ ?_);(exact(zaa (i:=0) (by rfl)));(exact(zak (zaa (i:=1) (by rfl)) (zak zaA zav)))) KwS.nil)) zam) zam) (zac (zjA D0 (zac (zbD (zeK (zak (zaa (i:=1) (by rfl)) (zak (zxJ D0 E0 (by kernel_rfl) (zaa (i:=3) (by rfl))) zav)))) zam) (zlN.cons (HdS.plain (T:=.key) (by kernel_rfl) (λ_=>NG _ (by right)) (zac (zgp D0 (zkI D0 G TB (c:=zbg) (by kernel_rfl) (by kernel_rfl) rfl rfl (by decide) (by decide) (by kernel_rfl) (by right) (by(refine zak ?_ ?_);(exact(zaa (i:=0) (by rfl)));(exact(zak (zaa (i:=1) (by rfl)) (zak (zaJ (by rfl)) zav)))) KwS.nil)) zam)) zlN.nil)) zam))))))
noncomputable def zbl:zai:=⟨zau p8 21,[ofString "src",ofString "pos"],40,true,false,[]⟩
theorem zcB(TB:zaB S (zaz zaH)):zaV S zbl (zah p8 21) zbp:=
 (zac (zbD (zkI D0 G TB (c:=zbF) (by kernel_rfl) (by kernel_rfl) rfl rfl (by decide) (by decide) (by kernel_rfl) (by right) (zak (zaa (i:=0) (by rfl)) (zak (zaa (i:=1) (by rfl)) zav)) (KwS.cons ziJ KwS.nil))) zam)
noncomputable def zdR:zai:=⟨zau p8 24,[ofString "src",ofString "pos",ofString "multiline",ofString "error_on",ofString "parse_escapes",ofString "result",ofString "start_pos",ofString "char",ofString "parsed_escape"],50,true,false,[]⟩
theorem zhh(TB:zaB S (zaz zbi)):zaV S zdR (zah p8 24) zb5:=
 (zac (zde (zbh zar (zaa (i:=2) (by rfl))) (zac (zax (i:=3) (by rfl) (zsL D0 G (by kernel_rfl) (by rfl) (by rfl) (by right))) (zac (zax (i:=4) (by rfl) (zsL D0 G (by kernel_rfl) (by rfl) (by rfl) (by right))) zam)) (zac (zax (i:=3) (by rfl) (zsL D0 G (by kernel_rfl) (by rfl) (by rfl) (by right))) (zac (zax (i:=4) (by rfl) (zsL D0 G (by kernel_rfl) (by rfl) (by rfl) (by right))) zam))) (zac (zax (i:=5) (by rfl) (zaJ (by rfl))) (zac (zax (i:=6) (by rfl) (zaa (i:=1) (by rfl))) (zac (zfk zxO (zac (zjA D0 (zac (zax (i:=7) (by rfl) (zd2 rfl (zaa (i:=0) (by rfl)) (zaa (i:=1) (by rfl)))) zam) (zlN.cons (HdS.plain (T:=.index) (by kernel_rfl) (λ_=>NG _ (by right)) (zac (zgp D0 (zkI D0 G TB (c:=zbg) (by kernel_rfl) (by kernel_rfl) rfl rfl (by decide) (by decide) (by kernel_rfl) (by right) (by(refine zak ?_ ?_);(exact(zaa (i:=0) (by rfl)));(exact(zak (zaa (i:=1) (by rfl)) (zak (zaJ (by rfl)) zav)))) KwS.nil)) zam)) zlN.nil)) (zac (zde (zaI zar (zaa (i:=7) (by rfl)) (zaJ (by rfl)) zdV) (zac (zde (zgc (zbh zar (zaa (i:=2) (by rfl)))) (zac (zbD (zeK (zak (zas (zaa (i:=1) (by rfl)) zaA zal) (zak (zas (zaa (i:=5) (by rfl)) (zcp (zaa (i:=0) (by rfl)) (zaN (zaa (i:=6) (by rfl))) (zaN (zaa (i:=1) (by rfl)))) zal) zav)))) zam) zam) (zac (zde (zbh zar (zcP (zaa (i:=0) (by rfl)) (zak (zaJ (by rfl)) (zak (zaa (i:=1) (by rfl)) zav)) zcR (λh=>GM.startswith h) (by rfl))) (zac (zbD (zeK (zak (zas (zaa (i:=1) (by rfl)) zaA zal) (zak (zas (zaa (i:=5) (by rfl)) (zcp (zaa (i:=0) (by rfl)) (zaN (zaa (i:=6) (by rfl))) (zaN (zaa (i:=1) (by rfl)))) zal) zav)))) zam) zam) (zac (zcy (i:=1) (by rfl) zaA zaM) (zac zro zam)))) zam) (zac (zde (zaI zar (zaa (i:=7) (by rfl)) (zaJ (by rfl)) zdV) (zac (zcy (i:=5) (by rfl) (zcp (zaa (i:=0) (by rfl)) (zaN (zaa (i:=6) (by rfl))) (zaN (zaa (i:=1) (by rfl)))) zaM) (zac (zii rfl (zbn.cons (i:=1) (by rfl) (zbn.cons (i:=8) (by rfl) zbn.nil)) (zAw rfl rfl TB (zaa (i:=4) (by rfl)) (zak (zaa (i:=0) (by rfl)) (zak (zaa (i:=1) (by rfl)) zav)) KwS.nil)) (zac (zcy (i:=5) (by rfl) (zaa (i:=8) (by rfl)) zaM) (zac (zax (i:=6) (by rfl) (zaa (i:=1) (by rfl))) (zac zro zam))))) zam) (zac (zde (zaI zar (zaa (i:=7) (by rfl)) (zaa (i:=3) (by rfl)) zkJ) (zac (zhW D0 (zkI D0 G TB (c:=zbg) (by kernel_rfl) (by kernel_rfl) rfl rfl (by decide) (by decide) (by kernel_rfl) (by right) (by(refine zak ?_ ?_);(exact(zaa (i:=0) (by rfl)));(exact(zak (zaa (i:=1) (by rfl)) (zak (znw (zeP.cons (zaJ (by rfl)) (zeP.cons (zrG (zaa (i:=7) (by rfl))) zeP.nil))) zav)))) KwS.nil)) zam) zam) (zac (zcy (i:=1) (by rfl) zaA zaM) zam)))))) zam))))
noncomputable def zb1:zai:=⟨zau p8 19,[ofString "src",ofString "pos"],60,true,false,[]⟩
theorem zdG(TB:zaB S (zaz za5)):zaV S zb1 (zah p8 19) zb9:=
 (zac (zcy (i:=1) (by rfl) zaA zaM) (zac (zbD (zkI D0 G TB (c:=zb4) (by kernel_rfl) (by kernel_rfl) rfl rfl (by decide) (by decide) (by kernel_rfl) (by right) (zak (zaa (i:=0) (by rfl)) (zak (zaa (i:=1) (by rfl)) zav)) (KwS.cons ziJ KwS.nil))) zam))
noncomputable def zcH:zai:=⟨zau p8 23,[ofString "src",ofString "pos",ofString "literal",ofString "delim",ofString "end_pos",ofString "result"],60,true,false,[]⟩
theorem zeM(TB:zaB S (zaz zbu)):zaV S zcH (zah p8 23) zbR:=
 (zac (zcy (i:=1) (by rfl) zaA zaM) (zac (zde (zbh zar (zcP (zaa (i:=0) (by rfl)) (zak (zaJ (by rfl)) (zak (zaa (i:=1) (by rfl)) zav)) zcR (λh=>GM.startswith h) (by rfl))) (zac (zcy (i:=1) (by rfl) zaA zaM) zam) zam) (zac (zde (zbh zar (zaa (i:=2) (by rfl))) zzR (zac (zax (i:=3) (by rfl) (zaJ (by rfl))) (zac (zii rfl (zbn.cons (i:=1) (by rfl) (zbn.cons (i:=5) (by rfl) zbn.nil)) (zkI D0 G TB (c:=zb4) (by kernel_rfl) (by kernel_rfl) rfl rfl (by decide) (by decide) (by kernel_rfl) (by right) (zak (zaa (i:=0) (by rfl)) (zak (zaa (i:=1) (by rfl)) zav)) (KwS.cons ziJ KwS.nil))) zam))) (zac (zde (zgc (zbh zar (zcP (zaa (i:=0) (by rfl)) (zak (zaa (i:=3) (by rfl)) (zak (zaa (i:=1) (by rfl)) zav)) zcR (λh=>GM.startswith h) (by rfl)))) (zac (zbD (zeK (zak (zaa (i:=1) (by rfl)) (zak (zaa (i:=5) (by rfl)) zav)))) zam) zam) (zac (zcy (i:=1) (by rfl) zaA zaM) (zac (zde (zgc (zbh zar (zcP (zaa (i:=0) (by rfl)) (zak (zaa (i:=3) (by rfl)) (zak (zaa (i:=1) (by rfl)) zav)) zcR (λh=>GM.startswith h) (by rfl)))) (zac (zbD (zeK (zak (zaa (i:=1) (by rfl)) (zak (zas (zaa (i:=5) (by rfl)) (zaa (i:=3) (by rfl)) zal) zav)))) zam) zam) (zac (zcy (i:=1) (by rfl) zaA zaM) (zac (zbD (zeK (zak (zaa (i:=1) (by rfl)) (zak (zas (zaa (i:=5) (by rfl)) (zas (zaa (i:=3) (by rfl)) zaA zlj) zal) zav)))) zam))))))))
end
section
open PySem.Builtin PySem.Builtin.Str
noncomputable def znP(d₁ d₂:D)(Q:Res->Prop)(_:Err->Prop):Prop:=oM d₂.int? λi=>match d₁ with
 |.str l=>(decide (i < -(2^63:Int))||decide (i ≥ 2^63))=false∧∃c,(seqIndex? i l.length).bind (l[·]?)=some c∧Q (.pl (.str [c]))
 |.lst l=>ztI l i Q
 |_=>False
@[reducible]noncomputable def zgR(c₁ c₂:PE):PE:=λQ X st=>c₁ (λr1 st₁=>zvF (zlP r1.d) (c₂ (λr2 st₂=>znP r1.d r2.d (λr'=>Q r' st₂) (λx=>X x st₂)) X st₁)) X st
section
variable{S:St0}{sh:zai}
theorem zoR:zcK S sh getItem znP:=λa ow st s v1a v2a d₁ d₂ Q X f R h1 h2 q=>by
 left;refine za1 (oM_inv q) λi e2 q=>?_;rw[D.int?_inv e2]at h2;obtain⟨u,rfl⟩:=h2.int;clear e2;cases d₁ with
 |str l=>
  refine zfh h1.str λt hzz=>?_;subst hzz;obtain⟨hr,c,hx,q⟩:=q;have hb:(seqIndex? i (mk l).length).bind ((mk l).cps[·]?)=(seqIndex? i l.length).bind (l[·]?):=by
   rw[zaG];simp[mk]
  exact P.getItem_str hr (hb.trans hx) (zcb R rfl q)
 |lst l=>exact zod f R h1 q
 |_=>exact q.elim
theorem zhR{e1 e2:Expr}{pos}{c₁ c₂:PE}(H1a:zat S sh e1 c₁)(H2:zat S sh e2 c₂)(hsub:∀o i,subscripted e2 false o i=operate [o,i] (getItem o i):=by intros;rfl):zat S sh (.Subscript e1 e2 pos) (zgR c₁ c₂):=λa ow st s Q X f R q=>by
 rw[eval_Subscript];refine yk (yr (H1a a ow st s _ X f R q) (λv1a s₁ h=>yk (yE ?_)) λ_ _ x=>x);left;obtain⟨r1,st₁,h1,h2,h3⟩:=h;refine zbP (zet h1) λhq h1=>?_;have R1:=R.step f h2;refine yr (H2 a _ st₁ s₁ _ X f R1 h1) (λv2a s₂ h=>yk (yT ?_)) λ_ _ x=>zaF h2 x;left;obtain⟨r2,st₂,g1,g2,g3⟩:=h;have K:=h2.trans g2;have c1:=h3.c.step f R1 g2;have c2:=g3.c;rw[zaq g2.frz]at c1 c2;have R2:=R.step f K;refine yk (zf1 R2 c1 hq ?_);rw[hsub];refine yk (wpAny_operating (yr (zoR a _ st₂ s₂ _ _ r1.d r2.d _ _ f R2 c1 c2 g1) (λv3 s3a x=>?_) λ_ _ x=>x.toE K));exact yk (letGo (yn (x.toE K)))
theorem zko{l:List Nat}{p c:Nat}{Q:Res->Prop}{X:Err->Prop}(h:l[p]?=some c)(hp:p≤1000000)(k:Q (.pl (.str [c]))):znP (.str l) (.int (p:Nat)) Q X:=
 ⟨zuW hp,c,by rw[zpY (zaK h)];exact h,k⟩
end
section
variable{prog:Program}{w:World}{A:Around}{E:Value->Shared->Prop}{s:Shared}
noncomputable def Hand(A:Around)(h:Heap)(X:Addr->Prop):Prop:=A.handled=none∨∃b,A.handled=some (.ref b)∧zeE h X (.ref b)
theorem Hand.same{h h':Heap}{X X':Addr->Prop}(k:∀b o,h.get? b=some o->¬X b->h'.get? b=some o)(kX:∀b,(h.get? b).isSome=true->X' b->X b)(x:Hand A h X):Hand A h' X':=
 x.imp id λ⟨b,h1,h2⟩=>⟨b,h1,h2.same (λb o _ e n _ _=>k b o e n) kX⟩
theorem zpb{e:Addr}{vs:Array Value}{α:Type}{Q:α->Shared->Prop}(he:s.heap.get? e=some {cls:=.type "StopIteration",data:=.fields vs})(hv:2<vs.size)(hh:Hand A s.heap λc=>c=e)
  (k:∀h' ob,Heap.ExtBut e s.heap h'->h'.get? e=some ob->ob.cls=.type "StopIteration"->E (.ref e) {s with heap:=h'}):wpAny (model prog w) A (raiseNew (.ref e):Sem α) Q E s:=by
 unfold raiseNew;refine yk (wpAny_handled ?_);rcases hh with h|⟨b,h,C⟩
 ·rw[h]
  have K:=k s.heap _ (λ_ _ _ q=>q) he rfl
  first
   |exact wpAny_throw K
   |exact yk (yn (wpAny_throw K))
 ·rw[h]
  have C':=C;cases C' with
  |@cons _ ob ws c g1 g2 gc g3 g4 g5=>
   have hbe:b≠e:=λz=>g2 z;dsimp only;refine zdu (by simpa using hbe) ?_;refine yk (yE (wpAny_runValue (zjV (X:=λc=>c=e) rfl C rfl .refl _ ?_)));unfold updateField;refine yk (yk (wpAny_load he ?_));dsimp only;refine zdu (by simpa using hv) ?_;refine wpAny_update he (wpAny_throw ?_);have self:=xe (Obj.mapFields (·.setIfInBounds 2 (Value.ref b))) he rfl;exact k _ _ (λc o n q=>(xf _ _ (Ne.symm n)).trans q) self rfl
theorem zpX{it l:Addr}{i:Nat}{items:Array Value}{Q:Option Value->Shared->Prop}(hh:Hand A s.heap λc=>c=it)
  (hit:s.heap.IsListIter it l i)(hl:s.heap.IsList l items)(hx:items[i]?=none)
  (hQ:∀h',Heap.ExtBut it s.heap h'->Q none {s with heap:=h'}):wpAny (model prog w) A (pyNext (.ref it)) Q E s:=by
 obtain⟨o,ho,hc,hd⟩:=id hit;obtain⟨ol,hol,_,nl,hdl⟩:=hl;unfold pyNext;refine yk (wpAny_attempt (wpAny_callSpecial?_slot (name:=ofString "__next__") hit.typeIs slot_listiter_next
  (wpAny_call_entry slot_listiter_next hit.typeIs entry_listiter_next ?_ (args_listiter_next _))))
 show wpAny _ _ (field (.ref it) 0 >>= _) _ _ s;refine yk (wpAny_field ho hd (x:=.ref l) rfl ?_);show wpAny _ _ (if(Value.ref l==Value.none)=true then _ else _) _ _ s;rw[if_neg (show ¬((Value.ref l==Value.none)=true)from Bool.false_ne_true)];show wpAny _ _ (field (.ref it) 1 >>= _) _ _ s;refine yk (wpAny_field ho hd (x:=.int i 0) rfl ?_);show wpAny _ _ (seqItems? (.ref l) >>= _) _ _ s;refine yk (wpAny_seqItems hol hdl ?_);simp only[Int.toNat_natCast,hx];refine yk (wpAny_rule (yk (wpAny_setField ho hd (by simp) ?_)));show wpAny _ _ (newExc (.type "StopIteration") [] >>= _) _ _ _;refine yk ?_;simp only[newExc,newTuple];refine yk (wpAny_newObj_type ?_ (by size_fits));refine yk (m:=firstArgMember _ _) (wpAny_of_eq (a:=Value.none) (by first|rfl|(simp only[firstArgMember];rfl)) ?_);refine wpAny_newObj_type ?_ (by size_fits);have B:Heap.SameBut it s.heap (s.heap.update it (Obj.mapFields (·.setIfInBounds 0 Value.none))):=Heap.SameBut.update ..;generalize (s.heap.update it (Obj.mapFields (·.setIfInBounds 0 Value.none)))=h1 at B;have hn:(h1.push {cls:=.type "tuple",data:=.seq #[]}).get? (h1.push {cls:=.type "tuple",data:=.seq #[]}).objs.size=none:=yP (yq _);have up:∀b o,s.heap.get? b=some o->¬b=it->(h1.push {cls:=.type "tuple",data:=.seq #[]}).get? b=some o:=λb o e n=>yB _ ((B.2 b n).trans e);dsimp only;generalize h1.push {cls:=.type "tuple",data:=.seq #[]}=h2 at hn up;refine zpb (yF _ rfl) (by rw[Array.size_append];exact yy (by decide:2<6) (yN ..)) (Hand.same (h:=s.heap) (X:=λc=>c=it) (λb o e n=>yB _ (up b o e n)) (λb hb q=>?_) hh) λh' ob k1 k2 k3=>?_
 ·subst q
  refine Classical.byContradiction λn=>?_;obtain⟨o,ho⟩:=yI.mp hb;have:=up _ o ho n;rw[hn]at this;exact zad this
 ·refine yk (wpAny_isInstance (T:="StopIteration") (b:=true) ⟨ob,k2,k3⟩ isSubtype_stop ?_)
  refine yn (hQ _ λb o hb e=>k1 b o (λz=>?_) (yB _ (up b o e hb)));have:=up b o e hb;rw[z,hn]at this;exact zad this
theorem zyL{l:Addr}{items:Array Value}{Q:List Value->Shared->Prop}(hh:Hand A s.heap noX)(hl:s.heap.IsList l items)
  (hQ:∀h',Heap.ExtBut s.heap.objs.size s.heap h'->Q items.toList {s with heap:=h'}):wpAny (model prog w) A (unpackItems (.ref l) items.size none) Q E s:=by
 have hlt:l≠s.heap.objs.size:=by obtain⟨o,ho,_⟩:=hl;exact Nat.ne_of_lt (Heap.lt_size ho)
 unfold unpackItems;refine yk ?_
 ·unfold notIterableAtAll
  refine yk (wpAny_specialOf hl.typeIs slot_list_iter.lookup ?_);refine yn ?_;simp only[Bool.false_eq_true,if_false];refine yk (yE (wpAny_pyIter_list hl ?_));refine yk (yE (kun_draw hlt items.size 0 _ _ ⟨_,yF _ rfl,rfl,rfl⟩ (hl.push _) (by omega) λh1 hit1 hs1=>?_));have hall:List.take items.size (List.drop 0 items.toList)=items.toList:=by
   rw[List.drop_zero];exact List.take_of_length_le (by simp)
  rw[hall];rw[if_neg (by simp)];have hl1:h1.IsList l items:=(hl.push _).extBut hs1.extBut hlt;have hn:s.heap.get? s.heap.objs.size=none:=yP (yq _);refine yk (yE (zpX (Hand.same (h:=s.heap) (X:=noX) (λb o e _=>(hs1.2 b λz=>?_).trans (yB _ e)) (λb hb q=>?_) hh) hit1 hl1 (by simp) λh2 he2=>?_))
  ·rw[z,hn]at e;exact zad e
  ·rw[q,hn]at hb;exact zaD hb
  simp only[Option.isSome_none,Bool.false_eq_true,if_false];refine yn (hQ h2 λb o hb e=>he2 b o hb (hs1.extBut b o hb (yB _ e)))
end
section
variable{S:St0}{sh:zai}
theorem zpC{es:List Expr}{k}{tp:Pos}{value:Expr}{pos:Pos}{is:List Nat}{c:PE}(T:zbn sh es is)(H:zat S sh value c)
  (hs:∀env,swapsWithSole [.Tuple es k tp] value pos.line env=pure false:=by intro;rfl)(hw:∀env,swappedStores [.Tuple es k tp] value env=pure none:=by intro;rfl) :
  zba S sh (.Assign [.Tuple es k tp] value pos) (zmk is c):=λa ow st s Q X g R q=>by
 have f:=g.f;refine wpAny_Assign_stores (yr (H a ow st s _ X f R q) (λv s₁ h=>?_) λ_ _ x=>zcJ f R x) (hs _) (hw _);left;obtain⟨r,st₁,hq,K,hr⟩:=h;refine za1 (oM_inv hq) λds e hq=>?_;have hr:=hr.c;rw[D.lst?_inv e]at hr;refine zbP (zet hq) λhl hq=>?_;have hl:=Nat.eq_of_beq_eq_true hl;obtain⟨t,o,vs,n,rfl,h1,h2,h3,h4⟩:=hr.lst;have R1:=R.step f K;show wpAny _ _ (assign (.Tuple es k tp) a.env (.ref t)) _ _ _;refine zbP (zfP T a.env) λtl1 tl2=>?_;have hsz:vs.size=is.length:=by rw[←hl,←h4.length];simp
 rw[arm_assign_Tuple];refine yk (yT ?_);unfold unpack;rw[show(assignEach es a.env).length=vs.size from tl1.trans hsz.symm,tl2];have hh:Hand a.A s₁.heap noX:=f.hand.imp id λ⟨b,h1,h2⟩=>⟨b,h2,R1.hands _ h1⟩;refine yk (yE (zyL hh ⟨o,h1,h2,n,h3⟩ λh' he=>?_));have hk:∀b o,s₁.heap.get? b=some o->h'.get? b=some o:=λb o e=>he b o (λz=>by rw[z,Heap.get?_none_of_le (Nat.le_refl _)]at e;exact zad e) e;have K2:Step a st₁ st₁ s₁ {s₁ with heap:=h'}:=⟨.refl _,.of_keeps hk,rfl,rfl⟩;have R2:=R1.step f K2;refine zfO f T R2 (h4.goes (R1.goes f K2.keep λb _ q=>q.restr)) hl λs' ow' R'=>⟨.next,ow',_,hq,R',trivial⟩
noncomputable def zcM(l:List Nat):List Nat:=(Txt.lower (mk l)).cps.toList
@[reducible]noncomputable def zqH(c:PE):PE:=λQ X st=>c (λr st₁=>r.oM D.str? λl=>l.length≤1000000∧Q (.pl (.str (zcM l))) st₁) X st
theorem ztG{o:Expr}{apos pos:Pos}{c:PE}(H:zat S sh o c)(hline:(apos.endLine==pos.line)=true)(hbase:∀env,attributeBase o "lower" env (eval o env)=eval o env:=by intro;rfl)
  (hform:∀env,methodCallForm (([]:List Expr).length+([]:List Keyword).length) (backTo pos (starEach [] env)) (backToKw pos (keywordEach [] env))=true:=by intro;rfl):zat S sh (.Call (.Attribute o "lower" apos) [] [] pos) (zqH c):=λa ow st s Q X f R q=>by
 rw[arm_eval_Call,hbase];refine yk (yr (H a ow st s _ X f R q) (λov s₁ h=>yk (yT ?_)) λ_ _ x=>x);obtain⟨r,st₁,q,K,hr⟩:=h;refine za1 (Res.str_inv q) λl hzz q'=>?_;subst hzz;obtain⟨hl,q1⟩:=q';obtain⟨hr,_⟩:=hr;refine zfh hr.inv λt hzz=>?_;subst hzz;unfold methodCall;rw[hform];refine yk (yE (GM.lower ?_));have hpos:methodCallPos true o a.env apos pos=Pure.pure pos:=by unfold methodCallPos;simp[hline]
 refine yk (wpAny_of_eq hpos ?_);show wpAny _ _ (callWith pos (.builtin "str.lower") [.str (mk l) t] (backTo pos (starEach [] a.env)) []) _ _ _;refine Calls.callWith_builtin rfl ?_;refine evalArgs_nil3 ?_;refine SCL.lower (by rw[zaG];exact yj hl (by decide)) λ_=>?_;have e:Txt.lower (mk l)=mk (zcM l):=(zdx _).symm;rw[e];exact⟨_,st₁,q1,K.trans zgF,.str _ _,λz=>zaD z⟩
end
end
noncomputable def D.flat?:D->Option D
 |.none=>some .none
 |.bool b=>some (.bool b)
 |.int i=>some (.int i)
 |.str l=>some (.str l)
 |_=>Option.none
theorem D.flat?_inv{d e:D}(h:d.flat?=some e):d=e:=by
 cases d<;>first|exact zad h|exact yi h
theorem zcj.flat{S:St0}{h h':Heap}{P P':Addr->Prop}{v:Value}{d e:D}(x:zcj S h P v d)(hd:d.flat?=some e):zcj S h' P' v d:=by
 cases d<;>first|exact zad hd|skip
 ·obtain rfl:=x.inv;exact .none
 ·obtain rfl:=x.inv;exact .bool _
 ·obtain⟨t,rfl⟩:=x.inv;exact .int _ t
 ·obtain⟨t,rfl⟩:=x.inv;exact .str _ t
inductive ziZ(S:St0)(h:Heap):List Value->List Res->List Addr->Prop
 |nil:ziZ S h [] [] []
 |pl {v d e vs rs F}:d.flat?=some e->zcj S h noX v d->ziZ S h vs rs F->ziZ S h (v::vs) (.pl d::rs) F
 |fr {b o n vs rs F}:h.get? b=some o->o.cls=.type "list"->o.data=.seq #[] n->o.dict=none->b∉F->ziZ S h vs rs F->ziZ S h (.ref b::vs) (.fr []::rs) (b::F)
theorem ziZ.mono{S:St0}{h h':Heap}{vs:List Value}{rs:List Res}{F:List Addr}(x:ziZ S h vs rs F):(∀b∈F,∀o n,h.get? b=some o->o.cls=.type "list"->o.data=.seq #[] n->o.dict=none->∃o' n',h'.get? b=some o'∧o'.cls=.type "list"∧o'.data=.seq #[] n'∧o'.dict=none)->ziZ S h' vs rs F:=by
 induction x with
 |nil=>exact λ_=>.nil
 |pl h1 h2 _ ih=>exact λk=>.pl h1 (h2.flat h1) (ih k)
 |fr h1 h2 h3 h4 h5 _ ih=>
  intro k;obtain⟨o',n',k1,k2,k3,k4⟩:=k _ yp _ _ h1 h2 h3 h4;exact .fr k1 k2 k3 k4 h5 (ih λb hb=>k b (ym _ hb))
theorem ziZ.len{S:St0}{h:Heap}{vs:List Value}{rs:List Res}{F:List Addr}(x:ziZ S h vs rs F):vs.length=rs.length:=by
 induction x with
 |nil=>rfl
 |pl _ _ _ ih=>exact ya (· + 1) ih
 |fr _ _ _ _ _ _ ih=>exact ya (· + 1) ih
theorem ziZ.app{S:St0}{h:Heap}{vs ws:List Value}{rs qs:List Res}{F H:List Addr}(x:ziZ S h vs rs F)(y:ziZ S h ws qs H):(∀b∈F,b∉H)->ziZ S h (vs++ws) (rs++qs) (F++H):=by
 induction x with
 |nil=>exact λ_=>y
 |pl h1 h2 _ ih=>exact λk=>.pl h1 h2 (ih k)
 |fr h1 h2 h3 h4 h5 _ ih=>
  exact λk=>.fr h1 h2 h3 h4 (λz=>(List.mem_append.mp z).elim h5 (k _ yp)) (ih λb hb=>k b (ym _ hb))
theorem ziZ.rev{S:St0}{h:Heap}{vs:List Value}{rs:List Res}{F:List Addr}(x:ziZ S h vs rs F):ziZ S h vs.reverse rs.reverse F.reverse:=by
 induction x with
 |nil=>exact .nil
 |pl h1 h2 _ ih=>
  rw[List.reverse_cons,List.reverse_cons];have:=ih.app (.pl h1 h2 .nil) λb _ z=>zb7 z;rwa[List.append_nil]at this
 |fr h1 h2 h3 h4 h5 _ ih=>
  rw[List.reverse_cons,List.reverse_cons,List.reverse_cons];exact ih.app (.fr h1 h2 h3 h4 (λz=>zb7 z) .nil) λb hb z=>h5 (by rw[List.mem_singleton.mp z]at hb;exact List.mem_reverse.mp hb)
noncomputable def zzh:List (Option PE)->List Res->(List Res->Sl->Prop)->(Err->Sl->Prop)->Sl->Prop
 |[],acc,Q,_,st=>Q acc st
 |none::ms,acc,Q,X,st=>zzh ms (acc++[.fr []]) Q X st
 |some c::ms,acc,Q,X,st=>c (λr st₁=>r.oM D.flat? λd=>zzh ms (acc++[.pl d]) Q X st₁) X st
section
variable{S:St0}{sh:zai}{a:Act}
inductive zsy(S:St0)(sh:zai):List Expr->List (Option PE)->Prop
 |nil:zsy S sh [] []
 |lst {p:Pos} {es:List Expr} {ms:List (Option PE)}:zsy S sh es ms->zsy S sh (.List [] p::es) (none::ms)
 |ex {e:Expr} {c:PE} {es:List Expr} {ms:List (Option PE)}:zat S sh e c->(∀env,starEach (e::es) env=(false,eval e env)::starEach es env)->zsy S sh es ms->zsy S sh (e::es) (some c::ms)
theorem ztv{st st':Sl}{s s':Shared}(K:Step a st st' s s'){vs:List Value}{rs:List Res}{F:List Addr}(x:ziZ S s.heap vs rs F):ziZ S s'.heap vs rs F:=x.mono λb _ o n h1 h2 h3 h4=>by
 refine zu8 (K.keep.weakD h1 (zaL h2)) λo' q1 q2 q3 q4=>?_;exact⟨o',n,q1,q2.trans h2,q3.trans h3,q4.trans h4⟩
theorem zxV(f:a.Fits S sh){es:List Expr}{ms:List (Option PE)}(T:zsy S sh es ms):∀{pos:Pos}{ow:Nat->Option Addr}{st:Sl}{s:Shared}{acc:List Res}{Q:List Res->Sl->Prop}{X:Err->Sl->Prop},Rel S sh a noX ow st s->zzh ms acc Q X st ->
  wpAny (model S.prog S.w) a.A (spliced (backTo pos (starEach es a.env))) (λvs s₁=>∃rs st₁ F,Q (acc++rs) st₁∧Step a st st₁ s s₁∧ziZ S s₁.heap vs rs F∧∀b∈F,s.heap.get? b=none) (zfN S a st s X) s:=by
 induction T with
 |nil=>intro pos ow st s acc Q X R q;exact wpAny_items_nil ⟨[],st,[],by rw[List.append_nil];exact q,.refl ..,.nil,λb hb=>zb7 hb⟩
 |@lst p es ms _ ih=>
  intro pos ow st s acc Q X R q;refine wpAny_items_cons (wpAny_List (wpAny_items_nil ?_)) rfl;refine⟨yb _,?_⟩;have hn:s.heap.get? s.heap.objs.size=none:=yP (yq _);have K:Step a st st s {s with heap:=s.heap.push {cls:=.type "list",data:=.seq ([]:List Value).toArray}}:=zeX (.refl ..) _ _;refine yr (ih (R.step f K) q) (λvs s₂ h=>?_) λ_ _ x=>zaF K x;obtain⟨rs,st₂,F,h1,h2,h3,h4⟩:=h;have e:(s.heap.push {cls:=.type "list",data:=.seq ([]:List Value).toArray}).get? s.heap.objs.size=some {cls:=.type "list",data:=.seq ([]:List Value).toArray}:=yF _ rfl;refine zu8 (h2.keep.weakD e (zaL rfl)) λo' q1 q2 q3 q4=>?_;refine⟨.fr []::rs,st₂,s.heap.objs.size::F,by rw[List.append_cons];exact h1,K.trans h2,.fr q1 q2 q3 q4 (λz=>?_) h3,λb hb=>?_⟩
  ·have:=h4 _ z;rw[e]at this;exact ziQ this
  ·rcases yx.mp hb with rfl|hb
   ·exact hn
   ·cases hg:s.heap.get? b with
    |none=>rfl
    |some o=>
     have:=h4 b hb;rw[Heap.get?_push_of_some _ hg]at this;exact ziQ this
 |@ex e c es ms H he _ ih=>
  intro pos ow st s acc Q X R q;refine wpAny_items_cons (yr (H a ow st s _ X f R q) (λv s₁ h=>?_) λ_ _ x=>x) (he _);obtain⟨r,st₁,h1,K,h3⟩:=h;obtain⟨d,d',rfl,hd,h1⟩:=Res.oM_inv h1;obtain rfl:=D.flat?_inv hd;refine yr (ih (R.step f K) h1) (λvs s₂ h=>?_) λ_ _ x=>zaF K x;obtain⟨rs,st₂,F,g1,g2,g3,g4⟩:=h;refine⟨.pl d::rs,st₂,F,by rw[List.append_cons];exact g1,K.trans g2,.pl hd (h3.1.flat hd) g3,λb hb=>?_⟩;exact K.keep.new (g4 b hb)
theorem Rel.putB(f:a.Fits S sh){X X':Addr->Prop}{ow ow':Nat->Option Addr}{st:Sl}{s:Shared}(R:Rel S sh a X ow st s){i:Nat}{y:Str}{v:Value}{sl:Slot}(hi:sh.names[i]?=some y)
  (ho:∀j,j≠i->ow' j=ow j)(hP:∀b,(s.heap.get? b).isSome=true->Pv a X' ow' b->Pv a X ow b)(hs:∀h',zfi S s.heap h' (Pv a X ow) (Pv a X' ow')->Heap.SameBut a.L s.heap h'->zfT S h' (Pv a X' ow') (some v) (ow' i) sl)
  (hown:∀b,ow' i=some b->a.h₀.get? b=none∧b≠a.L∧∀j,ow j≠some b)(hX:∀j b,ow' j=some b->¬X' b)(hXh:∀b,(s.heap.get? b).isSome=true->X' b->X b)
  {Q:Unit->Shared->Prop}{E:Value->Shared->Prop}{A:Around}(k:∀s',Rel S sh a X' ow' (st.set i sl) s'->Heap.SameBut a.L s.heap s'.heap->Q () s'):wpAny (model S.prog S.w) A (storeName a.env y v) Q E s:=by
 refine za1 R.slots λm hn hL=>?_;have hm:y∈sh.names:=yw hi;have hk:a.env.kindOf y=some .local:=by unfold Env.kindOf;exact f.scope▸(f.loc y hm)
 refine wpAny_storeName_local hk (f.locals▸hn) (λh' hn' hsb=>?_) (by rw[f.scope,f.kind];rfl);rw[f.locals]at hn' hsb;exact k _ (R.setH f hn hL hi ho hP hn' hsb hs hown hX hXh) hsb
noncomputable def zvA:List Nat->List Res->Sl->Sl
 |i::is,r::rs,st=>zvA is rs (st.set i (zqt r))
 |_,_,st=>st
noncomputable def FOk(a:Act)(ow:Nat->Option Addr)(F:List Addr):Prop:=∀b∈F,a.h₀.get? b=none∧b≠a.L∧∀j,ow j≠some b
theorem zzV(f:a.Fits S sh){X:Err->Sl->Prop}{xs:List Str}{is:List Nat}(T:zdt sh xs is):∀{ow:Nat->Option Addr}{st:Sl}{s:Shared}{vs:List Value}{rs:List Res}{F:List Addr}{Q:Unit->Shared->Prop},Rel S sh a (λc=>c∈F) ow st s->FOk a ow F->ziZ S s.heap vs rs F->rs.length=is.length ->
  (∀s' ow',Rel S sh a noX ow' (zvA is rs st) s'->Q () s')->wpAny (model S.prog S.w) a.A (assignInOrder (xs.map λn=>bindName a.env n) vs) Q (zi2 S sh a X) s:=by
 induction T with
 |nil=>
  intro ow st s vs rs F Q R hF hv hl k;cases hv with
  |nil=>
   have e:(λc:Addr=>c∈([]:List Addr))=noX:=funext λc=>propext ⟨λh=>zb7 h,λh=>h.elim⟩;rw[e]at R;exact yn (k s ow R)
  |pl _ _ _=>exact absurd hl (Nat.succ_ne_zero _)
  |fr _ _ _ _ _ _=>exact absurd hl (Nat.succ_ne_zero _)
 |@cons x i xs is hi _ ih=>
  intro ow st s vs rs F Q R hF hv hl k;cases hv with
  |nil=>exact absurd hl.symm (Nat.succ_ne_zero _)
  |@pl v d e vs rs F hd hv hvs=>
   show wpAny _ _ (do holding vs (bindName a.env x v);assignInOrder (xs.map λn=>bindName a.env n) vs) _ _ _;refine yk (yE (wpAny_bindName ?_));refine Rel.putB f R (X':=λc=>c∈F) (ow':=λj=>if j=i then none else ow j) (sl:=.val d) hi (λj hj=>if_neg hj) (λc _ q=>?_) (λh' _ _=>⟨if_pos rfl,v,rfl,hv.flat hd⟩) (λc e=>?_) (λj c e=>?_) (λ_ _ q=>q) λs' R' hsb=>?_
   ·rcases q with q|q|q|⟨j,q⟩
    ·exact .inl q
    ·exact .inr (.inl q)
    ·exact .inr (.inr (.inl q))
    ·by_cases e:j=i
     ·simp[e]at q
     ·simp[e]at q;exact .inr (.inr (.inr ⟨j,q⟩))
   ·simp at e
   ·by_cases e':j=i
    ·simp[e']at e
    ·simp[e']at e
     exact(R.own j c e).2.2.1
   ·refine ih R' (λc hc=>?_) (hvs.mono λc hc o n h1 h2 h3 h4=>⟨o,n,(hsb.2 c (hF c hc).2.1).trans h1,h2,h3,h4⟩) (Nat.succ.inj hl) k
    refine⟨(hF c hc).1,(hF c hc).2.1,λj e=>?_⟩;by_cases e':j=i
    ·simp[e']at e
    ·simp[e']at e
     exact(hF c hc).2.2 j e
  |@fr b o n vs rs F h1 h2 h3 h4 h5 hvs=>
   have hb:=hF b yp;show wpAny _ _ (do holding vs (bindName a.env x (.ref b));assignInOrder (xs.map λn=>bindName a.env n) vs) _ _ _;refine yk (yE (wpAny_bindName ?_));refine Rel.putB f R (X':=λc=>c∈F) (ow':=λj=>if j=i then some b else ow j) (sl:=.own []) hi (λj hj=>if_neg hj) (λc _ q=>?_) (λh' _ hsb=>⟨b,o,#[],n,if_pos rfl,rfl,(hsb.2 b hb.2.1).trans h1,h2,h3,.nil,h4⟩) (λc e=>?_) (λj c e=>?_) (λc _ q=>ym _ q) λs' R' hsb=>?_
   ·rcases q with q|q|q|⟨j,q⟩
    ·exact .inl q
    ·exact .inr (.inl q)
    ·exact .inr (.inr (.inl (ym _ q)))
    ·by_cases e:j=i
     ·simp[e]at q;exact .inr (.inr (.inl (by rw[←q];exact yp)))
     ·simp[e]at q;exact .inr (.inr (.inr ⟨j,q⟩))
   ·simp at e
    subst e;exact hb
   ·by_cases e':j=i
    ·simp[e']at e
     exact e▸h5
    ·simp[e']at e
     exact λz=>(R.own j c e).2.2.1 (ym _ z)
   ·refine ih R' (λc hc=>?_) (hvs.mono λc hc o n h1 h2 h3 h4=>⟨o,n,(hsb.2 c (hF c (ym _ hc)).2.1).trans h1,h2,h3,h4⟩) (Nat.succ.inj hl) k
    have hc':=hF c (ym _ hc);refine⟨hc'.1,hc'.2.1,λj e=>?_⟩;by_cases e':j=i
    ·simp[e']at e
     exact h5 (e▸hc)
    ·simp[e']at e
     exact hc'.2.2 j e
@[reducible]noncomputable def zmr(is:List Nat)(ms:List (Option PE)):PS:=λQ X st=>zzh ms [] (λrs st₁=>zvF (Nat.beq rs.length is.length&&Nat.ble rs.length 1000) (Q .next (zvA is rs.reverse st₁))) X st
theorem zoM{es elts:List Expr}{k k'}{tp vp:Pos}{pos:Pos}{is:List Nat}{names:List Str}{ms:List (Option PE)}(hcalm:sh.calm=true)(T:zdt sh names.reverse is)(H:zsy S sh elts ms)
  (hw:∀a:Act,a.Fits S sh->swappedStores [.Tuple es k tp] (.Tuple elts k' vp) a.env=pure (some names))(hs:∀env,swapsWithSole [.Tuple es k tp] (.Tuple elts k' vp) pos.line env=pure false:=by intro;rfl) :
  zba S sh (.Assign [.Tuple es k tp] (.Tuple elts k' vp) pos) (zmr is ms):=λa ow st s Q X g R q=>by
 have f:=g.f;refine Assign_Tuple_swapped (wpAny_Tuple (yr (zxV f H R q) (λvs s₁ h=>?_) λ_ _ x=>zcJ f R x)) (hs _) (hw a f);obtain⟨rs,st₁,F,hq,K,hv,hF⟩:=h;rw[List.nil_append]at hq;obtain⟨hl,hq⟩:=zet hq;obtain⟨hl,hl2⟩:=yu.mp hl;have hl:=Nat.eq_of_beq_eq_true hl;have hl2:=yH hl2;refine⟨by rw[hv.len];exact yj hl2 (by decide),?_⟩;have K1:Step a st st₁ s {s₁ with heap:=s₁.heap.push {cls:=.type "tuple",data:=.seq vs.toArray}}:=zeX K _ _;have hn:names.length=vs.toArray.size:=by
  rw[←List.length_reverse,T.len,←hl,←hv.len,List.size_toArray]
 rw[hn];refine wpAny_unpackItems_tuple (f.calm hcalm).1 ⟨_,yF _ rfl,rfl,_,rfl⟩ λh' he=>?_;have hk:∀b o,s₁.heap.get? b=some o->h'.get? b=some o:=λb o e=>he b o (λz=>by
  have:=yB {cls:=.type "tuple",data:=.seq vs.toArray} e;rw[z,Heap.get?_none_of_le (Nat.le_refl _)]at this;exact zad this) (yB _ e)
 have K2:Step a st₁ st₁ s₁ {s₁ with heap:=h'}:=⟨.refl _,.of_keeps hk,rfl,rfl⟩;have KK:=K.trans K2;have R2:=R.stepX f KK (X':=λc=>c∈F.reverse) λc hc z=>by rw[hF c (List.mem_reverse.mp z)]at hc;exact zaD hc
 have hv2:ziZ S h' vs rs F:=ztv K2 hv;have hF2:FOk a (restr ow st₁) F.reverse:=λb hb=>by
  have h0:=hF b (List.mem_reverse.mp hb);refine⟨R.keep.new h0,λz=>?_,λj q=>?_⟩
  ·refine za1 R.slots λm hm _=>?_
   obtain⟨o,_,_,ho,_⟩:=hm;rw[←z,h0]at ho;exact zad ho
  ·have:=R.own_there (zbt q)
   rw[h0]at this;exact zaD this
 rw[List.toList_toArray];exact zzV f T R2 hF2 hv2.rev (by rw[List.length_reverse];exact hl) λs' ow' R'=>⟨.next,ow',_,hq,R',trivial⟩
end
section
variable{prog:Program}{w:World}{A:Around}{E:Value->Shared->Prop}{s:Shared}
theorem zqx{b b2:Addr}{o o2:Obj}{its its2:Array Value}{n n2:Nat}{Q:Value->Shared->Prop}(ho:s.heap.get? b=some o)(hc:o.cls=.type "list")(hd:o.data=.seq its n)(hdn:o.dict=none)(ho2:s.heap.get? b2=some o2)(hc2:o2.cls=.type "list")(hd2:o2.data=.seq its2 n2)(hsz:its.size+its2.size≤sizeLine)
  (hQ:∀h' o' n',Heap.SameBut b s.heap h'->h'.get? b=some o'->o'.cls=.type "list"->o'.data=.seq (its++its2) n'->o'.dict=none->Q (.ref b) {s with heap:=h'}):wpAny (model prog w) A (inplaceOp .Add (.ref b) (.ref b2)) Q E s:=by
 have hT:s.TypeIs (.ref b) "list":=⟨o,ho,hc⟩;have hT2:s.TypeIs (.ref b2) "list":=⟨o2,ho2,hc2⟩;unfold inplaceOp;refine yE ?_;have hsq:isSeqSlot (some (.builtin "list.__iadd__"))=true:=by right
 have hfi:fillsInplaceSlot (.type "list") "add" (Operator.Add == .Add)=pure false:=by
  unfold fillsInplaceSlot;show(typeLookup (.type "list") (dunderI "add") >>= λfi=>pure (fi.isSome && !isSeqSlot fi))=pure false;rw[PySem.F.slot_list_iadd.lookup];show(pure (true && !isSeqSlot (some (.builtin "list.__iadd__"))):Sem Bool)=pure false;rw[hsq];rfl
 refine yk (wpAny_typeOf hT (yk (wpAny_of_eq hfi ?_)));show wpAny _ A (if false=true then _ else _) Q E s;rw[if_neg Bool.false_ne_true];refine yk (binaryOp1_none (nm:="add") hT hT2 noFill_list_add ?_);refine yk (wpAny_of_eq (PyProof.Rows.seqSlot_of PySem.F.slot_list_iadd.lookup hsq) ?_);refine yk (wpAny_rule ?_);refine wpAny_call_entry PySem.F.slot_list_iadd hT PySem.F.entry_list_iadd ?_ (PySem.F.args_list_iadd_2 _ _);show wpAny _ _ (Builtin.List.listExtendWith (.ref b) (.ref b2) (.ref b)) _ _ s;unfold Builtin.List.listExtendWith;refine yk (wpAny_typeOf hT2 ?_);have hcond:(Builtin.List.listSameRef (.ref b) (.ref b2)||Value.type "list" == Value.type "list"||Value.type "list" == Value.type "tuple")=true:=by simp
 rw[hcond];show wpAny _ _ (do
  let xs ←Builtin.List.listItems (.ref b2)
  let mine ←Builtin.List.listItems (.ref b)
  if !mine.isEmpty&&Builtin.List.listTooLong (mine.size+xs.size)then unsupported "list.extend:memory"
  Builtin.List.listUpdate (.ref b) (·++xs)
  return ←ret (.ref b)) _ _ s
 refine yk (yk (wpAny_seqItems ho2 hd2 (yn ?_)));refine yk (yk (wpAny_seqItems ho hd (yn ?_)));have hlong:Builtin.List.listTooLong (its.size+its2.size)=false:=yv (yg.mpr hsz);rw[hlong,Bool.and_false];show wpAny _ _ (updateSeq b (·++its2) >>= λ_=>ret (.ref b)) _ _ s;obtain⟨n',hd'⟩:=Obj.data_mapSeq hd (·++its2);refine yk (wpAny_updateSeq ho hd (yn ⟨.ref b,rfl,hQ _ _ n' (Heap.SameBut.update ..) (xe _ ho (Obj.isFreed_of_seq hd')) ((Obj.cls_mapSeq ..).trans hc) hd' ?_⟩));obtain⟨c,d,dt,sl⟩:=o;subst hd;exact hdn
end
section
variable{S:St0}{sh:zai}
@[reducible]noncomputable def znE(i:Nat)(c:PE):PS:=λQ X st=>atO st i λ_=>c (λr st₁=>oM r.d.lst? λds'=>atO (r.seal st₁) i λds=>ds.length+ds'.length≤1000000∧Q .next ((r.seal st₁).set i (.val (.lst (ds++ds'))))) X st
theorem zqN{i:Nat}{x:Str}{p':Pos}{value:Expr}{pos:Pos}{c:PE}(hi:sh.names[i]?=some x)(H:zat S sh value c):zba S sh (.AugAssign (.Name x p') .Add value pos) (znE i c):=λa ow st s Q X g R q=>by
 have f:=g.f;left;refine za1 (zkU q) λds0 h0 q=>?_;have R0:=zdr R;refine zcN R.slots λm hn hl hs=>?_;have hm:x∈sh.names:=yw hi;have hk:a.env.kindOf x=some .local:=by unfold Env.kindOf;exact f.scope▸(f.loc x hm)
 have hkk:a.env.scope.kind=.function:=f.scope▸f.kind;obtain⟨b,o,vs,n,h1,h2,h3,h4,h5,h6,h7⟩:=hs i x _ (zai.all_of hi) h0;clear h6;rw[f.ovn hm]at h2;refine wpAny_AugAssign_Name (wpAny_loadName_local hkk hk (f.locals▸hn) h2 ?_);refine yr (H a ow st s _ X f R q) (λv s₁ h=>?_) λ_ _ x=>zcJ f R x;left;obtain⟨r,st₁,g0,K,hr⟩:=h;refine za1 (oM_inv g0) λds' e' g0=>?_;refine zcN (zkU g0) λds g1 g2 g3=>?_;refine zbP (zf3 f R K hr) λK' hv=>?_;rw[D.lst?_inv e']at hv;have R1:=R.step f K';refine zcN R1.slots λm₁ hn1 hl1 hs1=>?_;obtain⟨b1,o1,vs1,n₁,k1,k2,k3,k4,k5,k6,k7⟩:=hs1 i x _ (zai.all_of hi) g1;have hbb:b1=b:=by
  have:=zbt k1;rw[h1]at this;exact(yi this).symm
 clear k2;obtain rfl:=hbb.symm;obtain⟨b2,o2,vs2,n2,ev,y1,y2,y3,y4⟩:=(zdH.lst (.inl hv):_);subst ev;have hsz:vs1.size+vs2.size≤sizeLine:=by
  have e1:=k6.length;have e2:=y4.length;simp at e1 e2;rw[e1,e2];exact yj g2 (by decide)
 refine zqx k3 k4 k5 k7 y1 y2 y3 hsz λh' o' n' hsb z1 z2 z3 z4=>?_;have R2:=R1.own_set f k1 g1 (tk:=s₁.toks) hsb k3 k4 k5 z1 z2 z3 z4 (ds':=ds++ds') (by rw[Array.toList_append];exact zaO.append y4 k6);have hlen:i<(r.seal st₁).length:=(yo.mp g1).1;have K3:Step a ((r.seal st₁).set i (.own (ds++ds'))) ((r.seal st₁).set i (.val (.lst (ds++ds')))) {s₁ with heap:=h',toks:=s₁.toks} {s₁ with heap:=h',toks:=s₁.toks}:=by
  refine⟨⟨by rw[List.length_set,List.length_set],λj=>?_⟩,.refl _ _,rfl,rfl⟩;by_cases e:i=j
  ·subst e
   exact .inr ⟨ds++ds',by rw[List.getElem?_set,if_pos rfl,if_pos hlen],by rw[List.getElem?_set,if_pos rfl,if_pos hlen]⟩
  ·exact .inl (by rw[List.getElem?_set_ne e,List.getElem?_set_ne e])
 have R3:=R2.step f K3;refine zcN R3.slots λm3 hn3 hl3 hs3=>?_;obtain⟨w1,v3,w2,w3⟩:=hs3 i x _ (zai.all_of hi) (by rw[List.getElem?_set,if_pos rfl,if_pos hlen]);refine zcN R2.slots λm₂ hn2 hl2 hs2=>?_;obtain⟨b2a,o2a,vs2a,n2a,u1,u2,_,_,_,_,_⟩:=hs2 i x _ (zai.all_of hi) (by rw[List.getElem?_set,if_pos rfl,if_pos hlen]);have hb2:b2a=b:=yi (u1.symm.trans k1);have hm3:m3=m₂:=zyc hn2 hn3 rfl;rw[hm3]at w2;obtain rfl:v3=.ref b:=by
  have:=w2.symm.trans u2;rw[hb2]at this;exact yi this
 refine ze4 f R3 hi w3 λs' R' _=>?_;rw[List.set_set]at R';exact⟨.next,_,_,g3,R',trivial⟩
end
section
variable{S:St0}{sh:zai}
noncomputable def JL(i:Nat)(st:Sl)(k:Nat):Prop:=1≤k∧∀ds,(st[i]?=some (.own ds)∨st[i]?=some (.val (.lst ds)))->∀d∈ds,zz4 d≤k
theorem JL.grow{i:Nat}{st:Sl}{k k':Nat}(h:k≤k')(j:JL i st k):JL i st k':=⟨yj j.1 h,λds e d hd=>yj (j.2 ds e d hd) h⟩
theorem JL.frz{i:Nat}{st st':Sl}{k:Nat}(F:Frz st st')(j:JL i st k):JL i st' k:=⟨j.1,λds e d hd=>by
 rcases F.2 i with z|⟨es,z1,z2⟩
 ·rw[z]at e;exact j.2 ds e d hd
 ·rw[z2]at e
  refine j.2 ds (.inl ?_) d hd;rcases e with e|e
  ·exact nomatch yi e
  ·have e1:D.lst es=D.lst ds:=yi (ya Slot.val? (yi e))
   rw[z1,show es=ds from Option.some.inj (congrArg D.lst? e1)]⟩
theorem JL.set{i j:Nat}{st:Sl}{sl:Slot}{k:Nat}(h:j≠i)(x:JL i st k):JL i (st.set j sl) k:=⟨x.1,λds e=>by rw[List.getElem?_set_ne h]at e;exact x.2 ds e⟩
theorem zvM{i j:Nat}(h:j≠i):Jk (JL i) j:=⟨λ_ _ _ k x=>x.grow k,λ_ _ _ F x=>x.frz F,λ_ _ _ x=>x.set h⟩
theorem zky{J:Sl->Nat->Prop}:zjC J S sh [] zap:=λa ow st s Q X hJ g R q=>wpAny_execs_nil ⟨.next,ow,st,⟨q,hJ⟩,R,trivial⟩
theorem zif{J:Sl->Nat->Prop}{t:Stmt}{ts:List Stmt}{c cs:PS}(H:zmW J S sh t c)(Hs:zjC J S sh ts cs):zjC J S sh (t::ts) (zaf c cs):=λa ow st s Q X hJ g R q=>by
 refine wpAny_execs_cons (yr (H a ow st s _ X hJ g R q) (λfl s₁ h=>?_) λ_ _ x=>x);left;obtain⟨fl',ow',st',⟨h1,hJ'⟩,h2,h3⟩:=h
 induction fl<;>induction fl'<;>first
  |exact h3.elim
  |exact Hs a ow' st' s₁ Q X hJ' g h2 h1
  |exact⟨_,ow',st',⟨h1,hJ'⟩,h2,h3⟩
theorem zpA{J:Sl->Nat->Prop}{i:Nat}{x:Str}{p' value pos}{c:PE}(jk:Jk J i)(jo:∀st k sl,J st k->J (st.set i sl) k)(hi:sh.names[i]?=some x)(H:zat S sh value c)(hs:∀env,swapsWith value (some (.Name x p')) pos.line env=pure false) :
  zmW J S sh (.Assign [.Name x p'] value pos) (zay i c):=λa ow st s Q X hJ g R q=>by
 have f:=g.f;refine wpAny_Assign_Name (yr (wpAny_toks (H a ow st s _ X f R q)) (λv s₁ h=>?_) λ_ _ x=>zcJ f R x.2) (hs _);left;obtain⟨hn,r,st₁,h1,h2,h3⟩:=h;refine zbP (zf3 f R h2 h3) λK' _=>?_;refine wpAny_with_toks hn (zld f R h2 hi h3 λs' ow' R' hn'=>⟨.next,ow',_,⟨h1,?_⟩,R',trivial⟩);exact jo _ _ _ (jk.frz _ _ _ K'.frz (jk.grow _ _ _ hn' hJ))
theorem zyg{J:Sl->Nat->Prop}{i:Nat}{t:Expr}{b o:List Stmt}{pos}{ct:PT}{cb co:PS}(jk:Jk J i)(Ht:zdp S sh t ct)(Hb:zjC J S sh b cb)(Ho:zjC J S sh o co):zmW J S sh (.If t b o pos) (zeR ct cb co):=λa ow st s Q X hJ g R q=>by
 have f:=g.f;refine wpAny_If (yr (wpAny_toks (Ht a ow st s _ X f R q)) (λc s₁ h=>?_) λ_ _ x=>zcJ f R x.2);left;obtain⟨hn,st₁,h1,h2⟩:=h;have hJ1:=jk.frz _ _ _ h2.frz (jk.grow _ _ _ hn hJ)
 induction c with
 |true=>exact Hb a _ st₁ s₁ Q X hJ1 g (R.step f h2) (zhm h1)
 |false=>exact Ho a _ st₁ s₁ Q X hJ1 g (R.step f h2) (zht h1)
theorem zoE{i:Nat}{x:Str}{p apos pos cpos:Pos}{e:Expr}{c:PE}(hi:sh.names[i]?=some x)(H:zvy CT 1 S sh e c)(hline:(apos.endLine==cpos.line)=true)(htrees:∀env,backTo cpos (starEach [e] env)=[(false,eval e env)])
  (hd:(x==("__debug__":Str))=false):zmW (JL i) S sh (.Expr (.Call (.Attribute (.Name x p) "append" apos) [e] [] cpos) pos) (zfp i c):=λa ow st s Q X hJ g R q=>by
 refine yr (wpAny_toks (zjM hi H hline htrees hd hJ.1 g R q)) (λfl s' h=>?_) λ_ _ x=>x.2;obtain⟨hn,fl',ow',st',⟨h1,ds,r,st₁,rfl,e1,F,rfl,i',b,rfl,hb⟩,h2,h3⟩:=h;refine⟨_,ow',_,⟨h1,yj hJ.1 hn,λes he d hd=>?_⟩,h2,h3⟩;have hlen:i<st₁.length:=by
  rw[F.1];exact(yo.mp e1).1
 rw[List.getElem?_set,if_pos rfl,if_pos hlen]at he;rcases he with he|he
 ·obtain rfl:ds++[_]=es:=yi (ya Slot.own? (yi he))
  rcases List.mem_append.mp hd with z|z
  ·exact yj (hJ.2 ds (.inl e1) d z) hn
  ·rw[List.mem_singleton.mp z];exact hb
 ·exact nomatch yi he
@[reducible]noncomputable def zuN(i:Nat)(c:PS)(cs:Nat->PS):PS:=λQ X st=>(∀ds,(st[i]?=some (.own ds)∨st[i]?=some (.val (.lst ds)))->ds=[])∧c (λfl st₁=>(fl=.next)∧∀k,1≤k->(∀ds,(st₁[i]?=some (.own ds)∨st₁[i]?=some (.val (.lst ds)))->∀d∈ds,zz4 d≤k)->cs k Q X st₁) X st
theorem zsu{i:Nat}{t:Stmt}{ts:List Stmt}{c:PS}{cs:Nat->PS}(H:zmW (JL i) S sh t c)(Hs:∀k,1≤k->zc2 k S sh ts (cs k)):zc2 1 S sh (t::ts) (zuN i c cs):=λa ow st s Q X hn g R q=>by
 refine wpAny_execs_cons (yr (H a ow st s _ X ⟨hn,λds e d hd=>?_⟩ g R q.2) (λfl s₁ h=>?_) λ_ _ x=>x)
 ·rw[q.1 ds e]at hd;exact zb7 hd
 ·left
  obtain⟨fl',ow',st',⟨⟨rfl,h1⟩,hJ⟩,h2,h3⟩:=h
  induction fl<;>first|exact h3.elim|exact Hs _ hJ.1 a ow' st' s₁ Q X (yq _) g h2 (h1 _ hJ.1 hJ.2)
end
end Mine.Internal
end
section
open PySem PySem.W PySem.Calls PyProof.Rows PySem.Builtin
set_option tactic.hygienic false
set_option genInjectivity false
set_option genSizeOfSpec false
set_option maxRecDepth 100000
namespace Mine.Internal
section
variable{S:St0}{sh:zai}{a:Act}
theorem zoG{es:List Expr}{k tp value pos}{is:List Nat}{c:PE}(hcalm:sh.calm=true)(T:zbn sh es is)(H:zat S sh value c)(hw:∀a:Act,a.Fits S sh->swappedStores [.Tuple es k tp] value a.env=pure none)(hs:∀env,swapsWithSole [.Tuple es k tp] value pos.line env=pure false:=by intro;rfl) :
  zba S sh (.Assign [.Tuple es k tp] value pos) (zeH is c):=λa ow st s Q X g R q=>by
 have f:=g.f;refine wpAny_Assign_stores (yr (H a ow st s _ X f R q) (λv s₁ h=>?_) λ_ _ x=>zcJ f R x) (hs _) (hw a f);left;obtain⟨r,st₁,hq,K,hr⟩:=h;refine za1 (Res.tup_inv hq) λds hzz hq=>?_;subst hzz;obtain⟨hr,_⟩:=hr;refine zbP (zet hq) λhl hq=>?_;have hl:=Nat.eq_of_beq_eq_true hl;obtain⟨t,o,vs,n,rfl,h1,h2,h3,h4⟩:=hr.inv;have R1:=R.step f K;show wpAny _ _ (assign (.Tuple es k tp) a.env (.ref t)) _ _ _;refine zbP (zfP T a.env) λtl1 tl2=>?_;have hsz:vs.size=is.length:=by rw[←hl,←h4.length];simp
 refine wpAny_assign_Tuple (f.calm hcalm).1 ⟨o,h1,h2,n,h3⟩ (tl1.trans hsz.symm) tl2 λh' he=>?_;have hk:∀b o,s₁.heap.get? b=some o->h'.get? b=some o:=λb o e=>he b o (λz=>by rw[z,Heap.get?_none_of_le (Nat.le_refl _)]at e;exact zad e) e;have K2:Step a st₁ st₁ s₁ {s₁ with heap:=h'}:=⟨.refl _,.of_keeps hk,rfl,rfl⟩;have R2:=R1.step f K2;refine zfO f T R2 (h4.goes (R1.goes f K2.keep λb _ q=>q.restr)) hl λs' ow' R'=>⟨.next,ow',_,hq,R',trivial⟩
end
end Mine.Internal
end
section
open PySem PySem.W PySem.Calls PyProof.Rows
set_option tactic.hygienic false
set_option genInjectivity false
set_option genSizeOfSpec false
set_option maxRecDepth 100000
namespace Mine.Internal
section
set_option maxHeartbeats 2000000
noncomputable def za7:List (Str×Ctr):=zxY
noncomputable def zbx:List (Str×Ctr):=(ofString "_law_text",zey)::za7
noncomputable def zgQ:List (Str×Ctr):=(ofString "_law_where",zct)::zbx
noncomputable abbrev zdq:List (Str×Ctr):=zgQ
noncomputable def zjT(n:Nat):List (Str×Ctr):=(ofString "_law_due",zgW n)::zgQ
noncomputable def zf6:List (Str×D):=(ofString "_law_text",zin)::(ofString "_law_where",zlr)::(ofString "_law_due",zpm)::gl8
noncomputable def zbw:zai:=⟨zau p8 28,[ofString "script",ofString "pieces",ofString "chosen",ofString "x",ofString "left",ofString "digits_v",ofString "digit",ofString "kind",ofString "sign",ofString "half"],100,true,false,[]⟩
@[reducible]noncomputable def zgw:PS:=(zay 1 (zgX (zab (zag (.str [34])) (zab (zag (.str [92])) (zab (zag (.str [10])) (zab (zag (.str [34,34])) (zab (zag (.str [92,10])) (zab (zag (.str [92,32,9,10,32,10])) (zab (zag (.str [34,34,34])) (zab (zag (.str [92,34])) (zab (zag (.str [92,92])) (zab (zag (.str [92,110])) (zab (zag (.str [92,117,48,48,69,57])) (zab (zag (.str [92,85,48,48,48,49,102,54,48,48])) (zab (zag (.str [92,117,68,56,48,48])) zaj)))))))))))))))
section
variable{S:St0}(D0:Std S)(NG:NoG S)(G:Gl S zf6)(E0:zaw S)(N0:ClsAt S.mg S.base)
include D0 NG G E0 N0
theorem zli(TB:zaB S (zaz za7)):zba S zbw ((zah p8 28).getD 0 default) (zgw):=(by(refine zax (i:=1) ?_ ?_ ?_);(rfl);(exact(by(refine zeZ ?_);(exact(by(refine zak ?_ ?_);(exact(zaJ (by rfl)));(exact(by(refine zak ?_ ?_);(exact(zaJ (by rfl)));(exact(by(refine zak ?_ ?_);(exact(zaJ (by rfl)));(exact(by(refine zak ?_ ?_);(exact(zaJ (by rfl)));(exact(by(refine zak ?_ ?_);(exact(zaJ (by rfl)));(exact(by(refine zak ?_ ?_);(exact(zaJ (by rfl)));(exact(by(refine zak ?_ ?_);(exact(zaJ (by rfl)));(exact(by(refine zak ?_ ?_);(exact(zaJ (by rfl)));(exact(by(refine zak ?_ ?_);(exact(zaJ (by rfl)));(exact(by(refine zak ?_ ?_);(exact(zaJ (by rfl)));(exact(by(refine zak ?_ ?_);(exact(zaJ (by rfl)));(exact(zak (zaJ (by rfl)) (zak (zaJ (by rfl)) zav)))))))))))))))))))))))))));(intro;kernel_rfl))
@[reducible]noncomputable def zgx:PS:=(znE 1 (zgX (zab (zag (.str [92,85,48,48,49,49,48,48,48,48])) (zab (zag (.str [92,117])) (zab (zag (.str [32])) (zab (zag (.str [9])) (zab (zag (.str [92,32])) (zab (zag (.str [97])) (zab (zag (.str [48])) (zab (zag (.str [0])) (zab (zag (.str [13])) (zab (zag (.str [127])) (zab (zag (.str [92,85,48,48,48,49,102,54,48])) (zab (zag (.str [92,98])) (zab (zag (.str [70])) zaj)))))))))))))))
theorem zk6(TB:zaB S (zaz za7)):zba S zbw ((zah p8 28).getD 1 default) (zgx):=(by(refine zqN (i:=1) ?_ ?_);(rfl);(exact(by(refine zeZ ?_);(exact(by(refine zak ?_ ?_);(exact(zaJ (by rfl)));(exact(by(refine zak ?_ ?_);(exact(zaJ (by rfl)));(exact(by(refine zak ?_ ?_);(exact(zaJ (by rfl)));(exact(by(refine zak ?_ ?_);(exact(zaJ (by rfl)));(exact(by(refine zak ?_ ?_);(exact(zaJ (by rfl)));(exact(by(refine zak ?_ ?_);(exact(zaJ (by rfl)));(exact(by(refine zak ?_ ?_);(exact(zaJ (by rfl)));(exact(by(refine zak ?_ ?_);(exact(zaJ (by rfl)));(exact(by(refine zak ?_ ?_);(exact(zaJ (by rfl)));(exact(by(refine zak ?_ ?_);(exact(zaJ (by rfl)));(exact(by(refine zak ?_ ?_);(exact(zaJ (by rfl)));(exact(zak (zaJ (by rfl)) (zak (zaJ (by rfl)) zav))))))))))))))))))))))))))))
@[reducible]noncomputable def zgl:PS:=(zay 2 (zgX zaj))
theorem zj4(TB:zaB S (zaz za7)):zba S zbw ((zah p8 28).getD 2 default) (zgl):=(zax (i:=2) (by rfl) (zeZ zav))
@[reducible]noncomputable def zd7:PS:=(zay 4 (pe2 (zyi (zcO (pe2 (zae 3) (zag (.int 0)) (zll λx y=>decide (x ≥ y)))) (pe2 (zag (.int 2)) (zae 3) zxf) (pe2 (pe2 (pe1 (zag (.int 2)) zuZ) (zae 3) zxf) (zag (.int 1)) zpK)) (pe2 (zag (.int 31137792)) (zag (.int 12)) zAe) zrB))
@[reducible]noncomputable def zcZ:PS:=(zay 5 (zgX (zab (pe2 (zae 4) (zag (.int 31137792)) zrB) zaj)))
@[reducible]noncomputable def zjh:PS:=(zdk 4 (zag (.int 31137792)) zkN)
@[reducible]noncomputable def zi5:PS:=(zfp 5 (pe2 (zae 4) (zag (.int 31137792)) zrB))
@[reducible]noncomputable def zcW:PS:=(zdA (zcO (pe2 (zae 4) (zag (.int 31137792)) (zll λx y=>decide (x ≥ y)))) (zaf zjh (zaf zi5 zap)))
@[reducible]noncomputable def zd8:PS:=(zlA [8,7] (zev (zab (pe2 (zae 6) (zag (.int 28)) zrB) (zab (pe2 (zae 6) (zag (.int 28)) zkN) zaj))))
@[reducible]noncomputable def zd3:PS:=(zfp 2 (zyi (zcO (pe2 (zae 7) (zag (.int 26)) (zll λx y=>decide (x<y)))) (zeY (zae 1) (zae 7)) (peN (zab (zyi (zcO (pe2 (zae 8) (zag (.int 55296)) (zll λx y=>decide (x<y)))) (zae 8) (pe2 (zae 8) (zag (.int 2048)) zdb)) zaj) zzb)))
@[reducible]noncomputable def zcX:PS:=(zk4 6 (zae 5) (zaf zd8 (zaf zd3 zap)))
@[reducible]noncomputable def zgt:PS:=(zk4 3 (zzW (zae 0) (zgX (zab (pe1 (zag (.int 3)) zuZ) (zab (zag (.int 0)) (zab (pe1 (zag (.int 9)) zuZ) zaj))))) (zaf zd7 (zaf zcZ (zaf zcW (zaf zcX zap)))))
theorem zlf(TB:zaB S (zaz za7)):zba S zbw ((zah p8 28).getD 3 default) (zgt):=(zuP (i:=3) rfl (by rfl) (zxw zar (zaa (i:=0) (by rfl)) (zve (by(refine zeZ ?_);(exact(by(refine zak ?_ ?_);(exact(zsb zaA zgA));(exact(zak zaA (zak (zsb zaA zgA) zav)))))))) (zac (zax (i:=4) (by rfl) (zas (zsS (zaI zar (zaa (i:=3) (by rfl)) zaA zkH) (zas zaA (zaa (i:=3) (by rfl)) zgD) (zas (zas (zsb zaA zgA) (zaa (i:=3) (by rfl)) zgD) zaA zdn)) (zas zaA zaA ztV) zdS)) (zac (zax (i:=5) (by rfl) (zeZ (zak (zas (zaa (i:=4) (by rfl)) zaA zdS) zav))) (zac (zfk (zaI zar (zaa (i:=4) (by rfl)) zaA zkH) (zac (zcy (i:=4) (by rfl) zaA zoN) (zac (zlE (i:=5) (by rfl) (zas (zaa (i:=4) (by rfl)) zaA zdS) (by rfl)) zam))) (zac (zuP (i:=6) rfl (by rfl) (zaa (i:=5) (by rfl)) (zac (zpB (names:=[ofString "kind",ofString "sign"]) rfl (zdt.cons (i:=8) (by rfl) (zdt.cons (i:=7) (by rfl) zdt.nil)) (zeK (zak (zas (zaa (i:=6) (by rfl)) zaA zdS) (zak (zas (zaa (i:=6) (by rfl)) zaA zff) zav))) (λa f=>by unfold swappedStores Env.blockKind Env.kindOf;rw[f.scope];kernel_rfl)) (zac (zlE (i:=2) (by rfl) (zsS (zaI zar (zaa (i:=7) (by rfl)) zaA zg3) (zd2 rfl (zaa (i:=1) (by rfl)) (zaa (i:=7) (by rfl))) (zq5 D0 (by kernel_rfl) (NG _ (by right)) (by right) (by right) (zak (zsS (zaI zar (zaa (i:=8) (by rfl)) zaA zg3) (zaa (i:=8) (by rfl)) (zas (zaa (i:=8) (by rfl)) zaA zal)) zav) zkx)) (by rfl)) zam))) zam)))))
@[reducible]noncomputable def zeI:PS:=(zay 2 (zfq ziq (zae 2) zgG (zih (zag (.int 40)))))
theorem zkt(TB:zaB S (zaz za7)):zba S zbw ((zah p8 28).getD 4 default) (zeI):=(zax (i:=2) (by rfl) (zit (zaa (i:=2) (by rfl)) zhi (zaN zaA)))
@[reducible]noncomputable def zeF:PS:=(zay 9 (pe2 (pe2 (pe1 (zae 2) zmy) (zag (.int 1)) zdb) (zag (.int 2)) zkN))
theorem zlh(TB:zaB S (zaz za7)):zba S zbw ((zah p8 28).getD 5 default) (zeF):=(zax (i:=9) (by rfl) (zas (zas (zcG D0 (by kernel_rfl) (NG _ (by right)) (by right) (by right) (zaa (i:=2) (by rfl)) zbX) zaA zal) zaA zff))
@[reducible]noncomputable def zeC:PS:=(zbT (pe2 (pe2 (pe2 (zag (.str [10,34,34,34])) (zdg (zag (.str [])) (zab (zfq ziq (zae 2) zgG (zih (zae 9))) zaj) ztE) zdb) (zag (.str [34,34,34,34])) zdb) (zdg (zag (.str [])) (zab (zfq ziq (zae 2) (zih (zae 9)) zgG) zaj) ztE) zdb))
theorem zkr(TB:zaB S (zaz za7)):zba S zbw ((zah p8 28).getD 6 default) (zeC):=(zbD (zas (zas (zas (zaJ (by rfl)) (by(refine zcP ?_ ?_ zmt (λh=>GM.join h) ?_ ?_ ?_);(exact(zaJ (by rfl)));(exact(zak (zit (zaa (i:=2) (by rfl)) zhi (zaN (zaa (i:=9) (by rfl)))) zav));(rfl);(intro;kernel_rfl);(intro;kernel_rfl)) zal) (zaJ (by rfl)) zal) (by(refine zcP ?_ ?_ zmt (λh=>GM.join h) ?_ ?_ ?_);(exact(zaJ (by rfl)));(exact(zak (zit (zaa (i:=2) (by rfl)) (zaN (zaa (i:=9) (by rfl))) zhi) zav));(rfl);(intro;kernel_rfl);(intro;kernel_rfl)) zal))
end
theorem znd:zah p8 28=[(zah p8 28).getD 0 default,(zah p8 28).getD 1 default,(zah p8 28).getD 2 default,(zah p8 28).getD 3 default,(zah p8 28).getD 4 default,(zah p8 28).getD 5 default,(zah p8 28).getD 6 default]:=by kernel_rfl
@[reducible]noncomputable def zfV:PS:=(zaf (zgw) (zaf (zgx) (zaf (zgl) (zaf (zgt) (zaf (zeI) (zaf (zeF) (zaf (zeC) zap)))))))
section
variable{S:St0}(D0:Std S)(NG:NoG S)(G:Gl S zf6)(E0:zaw S)(N0:ClsAt S.mg S.base)
include D0 NG G E0 N0
theorem zm4(TB:zaB S (zaz za7)):zaV S zbw (zah p8 28) (zfV):=by
 have h0:=@zli S D0 NG G E0 N0 TB;have h1:=@zk6 S D0 NG G E0 N0 TB;have h2:=@zj4 S D0 NG G E0 N0 TB;have h3:=@zlf S D0 NG G E0 N0 TB;have h4:=@zkt S D0 NG G E0 N0 TB;have h5:=@zlh S D0 NG G E0 N0 TB;have h6:=@zkr S D0 NG G E0 N0 TB;rw[znd];generalize (zah p8 28).getD 0 default=t0 at h0⊢;generalize (zah p8 28).getD 1 default=t1 at h1⊢;generalize (zah p8 28).getD 2 default=t2 at h2⊢;generalize (zah p8 28).getD 3 default=t3 at h3⊢;generalize (zah p8 28).getD 4 default=t4 at h4⊢;generalize (zah p8 28).getD 5 default=t5 at h5⊢;generalize (zah p8 28).getD 6 default=t6 at h6⊢;exact(zac h0 (zac h1 (zac h2 (zac h3 (zac h4 (zac h5 (zac h6 zam)))))))
noncomputable def zcF:zai:=⟨zau p8 29,[ofString "text",ofString "place",ofString "rows"],100,false,false,[]⟩
@[reducible]noncomputable def zfJ:PS:=(zeR (zcO (pe2 (zae 1) (pe1 (zae 0) zmy) (zll λx y=>decide (x ≥ y)))) (zaf (zbT (zag (.str [32,40,97,116,32,101,110,100,32,111,102,32,100,111,99,117,109,101,110,116,41]))) zap) zap)
theorem zi7(TB:zaB S (zaz zbx)):zba S zcF ((zah p8 29).getD 0 default) (zfJ):=(zde (zaI zar (zaa (i:=1) (by rfl)) (zcG D0 (by kernel_rfl) (NG _ (by right)) (by right) (by right) (zaa (i:=0) (by rfl)) zbX) zkH) (zac (zbD (zaJ (by rfl))) zam) zam)
@[reducible]noncomputable def zfM:PS:=(zay 2 (zdg (zcQ (zae 0) zgG (zih (zae 1))) (zab (zag (.str [10])) zaj) zof))
theorem zja(TB:zaB S (zaz zbx)):zba S zcF ((zah p8 29).getD 1 default) (zfM):=(zax (i:=2) (by rfl) (zcP (zcp (zaa (i:=0) (by rfl)) zhi (zaN (zaa (i:=1) (by rfl)))) (zak (zaJ (by rfl)) zav) zjU (λh=>GM.split h) (by rfl)))
@[reducible]noncomputable def zfG:PS:=(zbT (pe2 (pe2 (pe2 (pe2 (zag (.str [32,40,97,116,32,108,105,110,101,32])) (peN (zab (pe1 (zae 2) zmy) zaj) zy5) zdb) (zag (.str [44,32,99,111,108,117,109,110,32])) zdb) (peN (zab (pe2 (pe1 (zgR (zae 2) (pe1 (zag (.int 1)) zuZ)) zmy) (zag (.int 1)) zdb) zaj) zy5) zdb) (zag (.str [41])) zdb))
theorem zjb(TB:zaB S (zaz zbx)):zba S zcF ((zah p8 29).getD 2 default) (zfG):=(zbD (zas (zas (zas (zas (zaJ (by rfl)) (zgh D0 (by kernel_rfl) (NG _ (by right)) (by right) (by right) (zak (zcG D0 (by kernel_rfl) (NG _ (by right)) (by right) (by right) (zaa (i:=2) (by rfl)) zbX) zav) znG) zal) (zaJ (by rfl)) zal) (zgh D0 (by kernel_rfl) (NG _ (by right)) (by right) (by right) (zak (zas (zcG D0 (by kernel_rfl) (NG _ (by right)) (by right) (by right) (zhR (zaa (i:=2) (by rfl)) (zsb zaA zgA)) zbX) zaA zal) zav) znG) zal) (zaJ (by rfl)) zal))
end
theorem zlZ:zah p8 29=[(zah p8 29).getD 0 default,(zah p8 29).getD 1 default,(zah p8 29).getD 2 default]:=by kernel_rfl
@[reducible]noncomputable def zfb:PS:=(zaf (zfJ) (zaf (zfM) (zaf (zfG) zap)))
section
variable{S:St0}(D0:Std S)(NG:NoG S)(G:Gl S zf6)(E0:zaw S)(N0:ClsAt S.mg S.base)
include D0 NG G E0 N0
theorem zmp(TB:zaB S (zaz zbx)):zaV S zcF (zah p8 29) (zfb):=by
 have h0:=@zi7 S D0 NG G E0 N0 TB;have h1:=@zja S D0 NG G E0 N0 TB;have h2:=@zjb S D0 NG G E0 N0 TB;rw[zlZ];generalize (zah p8 29).getD 0 default=t0 at h0⊢;generalize (zah p8 29).getD 1 default=t1 at h1⊢;generalize (zah p8 29).getD 2 default=t2 at h2⊢;exact(zac h0 (zac h1 (zac h2 zam)))
noncomputable def zcT:zai:=⟨zau p8 30,[ofString "text",ofString "first",ofString "feed",ofString "void",ofString "row",ofString "at",ofString "done",ofString "turn",ofString "error",ofString "more",ofString "end",ofString "piece",ofString "spot",ofString "slash",ofString "gap",ofString "words",ofString "where"],110,true,false,[]⟩
@[reducible]noncomputable def zhr(n:Nat):PS:=(zay 4 (pe2 (zag (.str [34])) (zrk n (zcQ (zae 0) (zih (zae 1)) zgG) [10] (zae 2)) zdb))
theorem zlw(TB:zaB S (zaz zdq))(n:Nat)(hn0:0<n):ziB n S zcT ((zah p8 30).getD 0 default) (zhr n):=(zpr (i:=4) (by rfl) (zp0 (zat.t (zaJ (by rfl))) (zsY (zat.t (zcp (zaa (i:=0) (by rfl)) (zaN (zaa (i:=1) (by rfl))) zhi)) (zaa (i:=2) (by rfl)) (by rfl) (by rfl) (by intro;kernel_rfl) (by intro;kernel_rfl) (by intro;kernel_rfl) (by intro;rfl)) zal) (by intro;kernel_rfl))
@[reducible]noncomputable def zhv(n:Nat):PS:=(zeH [5,6] (zev (zab (zag (.int 0)) (zab (zag (.str [])) zaj))))
theorem zlW(TB:zaB S (zaz zdq))(n:Nat)(hn0:0<n):zba S zcT ((zah p8 30).getD 1 default) (zhv n):=(zoG rfl (zbn.cons (i:=5) (by rfl) (zbn.cons (i:=6) (by rfl) zbn.nil)) (zeK (zak zaA (zak (zaJ (by rfl)) zav))) (λa f=>by unfold swappedStores Env.blockKind Env.kindOf;rw[f.scope];kernel_rfl))
@[reducible]noncomputable def zdo(n:Nat):PS:=(zmk [15,16] (zdg (peN (zab (zae 8) zaj) zzg) (zab (zag (.str [32,40,97,116,32])) zaj) zof))
@[reducible]noncomputable def zdj(n:Nat):PS:=(zay 12 (zyi (zcO (pe2 (zae 16) (zag (.str [101,110,100,32,111,102,32,100,111,99,117,109,101,110,116,41])) eqP)) (pe1 (zae 4) zmy) (pe2 (peN (zab (zcQ (zae 16) (zih (zag (.int 15))) (zih (pe1 (zag (.int 1)) zuZ))) zaj) intD) (zag (.int 1)) zpK)))
@[reducible]noncomputable def zeG(n:Nat):PS:=(zeR (zcO (pe2 (zae 15) (zag (.str [85,110,101,115,99,97,112,101,100,32,39,92,39,32,105,110,32,97,32,115,116,114,105,110,103])) neP)) (zaf (zbT (zgX (zab (pe2 (zae 15) (peK zcz (zab (zae 0) (zab (pe2 (pe2 (zae 1) (zag (.int 1)) zpK) (zae 12) zdb) zaj)) zaj) zdb) zaj))) zap) zap)
@[reducible]noncomputable def zgJ(n:Nat):PS:=(zay 13 (zdg (zae 4) (zab (zag (.str [92])) (zab (zag (.int 0)) (zab (zae 12) zaj))) (zg6 false)))
@[reducible]noncomputable def zgC(n:Nat):PS:=(zay 14 (pe2 (zae 13) (zag (.int 1)) zdb))
@[reducible]noncomputable def zku(n:Nat):PS:=(zdk 14 (zag (.int 1)) zdB)
@[reducible]noncomputable def zgH(n:Nat):PS:=(zdA (zfY (zcO (pe2 (zae 14) (pe1 (zae 4) zmy) (zll λx y=>decide (x<y)))) (zfY (zcO (pe2 (zgR (zae 4) (zae 14)) (zag (.str [32,9])) inD)) (zjd true))) (zaf (zku n) zap))
@[reducible]noncomputable def zkg(n:Nat):PS:=(zdk 14 (zag (.int 1)) zdB)
@[reducible]noncomputable def zkj(n:Nat):PS:=(zdA (zfY (zcO (pe2 (zae 14) (pe1 (zae 4) zmy) (zll λx y=>decide (x<y)))) (zfY (zcO (pe2 (zgR (zae 4) (zae 14)) (pe2 (zag (.str [32,9])) (znx (zae 2)) zdb) inD)) (zjd true))) (zaf (zkg n) zap))
@[reducible]noncomputable def zkR(n:Nat):PS:=(zay 4 (pe2 (pe2 (zcQ (zae 4) zgG (zih (zae 13))) (pe2 (znx (zae 3)) (pe2 (zae 14) (zae 13) zpK) zxh) zdb) (zcQ (zae 4) (zih (zae 14)) zgG) zdb))
@[reducible]noncomputable def zi9(n:Nat):PS:=znR
@[reducible]noncomputable def zdU(n:Nat):PS:=(zeR (zfY (zcO (pe2 (zae 14) (pe1 (zae 4) zmy) (zll λx y=>decide (x<y)))) (zfY (zcO (pe2 (zgR (zae 4) (zae 14)) (znx (zae 2)) eqP)) (zjd true))) (zaf (zkj n) (zaf (zkR n) (zaf (zi9 n) zap))) zap)
@[reducible]noncomputable def zfE(n:Nat):PS:=(zeR (zcO (pe2 (zae 14) (pe2 (zae 13) (zag (.int 1)) zdb) eqP)) (zaf (zbT (zgX (zab (pe2 (zae 15) (peK zcz (zab (zae 0) (zab (pe2 (pe2 (zae 1) (zag (.int 1)) zpK) (zae 12) zdb) zaj)) zaj) zdb) zaj))) zap) zap)
@[reducible]noncomputable def zfD(n:Nat):PS:=(zeR (zcO (pe2 (zae 14) (pe1 (zae 4) zmy) eqP)) (zaf (zbT (zgX (zab (zag (.str [85,110,116,101,114,109,105,110,97,116,101,100,32,115,116,114,105,110,103,32,40,97,116,32,101,110,100,32,111,102,32,100,111,99,117,109,101,110,116,41])) zaj))) zap) zap)
@[reducible]noncomputable def zfC(n:Nat):PS:=(zbT (zgX (zab (pe2 (zae 15) (peK zcz (zab (zae 0) (zab (pe2 (pe2 (zae 1) (zag (.int 1)) zpK) (zae 14) zdb) zaj)) zaj) zdb) zaj)))
@[reducible]noncomputable def zdZ(n:Nat):PS:=(zl4 (zaf (zeH [10,11] (peK za6 (zab (zae 4) (zab (zae 5) zaj)) zaj)) zap) [⟨.toml,some 8,(zaf (zdo n) (zaf (zdj n) (zaf (zeG n) (zaf (zgJ n) (zaf (zgC n) (zaf (zgH n) (zaf (zdU n) (zaf (zfE n) (zaf (zfD n) (zaf (zfC n) zap))))))))))⟩])
@[reducible]noncomputable def zck(n:Nat):PS:=(zdk 6 (zae 11) zdB)
@[reducible]noncomputable def zfL(n:Nat):PS:=(zay 9 (zag (.int 0)))
@[reducible]noncomputable def zjl(n:Nat):PS:=(zdk 9 (zag (.int 1)) zdB)
@[reducible]noncomputable def zfH(n:Nat):PS:=(zdA (zfY (zcO (pe2 (zae 9) (zag (.int 2)) (zll λx y=>decide (x<y)))) (zfY (zcO (zdg (zae 4) (zab (zag (.str [34])) (zab (pe2 (pe2 (zae 10) (zag (.int 2)) zdb) (zae 9) zdb) zaj)) zdY)) (zjd true))) (zaf (zjl n) zap))
@[reducible]noncomputable def zi1(n:Nat):PS:=(zbT (zev (zab (pe2 (pe2 (pe2 (zae 1) (zae 10) zdb) (zag (.int 1)) zdb) (zae 9) zdb) (zab (pe2 (zm8 n (zm8 n (zae 6) (zae 3) []) (zae 2) [10]) (pe2 (zag (.str [34])) (zae 9) zxh) zdb) zaj))))
@[reducible]noncomputable def zce(n:Nat):PS:=(zeR (zcO (zdg (zae 4) (zab (zag (.str [34,34,34])) (zab (pe2 (zae 10) (zag (.int 1)) zpK) zaj)) zdY)) (zaf (zfL n) (zaf (zfH n) (zaf (zi1 n) zap))) zap)
@[reducible]noncomputable def zci(n:Nat):PS:=(zdk 6 (zag (.str [34])) zdB)
@[reducible]noncomputable def zch(n:Nat):PS:=(zay 5 (pe2 (zae 10) (zag (.int 1)) zpK))
@[reducible]noncomputable def zhl(n:Nat):PS:=(zk4 7 (peN (zab (pe2 (pe2 (zag (.int 2)) (pe1 (zae 0) zmy) zxf) (zag (.int 9)) zdb) zaj) zjE) (zaf (zdZ n) (zaf (zck n) (zaf (zce n) (zaf (zci n) (zaf (zch n) zap))))))
theorem zlU(TB:zaB S (zaz zdq))(n:Nat)(hn0:0<n):ziB n S zcT ((zah p8 30).getD 2 default) (zhl n):=(zkA (i:=7) rfl (by rfl) (zat.t (zgh D0 (by kernel_rfl) (NG _ (by right)) (by right) (by right) (zak (zas (zas zaA (zcG D0 (by kernel_rfl) (NG _ (by right)) (by right) (by right) (zaa (i:=0) (by rfl)) zbX) zgD) zaA zal) zav) zgM)) (zaW (zba.t (zjA D0 (zac (zii rfl (zbn.cons (i:=10) (by rfl) (zbn.cons (i:=11) (by rfl) zbn.nil)) (zkI D0 G TB (c:=zbs) (by kernel_rfl) (by kernel_rfl) rfl rfl (by decide) (by decide) (by kernel_rfl) (by right) (zak (zaa (i:=4) (by rfl)) (zak (zaa (i:=5) (by rfl)) zav)) KwS.nil)) zam) (zlN.cons (HdS.named (T:=.toml) (i:=8) (by kernel_rfl) (λh=>absurd rfl h) (by rfl) (zac (zpC (zbn.cons (i:=15) (by rfl) (zbn.cons (i:=16) (by rfl) zbn.nil)) (zcP (zgh D0 (by kernel_rfl) (NG _ (by right)) (by right) (by right) (zak (zaa (i:=8) (by rfl)) zav) (zlM D0 N0)) (zak (zaJ (by rfl)) zav) zjU (λh=>GM.split h) (by rfl))) (zac (zax (i:=12) (by rfl) (zsS (zaI zar (zaa (i:=16) (by rfl)) (zaJ (by rfl)) zdV) (zcG D0 (by kernel_rfl) (NG _ (by right)) (by right) (by right) (zaa (i:=4) (by rfl)) zbX) (zas (zgh D0 (by kernel_rfl) (NG _ (by right)) (by right) (by right) (zak (zcp (zaa (i:=16) (by rfl)) (zaN zaA) (zaN (zsb zaA zgA))) zav) zop) zaA zdn))) (zac (zde (zaI zar (zaa (i:=15) (by rfl)) (zaJ (by rfl)) ziC) (zac (zbD (zeZ (zak (zas (zaa (i:=15) (by rfl)) (zkI D0 G TB (c:=zct) (by kernel_rfl) (by kernel_rfl) rfl rfl (by decide) (by decide) (by kernel_rfl) (by right) (zak (zaa (i:=0) (by rfl)) (zak (zas (zas (zaa (i:=1) (by rfl)) zaA zdn) (zaa (i:=12) (by rfl)) zal) zav)) KwS.nil) zal) zav))) zam) zam) (zac (zax (i:=13) (by rfl) (zcP (zaa (i:=4) (by rfl)) (by(refine zak ?_ ?_);(exact(zaJ (by rfl)));(exact(zak zaA (zak (zaa (i:=12) (by rfl)) zav)))) zix (λh=>GM.rindex h) (by rfl))) (zac (zax (i:=14) (by rfl) (zas (zaa (i:=13) (by rfl)) zaA zal)) (zac (zfk (zco (zaI zar (zaa (i:=14) (by rfl)) (zcG D0 (by kernel_rfl) (NG _ (by right)) (by right) (by right) (zaa (i:=4) (by rfl)) zbX) zg3) (zco (zaI zar (zhR (zaa (i:=4) (by rfl)) (zaa (i:=14) (by rfl))) (zaJ (by rfl)) zkJ) zej)) (zac (zcy (i:=14) (by rfl) zaA zaM) zam)) (zac (zde (zco (zaI zar (zaa (i:=14) (by rfl)) (zcG D0 (by kernel_rfl) (NG _ (by right)) (by right) (by right) (zaa (i:=4) (by rfl)) zbX) zg3) (zco (zaI zar (zhR (zaa (i:=4) (by rfl)) (zaa (i:=14) (by rfl))) (znv (zaa (i:=2) (by rfl))) zdV) zej)) (zac (zfk (zco (zaI zar (zaa (i:=14) (by rfl)) (zcG D0 (by kernel_rfl) (NG _ (by right)) (by right) (by right) (zaa (i:=4) (by rfl)) zbX) zg3) (zco (zaI zar (zhR (zaa (i:=4) (by rfl)) (zaa (i:=14) (by rfl))) (zas (zaJ (by rfl)) (znv (zaa (i:=2) (by rfl))) zal) zkJ) zej)) (zac (zcy (i:=14) (by rfl) zaA zaM) zam)) (zac (zax (i:=4) (by rfl) (zas (zas (zcp (zaa (i:=4) (by rfl)) zhi (zaN (zaa (i:=13) (by rfl)))) (zas (znv (zaa (i:=3) (by rfl))) (zas (zaa (i:=14) (by rfl)) (zaa (i:=13) (by rfl)) zdn) zlj) zal) (zcp (zaa (i:=4) (by rfl)) (zaN (zaa (i:=14) (by rfl))) zhi) zal)) (zac zro zam))) zam) (zac (zde (zaI zar (zaa (i:=14) (by rfl)) (zas (zaa (i:=13) (by rfl)) zaA zal) zdV) (zac (zbD (zeZ (zak (zas (zaa (i:=15) (by rfl)) (zkI D0 G TB (c:=zct) (by kernel_rfl) (by kernel_rfl) rfl rfl (by decide) (by decide) (by kernel_rfl) (by right) (zak (zaa (i:=0) (by rfl)) (zak (zas (zas (zaa (i:=1) (by rfl)) zaA zdn) (zaa (i:=12) (by rfl)) zal) zav)) KwS.nil) zal) zav))) zam) zam) (zac (zde (zaI zar (zaa (i:=14) (by rfl)) (zcG D0 (by kernel_rfl) (NG _ (by right)) (by right) (by right) (zaa (i:=4) (by rfl)) zbX) zdV) (zac (zbD (zeZ (zak (zaJ (by rfl)) zav))) zam) zam) (zac (zbD (zeZ (zak (zas (zaa (i:=15) (by rfl)) (zkI D0 G TB (c:=zct) (by kernel_rfl) (by kernel_rfl) rfl rfl (by decide) (by decide) (by kernel_rfl) (by right) (zak (zaa (i:=0) (by rfl)) (zak (zas (zas (zaa (i:=1) (by rfl)) zaA zdn) (zaa (i:=14) (by rfl)) zal) zav)) KwS.nil) zal) zav))) zam))))))))))) zlN.nil))) (zaW (zba.t (zcy (i:=6) (by rfl) (zaa (i:=11) (by rfl)) zaM)) (zaW (zpQ (zdp.t (zbh zar (by(refine zcP ?_ ?_ zcR (λh=>GM.startswith h) ?_ ?_ ?_);(exact(zaa (i:=4) (by rfl)));(exact(zak (zaJ (by rfl)) (zak (zas (zaa (i:=10) (by rfl)) zaA zdn) zav)));(rfl);(intro;kernel_rfl);(intro;kernel_rfl)))) (zaW (zba.t (zax (i:=9) (by rfl) zaA)) (zaW (zba.t (zfk (zco (zaI zar (zaa (i:=9) (by rfl)) zaA zg3) (zco (zbh zar (by(refine zcP ?_ ?_ zcR (λh=>GM.startswith h) ?_ ?_ ?_);(exact(zaa (i:=4) (by rfl)));(exact(zak (zaJ (by rfl)) (zak (zas (zas (zaa (i:=10) (by rfl)) zaA zal) (zaa (i:=9) (by rfl)) zal) zav)));(rfl);(intro;kernel_rfl);(intro;kernel_rfl))) zej)) (zac (zcy (i:=9) (by rfl) zaA zaM) zam))) (zaW (zrA (zrf (ziv (zat.t (zas (zas (zas (zaa (i:=1) (by rfl)) (zaa (i:=10) (by rfl)) zal) zaA zal) (zaa (i:=9) (by rfl)) zal)) (ziv (zp0 (zoj (zoj (zat.t (zaa (i:=6) (by rfl))) (zaa (i:=3) (by rfl)) (by rfl) (by rfl) (by intro;kernel_rfl) (by intro;kernel_rfl) (by intro;kernel_rfl) (by intro;rfl)) (zaa (i:=2) (by rfl)) (by rfl) (by rfl) (by intro;kernel_rfl) (by intro;kernel_rfl) (by intro;kernel_rfl) (by intro;rfl)) (zat.t (zas (zaJ (by rfl)) (zaa (i:=9) (by rfl)) zlj)) zal) (zb0.t zav) (by intro;rfl)) (by intro;rfl)))) (zaV.t zam)))) (zaV.t zam)) (zaV.t (zac (zcy (i:=6) (by rfl) (zaJ (by rfl)) zaM) (zac (zax (i:=5) (by rfl) (zas (zaa (i:=10) (by rfl)) zaA zdn)) zam)))))) (by intros;rfl))
@[reducible]noncomputable def zhw(n:Nat):PS:=(zbT (zgX zaj))
theorem zl1(TB:zaB S (zaz zdq))(n:Nat)(hn0:0<n):zba S zcT ((zah p8 30).getD 3 default) (zhw n):=(zbD (zeZ zav))
end
theorem zph:zah p8 30=[(zah p8 30).getD 0 default,(zah p8 30).getD 1 default,(zah p8 30).getD 2 default,(zah p8 30).getD 3 default]:=by kernel_rfl
@[reducible]noncomputable def zhe(n:Nat):PS:=(zaf (zhr n) (zaf (zhv n) (zaf (zhl n) (zaf (zhw n) zap))))
section
variable{S:St0}(D0:Std S)(NG:NoG S)(G:Gl S zf6)(E0:zaw S)(N0:ClsAt S.mg S.base)
include D0 NG G E0 N0
theorem zpc(TB:zaB S (zaz zdq))(n:Nat)(hn0:0<n):zc2 n S zcT (zah p8 30) (zhe n):=by
 have h0:=@zlw S D0 NG G E0 N0 TB n hn0;have h1:=@zlW S D0 NG G E0 N0 TB n hn0;have h2:=@zlU S D0 NG G E0 N0 TB n hn0;have h3:=@zl1 S D0 NG G E0 N0 TB n hn0;rw[zph];generalize (zah p8 30).getD 0 default=t0 at h0⊢;generalize (zah p8 30).getD 1 default=t1 at h1⊢;generalize (zah p8 30).getD 2 default=t2 at h2⊢;generalize (zah p8 30).getD 3 default=t3 at h3⊢;exact(zaW h0 (zaW (zba.t h1) (zaW h2 (zaW (zba.t h3) (zaV.t zam)))))
noncomputable def zgE:zai:=⟨zau p8 31,[ofString "script",ofString "text",ofString "foreign",ofString "figures",ofString "n",ofString "spelled",ofString "place",ofString "part",ofString "error",ofString "first",ofString "told"],120,true,false,[]⟩
@[reducible]noncomputable def zrV:PS:=(zay 1 (peC (zaz zgQ) 120 true (zag zin) (zab (zae 0) zaj) [] zaj))
theorem zwi(TB:zaB S (zaz zgQ)):zba S zgE ((zah p8 31).getD 0 default) (zrV):=(zax (i:=1) (by rfl) (zAw rfl rfl TB (zsL D0 G (by kernel_rfl) (by rfl) (by rfl) (by right)) (zak (zaa (i:=0) (by rfl)) zav) KwS.nil))
@[reducible]noncomputable def zrt:PS:=(zmr [3,2] [none,some (zag (.str [48,49,50,51,52,53,54,55,56,57,97,98,99,100,101,102]))])
theorem zws(TB:zaB S (zaz zgQ)):zba S zgE ((zah p8 31).getD 1 default) (zrt):=(zoM (names:=[ofString "foreign",ofString "figures"]) rfl (zdt.cons (i:=3) (by rfl) (zdt.cons (i:=2) (by rfl) zdt.nil)) (zsy.lst (zsy.ex (zaJ (by rfl)) (by intro;rfl) zsy.nil)) (λa f=>by unfold swappedStores Env.blockKind Env.kindOf;rw[f.scope];kernel_rfl))
@[reducible]noncomputable def zk5:PS:=(zay 5 (pe2 (pe2 (pe2 (zeY (zae 3) (pe2 (zae 4) (zag (.int 4096)) zkN)) (zeY (zae 3) (pe2 (pe2 (zae 4) (zag (.int 256)) zkN) (zag (.int 16)) zrB)) zdb) (zeY (zae 3) (pe2 (pe2 (zae 4) (zag (.int 16)) zkN) (zag (.int 16)) zrB)) zdb) (zeY (zae 3) (pe2 (zae 4) (zag (.int 16)) zrB)) zdb))
@[reducible]noncomputable def zkX:PS:=(zeR (zfY (zcO (pe2 (peN (zab (zae 4) zaj) zzb) (zae 1) zy4)) (zfY (zcO (pe2 (zae 5) (zqH (zae 1)) zy4)) (zjd true))) (zaf (zfp 2 (zuM (zab (zae 4) zaj))) zap) zap)
@[reducible]noncomputable def zok:PS:=(zk4 4 (peN (zab (zag (.int 19968)) (zab (pe2 (zag (.int 19970)) (pe2 (zag (.int 2)) (pe1 (zae 1) zmy) zxf) zdb) zaj)) zjE) (zaf zk5 (zaf zkX zap)))
theorem zuI(TB:zaB S (zaz zgQ)):zmW (JL 2) S zgE ((zah p8 31).getD 2 default) zok:=(zqM (i:=4) (zvM (i:=2) (j:=4) (by decide)) rfl (by rfl) (λa ow st s Q X _ f R q=>(zgh D0 (by kernel_rfl) (NG _ (by right)) (by right) (by right) (zak zaA (zak (zas zaA (zas zaA (zcG D0 (by kernel_rfl) (NG _ (by right)) (by right) (by right) (zaa (i:=1) (by rfl)) zbX) zgD) zal) zav)) zgM) a ow st s Q X f R q) (zif (zpA (i:=5) (zvM (i:=2) (j:=5) (by decide)) (λ_ _ _ x=>x.set (by decide)) (by rfl) (zas (zas (zas (zd2 rfl (zaa (i:=3) (by rfl)) (zas (zaa (i:=4) (by rfl)) zaA zff)) (zd2 rfl (zaa (i:=3) (by rfl)) (zas (zas (zaa (i:=4) (by rfl)) zaA zff) zaA zdS)) zal) (zd2 rfl (zaa (i:=3) (by rfl)) (zas (zas (zaa (i:=4) (by rfl)) zaA zff) zaA zdS)) zal) (zd2 rfl (zaa (i:=3) (by rfl)) (zas (zaa (i:=4) (by rfl)) zaA zdS)) zal) (by intro;rfl)) (zif (zyg (zvM (i:=2) (j:=3) (by decide)) (zco (zaI zar (zq5 D0 (by kernel_rfl) (NG _ (by right)) (by right) (by right) (zak (zaa (i:=4) (by rfl)) zav) zkx) (zaa (i:=1) (by rfl)) zos) (zco (zaI zar (zaa (i:=5) (by rfl)) (ztG (zaa (i:=1) (by rfl)) (by rfl)) zos) zej)) (zif (zoE (i:=2) (by rfl) (zwK D0 (by kernel_rfl) (NG _ (by right)) (by right) (by right) (zak (zaa (i:=4) (by rfl)) zav) (by intro;rfl) (by intro;rfl) (by right)) (by rfl) (by intro;rfl) (by decide)) zky) zky) zky)) (by intros;rfl))
@[reducible]noncomputable def znK(n:Nat):PS:=(zl4 (zaf (zay 10 (peK zbo (zab (zae 7) (zab (zae 6) zaj)) (zab (zag (.bool false)) zaj))) zap) [⟨.toml,some 8,(zaf (zay 10 (zgX (zab (peN (zab (zae 8) zaj) zzg) zaj))) zap)⟩])
@[reducible]noncomputable def zlg(n:Nat):PS:=(zay 9 (pe2 (zae 6) (zag (.int 3)) zdb))
@[reducible]noncomputable def zkG(n:Nat):PS:=(zeR (zcO (pe2 (zcQ (zae 7) (zih (zae 9)) (zih (pe2 (zae 9) (zag (.int 1)) zdb))) (zag (.str [10])) eqP)) (zaf (zdk 9 (zag (.int 1)) zdB) zap) zap)
@[reducible]noncomputable def zki(n:Nat):PS:=(zeR (zcO (pe2 (zae 10) (peK (zft n) (zab (zae 7) (zab (zae 9) (zab (zeY (zae 2) (zag (.int 0))) (zab (zeY (zae 2) (zag (.int 1))) zaj)))) zaj) neP)) (zaf (zbT (zag (.bool false))) zap) zap)
@[reducible]noncomputable def zkn(n:Nat):PS:=(zk4 7 (zev (zab (zae 1) (zab (zcQ (zae 1) zgG (zih (pe2 (pe2 (zae 6) (zag (.int 3)) zdb) (pe2 (zae 6) (zag (.int 8)) zrB) zdb))) zaj))) (zaf (znK n) (zaf (zlg n) (zaf (zkG n) (zaf (zki n) zap)))))
@[reducible]noncomputable def zrU(n:Nat):PS:=(zk4 6 (peN (zab (pe2 (pe1 (zae 1) zmy) (zag (.int 2)) zdb) zaj) zjE) (zaf (zkn n) zap))
theorem zv1(TB:zaB S (zaz zgQ))(n:Nat)(hn0:0<n)(TN:∀n,0<n->zc4 n S (zaz (zjT n))):ziB n S zgE ((zah p8 31).getD 3 default) (zrU n):=(zkA (i:=6) rfl (by rfl) (zat.t (zgh D0 (by kernel_rfl) (NG _ (by right)) (by right) (by right) (zak (zas (zcG D0 (by kernel_rfl) (NG _ (by right)) (by right) (by right) (zaa (i:=1) (by rfl)) zbX) zaA zal) zav) zgM)) (zaW (zkA (i:=7) rfl (by rfl) (zat.t (zeK (zak (zaa (i:=1) (by rfl)) (zak (zcp (zaa (i:=1) (by rfl)) zhi (zaN (zas (zas (zaa (i:=6) (by rfl)) zaA zal) (zas (zaa (i:=6) (by rfl)) zaA zdS) zal))) zav)))) (zaW (zba.t (zjA D0 (zac (zax (i:=10) (by rfl) (zkI D0 G TB (c:=zbS) (by kernel_rfl) (by kernel_rfl) rfl rfl (by decide) (by decide) (by kernel_rfl) (by right) (zak (zaa (i:=7) (by rfl)) (zak (zaa (i:=6) (by rfl)) zav)) (KwS.cons ziJ KwS.nil))) zam) (zlN.cons (HdS.named (T:=.toml) (i:=8) (by kernel_rfl) (λh=>absurd rfl h) (by rfl) (zac (zax (i:=10) (by rfl) (zeZ (zak (zgh D0 (by kernel_rfl) (NG _ (by right)) (by right) (by right) (zak (zaa (i:=8) (by rfl)) zav) (zlM D0 N0)) zav))) zam)) zlN.nil))) (zaW (zba.t (zax (i:=9) (by rfl) (zas (zaa (i:=6) (by rfl)) zaA zal))) (zaW (zba.t (zde (zaI zar (zcp (zaa (i:=7) (by rfl)) (zaN (zaa (i:=9) (by rfl))) (zaN (zas (zaa (i:=9) (by rfl)) zaA zal))) (zaJ (by rfl)) zdV) (zac (zcy (i:=9) (by rfl) zaA zaM) zam) zam)) (zaW (zpQ (zlJ zar (zat.t (zaa (i:=10) (by rfl))) (zx1 D0 G (TN n hn0) (c:=zgW n) (by kernel_rfl) (by kernel_rfl) rfl rfl (zds rfl) (λ_=>rfl) (by kernel_rfl) (by right) (zb0.t (by(refine zak ?_ ?_);(exact(zaa (i:=7) (by rfl)));(exact(by(refine zak ?_ ?_);(exact(zaa (i:=9) (by rfl)));(exact(zak (zd2 rfl (zaa (i:=2) (by rfl)) zaA) (zak (zd2 rfl (zaa (i:=2) (by rfl)) zaA) zav))))))) KwS.nil (by intro;rfl)) ziC (by with_unfolding_all rfl)) (zaV.t (zac (zbD ziJ) zam)) (zaV.t zam)) (zaV.t zam))))) (by intros;rfl)) (zaV.t zam)) (by intros;rfl))
@[reducible]noncomputable def zsp(n:Nat):PS:=(zbT (zag (.bool true)))
theorem zwN(TB:zaB S (zaz zgQ))(n:Nat)(hn0:0<n):zba S zgE ((zah p8 31).getD 4 default) (zsp n):=(zbD ziJ)
end
theorem zzv:zah p8 31=[(zah p8 31).getD 0 default,(zah p8 31).getD 1 default,(zah p8 31).getD 2 default,(zah p8 31).getD 3 default,(zah p8 31).getD 4 default]:=by kernel_rfl
@[reducible]noncomputable def znr(n:Nat):PS:=(zaf (zrU n) (zaf (zsp n) zap))
@[reducible]noncomputable def zmE:PS:=zuN 2 zok znr
@[reducible]noncomputable def zwL:PS:=(zaf (zrV) (zaf (zrt) zmE))
section
variable{S:St0}(D0:Std S)(NG:NoG S)(G:Gl S zf6)(E0:zaw S)(N0:ClsAt S.mg S.base)
include D0 NG G E0 N0
theorem zvI(TB:zaB S (zaz zgQ))(TN:∀n,0<n->zc4 n S (zaz (zjT n)))(n:Nat)(hn0:0<n):zc2 n S zgE [(zah p8 31).getD 3 default,(zah p8 31).getD 4 default] (znr n):=by
 have h3:=@zv1 S D0 NG G E0 N0 TB n hn0 TN;have h4:=@zwN S D0 NG G E0 N0 TB n hn0;generalize (zah p8 31).getD 3 default=t3 at h3⊢;generalize (zah p8 31).getD 4 default=t4 at h4⊢;exact(zaW h3 (zaW (zba.t h4) (zaV.t zam)))
theorem zwn(TB:zaB S (zaz zgQ))(TN:∀n,0<n->zc4 n S (zaz (zjT n))):zc2 1 S zgE [(zah p8 31).getD 2 default,(zah p8 31).getD 3 default,(zah p8 31).getD 4 default] zmE:=by
 have Hs:=@zvI S D0 NG G E0 N0 TB TN;have H:=@zuI S D0 NG G E0 N0 TB;generalize (zah p8 31).getD 3 default=t3 at Hs⊢;generalize (zah p8 31).getD 4 default=t4 at Hs⊢;generalize (zah p8 31).getD 2 default=t2 at H⊢;exact zsu H Hs
theorem zzZ(TB:zaB S (zaz zgQ))(TN:∀n,0<n->zc4 n S (zaz (zjT n))):zc2 1 S zgE (zah p8 31) zwL:=by
 have h0:=@zwi S D0 NG G E0 N0 TB;have h1:=@zws S D0 NG G E0 N0 TB;have hJ:=@zwn S D0 NG G E0 N0 TB TN;rw[zzv];generalize (zah p8 31).getD 0 default=t0 at h0⊢;generalize (zah p8 31).getD 1 default=t1 at h1⊢;generalize (zah p8 31).getD 2 default=t2 at hJ⊢;generalize (zah p8 31).getD 3 default=t3 at hJ⊢;generalize (zah p8 31).getD 4 default=t4 at hJ⊢;exact(zaW (zba.t h0) (zaW (zba.t h1) hJ))
end
end
noncomputable def pc6:List (List Nat):=[[34],[92],[10],[34,34],[92,10],[92,32,9,10,32,10],[34,34,34],[92,34],[92,92],[92,110],[92,117,48,48,69,57],[92,85,48,48,48,49,102,54,48,48],[92,117,68,56,48,48],[92,85,48,48,49,49,48,48,48,48],[92,117],[32],[9],[92,32],[97],[48],[0],[13],[127],[92,85,48,48,48,49,102,54,48],[92,98],[70]]
theorem zxx{k:Nat}(h:k<26):(pc6.getD k []).length≤10∧Chr (pc6.getD k []):=by
 have:∀j:Fin 26,(pc6.getD j.1 []).length≤10∧((pc6.getD j.1 []).all λc=>decide (c<1114112))=true:=by decide
 exact⟨(this ⟨k,h⟩).1,.of (this ⟨k,h⟩).2⟩
theorem zw9{k:Nat}(h:k<26):(pc6.map D.str)[k]?=some (.str (pc6.getD k [])):=by
 rw[List.getElem?_map,List.getD_eq_getElem?_getD,List.getElem?_eq_getElem (show k<pc6.length from h)];rfl
noncomputable def Pcs(cs:List (List Nat)):Prop:=∀x∈cs,x.length≤10∧Chr x
theorem Pcs.snoc{cs:List (List Nat)}{x:List Nat}(h:Pcs cs)(h1:x.length≤10)(h2:Chr x):Pcs (cs++[x]):=λy hy=>by
 rcases List.mem_append.mp hy with z|z
 ·exact h y z
 ·rw[List.mem_singleton.mp z];exact⟨h1,h2⟩
theorem Pcs.flat{cs:List (List Nat)}(h:Pcs cs):cs.flatten.length≤10*cs.length∧Chr cs.flatten:=by
 induction cs with
 |nil=>exact⟨yq _,.nil⟩
 |cons x cs ih=>
  have ih:=ih λy hy=>h y (ym _ hy);have hx:=h x yp;rw[List.flatten_cons,List.length_append,List.length_cons];exact⟨by have:=hx.1;have:=ih.1;lia,hx.2.app ih.2⟩
@[reducible]noncomputable def t6(ns:List Int)(c1 c2 c3 c4 c5 c6 c7 c8 c9:Slot):Sl:=[.val (.lst (ns.map .int)),c1,c2,c3,c4,c5,c6,c7,c8,c9]
@[reducible]noncomputable def oC(cs:List (List Nat)):Slot:=.own (cs.map .str)
@[reducible]noncomputable def vC(cs:List (List Nat)):Slot:=.val (.lst (cs.map .str))
@[reducible]noncomputable def nD(ds:List Nat):List D:=ds.map λd:Nat=>.int (d:Nat)
noncomputable def Dig(ds:List Nat):Prop:=∀d∈ds,d<31137792
theorem zpI{ns:List Int}{cs:List (List Nat)}{c3 c4 c5 c7 c8 c9:Slot}{d:Nat}{K:Fl->Sl->Prop}{X:Err->Sl->Prop}(hc:Pcs cs)(hl:cs.length≤1000000)(hd:d<31137792)
  (k:∀cs' c7 c8,Pcs cs'->cs'.length=cs.length+1->K .next (t6 ns (vC pc6) (oC cs') c3 c4 c5 (.val (.int (d:Nat))) c7 c8 c9)) :
  zaf zd8 (zaf zd3 zap) K X (t6 ns (vC pc6) (oC cs) c3 c4 c5 (.val (.int (d:Nat))) c7 c8 c9):=by
 refine znj (b:=28) (by decide) ?_;refine zjO (b:=28) (by decide) (by decide) ?_;refine yl (zds rfl) ?_;have put:∀x:List Nat,x.length≤10->Chr x->(cs.map D.str).length≤1000000∧K .next (t6 ns (vC pc6) (.own (cs.map D.str++[.str x])) c3 c4 c5 (.val (.int (d:Nat))) (.val (.int (d%28:Nat))) (.val (.int (d/28:Nat))) c9):=λx h1 h2=>by
  refine yl (by rw[List.length_map];exact hl) ?_;have e:(cs++[x]).map D.str=cs.map D.str++[.str x]:=List.map_append;have this:K .next (t6 ns (vC pc6) (.own ((cs++[x]).map D.str)) c3 c4 c5 _ _ _ c9):=k (cs++[x]) (.val (.int (d%28:Nat))) (.val (.int (d/28:Nat))) (hc.snoc h1 h2) (yL ..)
  rw[e]at this;exact this
 by_cases e1:d%28<26
 ·refine za4 (c:=decide (((d%28:Nat):Int)<((26:Nat):Int))) (ziM.trans (yt e1)) ?_
  have hp:=zxx e1;refine zlQ (yj (yc e1) (by decide)) (zw9 e1) rfl ?_;exact put _ hp.1 hp.2
 ·refine zaY (c:=decide (((d%28:Nat):Int)<((26:Nat):Int))) (ziM.trans (yv e1)) ?_
  have hq:d/28<1112064:=Nat.div_lt_of_lt_mul hd;by_cases e2:d/28<55296
  ·refine za4 (c:=decide (((d/28:Nat):Int)<((55296:Nat):Int))) (ziM.trans (yt e2)) ?_
   refine yl (yz _) (yl (yR.mpr (yc (Nat.lt_trans hq (by decide)))) ?_);exact put [d/28] (zds rfl) (.cons (Nat.lt_trans hq (by decide)) .nil)
  ·refine zaY (c:=decide (((d/28:Nat):Int)<((55296:Nat):Int))) (ziM.trans (yv e2)) ?_
   refine zdD (z:=((d/28+2048:Nat):Int)) rfl ?_;have hq2:d/28+2048<1114112:=Nat.add_lt_add_right hq 2048;refine yl (yz _) (yl (yR.mpr (Nat.le_of_lt_succ hq2)) ?_);exact put [d/28+2048] (zds rfl) (.cons hq2 .nil)
theorem ziI{ns:List Int}{c3 c4 c5 c9:Slot}{K:Fl->Sl->Prop}{X:Err->Sl->Prop}:∀(ds:List Nat){cs:List (List Nat)}{c6 c7 c8:Slot},Pcs cs->Dig ds->cs.length+ds.length≤1000000 ->
  (∀cs' c6 c7 c8,Pcs cs'->cs'.length=cs.length+ds.length->K .next (t6 ns (vC pc6) (oC cs') c3 c4 c5 c6 c7 c8 c9)) ->
  zu7 6 (zaf zd8 (zaf zd3 zap)) (nD ds) K X (t6 ns (vC pc6) (oC cs) c3 c4 c5 c6 c7 c8 c9)
 |[],cs,c6,c7,c8,hc,_,_,k=>k cs c6 c7 c8 hc rfl
 |d::ds,cs,c6,c7,c8,hc,hd,hl,k=>by
  rw[List.length_cons]at hl;refine zpI hc (yj (yN ..) hl) (hd d yp) λcs' c7 c8 h1 h2=>?_;refine ziI ds h1 (λx hx=>hd x (ym _ hx)) (by rw[h2];lia) λcs2 c6 c7 c8 h3 h4=>?_;exact k cs2 c6 c7 c8 h3 (by rw[h4,h2,List.length_cons];lia)
theorem zmF{ns:List Int}{cs:List (List Nat)}{c4 c5 c6 c7 c8 c9:Slot}{x:Int}{K:Fl->Sl->Prop}{X:Err->Sl->Prop}(hc:Pcs cs)(hl:cs.length≤100000)
  (k:∀cs' c4 c5 c6 c7 c8,Pcs cs'->cs'.length≤cs.length+12->K .next (t6 ns (vC pc6) (oC cs') (.val (.int x)) c4 c5 c6 c7 c8 c9)) :
  zaf zd7 (zaf zcZ (zaf zcW (zaf zcX zap))) K X (t6 ns (vC pc6) (oC cs) (.val (.int x)) c4 c5 c6 c7 c8 c9):=by
 have go:∀N:Nat,N<31137792^12->zaf zcZ (zaf zcW (zaf zcX zap)) K X (t6 ns (vC pc6) (oC cs) (.val (.int x)) (.val (.int (N:Nat))) c5 c6 c7 c8 c9):=λN hN=>by
  refine znj (b:=31137792) (by decide) ?_;refine yl (zds rfl) ?_;refine zfo (st:=t6 ns (vC pc6) (oC cs) (.val (.int x)) (.val (.int (N:Nat))) (.own (nD [N%31137792])) c6 c7 c8 c9) 11 (λm st=>∃(N:Nat)(ds:List Nat),st=t6 ns (vC pc6) (oC cs) (.val (.int x)) (.val (.int (N:Nat))) (.own (nD ds)) c6 c7 c8 c9∧Dig ds∧ds.length+m≤12∧N<31137792^(m+1)) (zkB N [N%31137792] rfl (λd hd=>by rw[List.mem_singleton.mp hd];exact Nat.mod_lt _ (by decide)) (zds rfl) hN) ?_;intro m st hI;clear hN N;obtain⟨N,ds,rfl,hd,hm,hN⟩:=hI;by_cases e:31137792≤N
  ·refine za4 (c:=decide (((N:Nat):Int) ≥ ((31137792:Nat):Int))) (zpa.trans (yt e)) ?_
   refine zjO (b:=31137792) (by decide) (by right) ?_;refine znj (b:=31137792) (by decide) ?_;refine yl (by rw[List.length_map];lia) ?_
   induction m with
   |zero=>exact absurd hN (yg.mpr e)
   |succ m=>
    refine⟨m,yO m,N/31137792,ds++[N/31137792%31137792],?_,λd h=>?_,?_,?_⟩
    ·show t6 ns _ _ _ _ (.own (nD ds++nD [N/31137792%31137792])) _ _ _ _=_
     rw[←List.map_append];rfl
    ·rcases List.mem_append.mp h with z|z
     ·exact hd d z
     ·rw[List.mem_singleton.mp z];exact Nat.mod_lt _ (by decide)
    ·rw[List.length_append,List.length_singleton];lia
    ·exact Nat.div_lt_of_lt_mul (by rw[Nat.mul_comm,←Nat.pow_succ];exact hN)
  ·refine zaY (c:=decide (((N:Nat):Int) ≥ ((31137792:Nat):Int))) (zpa.trans (yv e)) ?_
   refine ziI ds hc hd (by lia) λcs' c6 c7 c8 h1 h2=>?_;exact k cs' _ _ c6 c7 c8 h1 (by rw[h2];lia)
 by_cases e:x ≥ 0
 ·refine za4 (c:=decide (x ≥ 0)) (yt e) ?_
  refine ztp (by right) ?_;refine zyX (a:=31137792) (e:=12) (by decide) (by decide) (by decide) ?_;exact zsi (Nat.pow_pos (by decide)) go
 ·refine zaY (c:=decide (x ≥ 0)) (yv e) ?_
  refine zq8 (z:=-2) rfl ?_;refine ztp (by right) ?_;refine zxl rfl ?_;refine zyX (a:=31137792) (e:=12) (by decide) (by decide) (by decide) ?_;exact zsi (Nat.pow_pos (by decide)) go
theorem zfd{ns:List Int}{c9:Slot}{K:Fl->Sl->Prop}{X:Err->Sl->Prop}:∀(xs:List Int){cs:List (List Nat)}{c3 c4 c5 c6 c7 c8:Slot},Pcs cs->cs.length+12*xs.length≤100000 ->
  (∀cs' c3 c4 c5 c6 c7 c8,Pcs cs'->cs'.length≤100000->K .next (t6 ns (vC pc6) (oC cs') c3 c4 c5 c6 c7 c8 c9)) ->
  zu7 3 (zaf zd7 (zaf zcZ (zaf zcW (zaf zcX zap)))) (xs.map .int) K X (t6 ns (vC pc6) (oC cs) c3 c4 c5 c6 c7 c8 c9)
 |[],cs,c3,c4,c5,c6,c7,c8,hc,hl,k=>k cs c3 c4 c5 c6 c7 c8 hc hl
 |x::xs,cs,c3,c4,c5,c6,c7,c8,hc,hl,k=>by
  rw[List.length_cons]at hl;refine zmF hc (by lia) λcs' c4 c5 c6 c7 c8 h1 h2=>?_;exact zfd xs h1 (by lia) k
theorem znZ{ns:List Int}{cs:List (List Nat)}{c3 c4 c5 c6 c7 c8 c9:Slot}{Q:D->Prop}{X:Err->Prop}(hc:Pcs cs)(hl:cs.length≤100000)(h:∀t,Chr t->t.length≤450->Q (.str t)) :
  zaf zeI (zaf zeF (zaf zeC zap)) (zn4 Q) (λx _=>X x) (t6 ns (vC pc6) (oC cs) c3 c4 c5 c6 c7 c8 c9):=by
 have hl1:(cs.map D.str).length≤1000000:=by rw[List.length_map];lia
 refine yl (za3 hl1) ?_;have e0:zbk (cs.map D.str) none (some 40)=(cs.take 40).map D.str:=(zuX (n:=40)).trans (List.map_take ..).symm;rw[e0];have hc:Pcs (cs.take 40):=λx hx=>hc x (List.mem_of_mem_take hx);have hl:(cs.take 40).length≤40:=by rw[List.length_take];exact Nat.min_le_left ..
 clear hl1;generalize cs.take 40=cs at hc hl⊢;have hl0:(cs.map D.str).length≤1000000:=by rw[List.length_map];lia
 refine yl hl0 ?_;refine zdD (z:=((cs.length+1:Nat):Int)) (by rw[List.length_map];rfl) ?_;refine zjO (b:=2) (by decide) (by decide) ?_;generalize (cs.length+1)/2=m;have h1:Pcs (cs.take m):=λx hx=>hc x (List.mem_of_mem_take hx);have h2:Pcs (cs.drop m):=λx hx=>hc x (List.mem_of_mem_drop hx);have k1:=h1.flat;have k2:=h2.flat;have l1:(cs.take m).length≤40:=yj (List.length_take_le' ..) hl;have l2:(cs.drop m).length≤40:=yj (by rw[List.length_drop];exact Nat.sub_le ..) hl;have hm:(cs.take m).length+(cs.drop m).length≤40:=by rw[←List.length_append,List.take_append_drop];exact hl
 refine yl (za3 hl0) ?_;have e1:zbk (cs.map D.str) none (some ((m:Nat):Int))=(cs.take m).map D.str:=zuX.trans (List.map_take ..).symm;rw[e1];refine zu0 (p:=[]) (l:=cs.take m) (by rw[←List.length_flatten,List.length_nil,Nat.mul_zero];lia) ?_;rw[zgL];refine zeN (za3 (by show 4+_≤_;lia)) ?_;refine zeN (za3 (by rw[List.length_append];show 4+_+4≤_;lia)) ?_;refine yl (za3 hl0) ?_;have e2:zbk (cs.map D.str) (some ((m:Nat):Int)) none=(cs.drop m).map D.str:=zx9.trans (List.map_drop ..).symm;rw[e2];refine zu0 (p:=[]) (l:=cs.drop m) (by rw[←List.length_flatten,List.length_nil,Nat.mul_zero];lia) ?_;rw[zgL];refine zeN (za3 (by rw[List.length_append,List.length_append];show 4+_+4+_≤_;lia)) ?_;refine h _ ((((Chr.of (by decide)).app k1.2).app (.of (by decide))).app k2.2) ?_;rw[List.length_append,List.length_append,List.length_append];show 4+_+4+_≤_;lia
theorem zpz{ns:List Int}{Q:D->Prop}{X:Err->Prop}(hn:ns.length≤63)(h:∀t,Chr t->t.length≤450->Q (.str t)):zf7 zfV 9 [.lst (ns.map .int)] Q X:=by
 refine yl (zds rfl) ?_;refine yl (zds rfl) ?_;refine yl (zds rfl) ?_;refine yl (zds rfl) ?_;refine zwV (by rw[List.length_map];lia) ?_;cases ns with
 |nil=>
  refine zaY rfl ?_;refine zq8 (z:=-3) rfl ?_;refine zq8 (z:=-9) rfl ?_;refine yl (zds rfl) ?_;exact zfd (ns:=[]) [-3,0,-9] (cs:=[]) (λx hx=>zb7 hx) (by decide) λcs' c3 c4 c5 c6 c7 c8 h1 h2=>znZ h1 h2 h
 |cons x ns=>
  refine za4 rfl ?_;exact zfd (ns:=x::ns) (x::ns) (cs:=[]) (λx hx=>zb7 hx) (by rw[List.length_nil];lia) λcs' c3 c4 c5 c6 c7 c8 h1 h2=>znZ h1 h2 h
theorem zvT(ds dk:List D)(Q:D->Prop)(X:Err->Prop)(h:ziw ds dk Q X):ds.length+0=1∧zf7 zfV 9 (ds++dk) Q X:=by
 refine za1 (ze2 h) λn e1 g=>?_;refine zmO (zhM g) λe2 g1 g2=>?_;rw[e1,e2];exact⟨rfl,zpz g1 g2⟩
theorem ztA{m:List Nat}{Q:Res->Prop}{X:Err->Prop}(k:Q (.pl (.str m))):zzg [.err .toml m] Q X:=k
theorem zoX{l:List D}{n:Nat}{d:D}{Q:Res->Prop}{X:Err->Prop}(hl:l.length=n+1)(h:l[n]?=some d)(he:d.isExc=false)(q:Q (.pl d)):znP (.lst l) (.int (-1)) Q X:=
 (item_last hl h he q:zrR (.lst l) (.int (-1)) Q X)
theorem zoY{s:List Nat}{p:Nat}{Q:D->Prop}{X:Err->Prop}(hs:okT s=true)(h:Q (.str (zeh s p))):zf7 zfb 1 [.str s,.int (p:Nat)] Q X:=by
 have hl:=zcs hs;refine yl (yj hl (by decide)) ?_;by_cases hc:s.length≤p
 ·refine za4 (c:=decide (((p:Nat):Int) ≥ ((s.length:Nat):Int))) (zpa.trans (yt hc)) ?_
  have e:zeh s p=[32,40,97,116,32,101,110,100,32,111,102,32,100,111,99,117,109,101,110,116,41]:=by
   unfold zeh zbZ;rw[if_pos hc];rfl
  rw[e]at h;exact h
 ·refine zaY (c:=decide (((p:Nat):Int) ≥ ((s.length:Nat):Int))) (zpa.trans (yv hc)) ?_
  refine zk9 (q:=p) (yj hl (by decide)) ?_;have ht:(s.take p).length≤300000:=yj (List.length_take_le' ..) hl;refine zq7 (yj ht (by decide)) nofun rfl rfl ?_;left;obtain⟨r1,r,r2,r3⟩:=ztP 10 _ (s.take p) (yq _);have rl:((zbN (s.take p) [10]).map D.str).length=(s.take p).count 10+1:=(List.length_map ..).trans r1;have hcnt:zea s p≤300001:=yj (zno s p) (yD hl);have hcol:r.length+1=zkW s p:=ya _ r3;have hcl:zkW s p≤300001:=yj (zqu s p) (yD hl);have t1:=zeW (yj hcnt (by decide));have t2:=zeW (yj hcl (by decide));refine yl (yj (yG rl) (yj hcnt (by decide))) ?_;rw[rl];refine zvd (yj hcnt (by decide)) ?_;have a1:([32,40,97,116,32,108,105,110,101,32]:List Nat).length≤10:=by decide
  refine zeN (za3 (zbv a1 t1 (by decide))) ?_;have a2:=zb6 a1 t1 (yq _);refine zeN (za3 (zbv (b:=9) a2 (by decide) (by decide))) ?_;have a3:=zb6 (y:=[44,32,99,111,108,117,109,110,32]) (b:=9) a2 (by decide) (yq _);refine zxU ?_;refine zoX rl (by rw[List.getElem?_map,r2];rfl) rfl ?_;refine yl (by omega) ?_;refine zdD (z:=((zkW s p:Nat):Int)) (by rw[←hcol];rfl) ?_;refine zvd (yj hcl (by decide)) ?_;refine zeN (za3 (zbv a3 t2 (by decide))) ?_;have a4:=zb6 a3 t2 (yq _);refine zeN (za3 (zbv (b:=1) a4 (by decide) (by decide))) ?_;have e:zeh s p=[32,40,97,116,32,108,105,110,101,32]++zby (zea s p)++[44,32,99,111,108,117,109,110,32]++zby (zkW s p)++[41]:=by
   unfold zeh zbZ;rw[if_neg hc];simp only[List.append_assoc];rfl
  rw[e]at h;exact h
theorem ztm(ds dk:List D)(Q:D->Prop)(X:Err->Prop)(h:zbH (zcz ds dk) Q X):ds.length+0=2∧zf7 zfb 1 (ds++dk) Q X:=by
 left;obtain⟨s,p,rfl,rfl,h⟩:=zgg h;refine zbP (zdM h) λhp h=>?_;refine zcN (zeT hp) λp hzz hp1 hs=>?_;subst hzz;exact⟨rfl,zoY hs (zfR h)⟩
theorem zkq{s:List Nat}{p:Nat}{Q:D->Prop}{X:Err->Prop}(hs:okT s=true)(hp:p≤340000)(h:Q (.str (zeh s p))):zbH (zcz [.str s,.int (p:Nat)] []) Q X:=zgn (zhu hs hp) ((zcw ..).mpr h)
theorem ziu{s:List Nat}(h:s.length≤300000)(p:Nat):(zeh s p).length≤106:=zb6 (b:=1) (zb6 (x:=zvU) (a:=5) (yq 5) (zis h p) (yq _)) (yq 1) (yq _)
theorem ziE(s w:List Nat)(p:Nat):w++zeh s p=zcD s p w:=by
 unfold zeh zcD;simp only[List.append_assoc]
theorem zsq{row:List Nat}{k:Nat}(h:k<row.length)(h10:10∉row):zbZ row k++zvn=[108,105,110,101,32,49,44,32,99,111,108,117,109,110,32]++zby ((k+1:Nat):Int)++[41]:=by
 have h1:(row.take k).count 10=0:=List.count_eq_zero.mpr λz=>h10 (List.mem_of_mem_take z);have h2:((row.take k).reverse.takeWhile (· != 10)).length=k:=by
  rw[zov (λz=>h10 (List.mem_of_mem_take (List.mem_reverse.mp z))),List.length_reverse,List.length_take,Nat.min_eq_left (Nat.le_of_lt h)]
 have e1:zea row k=1:=by unfold zea;rw[h1]
 have e2:zkW row k=k+1:=by unfold zkW;rw[h2]
 have e3:zby ((1:Nat):Int)=[49]:=by right
 unfold zbZ;rw[if_neg (Nat.not_le.mpr h),e1,e2,e3];simp only[List.append_assoc];rfl
noncomputable def zeJ(row:List Nat)(k:Nat):Nat:=if row.length≤k then row.length else k
theorem zkK(row:List Nat)(k:Nat):zeJ row k≤row.length:=by
 unfold zeJ;by_cases h:row.length≤k
 ·rw[if_pos h];exact yq _
 ·rw[if_neg h];exact Nat.le_of_not_le h
theorem zny{T row w:List Nat}{b k:Nat}(h:row.length=T.length-(b+1)+1):zcD T (b+zeJ row k) w=zcD T (b+k) w:=by
 unfold zeJ;by_cases z:row.length≤k
 ·rw[if_pos z]
  unfold zcD zbZ;rw[if_pos (by omega),if_pos (by omega)]
 ·rw[if_neg z]
@[reducible]noncomputable def d6(T:List Nat)(b:Nat)(ff vv:Nat×Nat)(row:List Nat)(p:Nat)(done:List Nat)(c7 c8 c9 c10 c11 c12 c13 c14 c15 c16:Slot):Sl:=
 [.val (.str T),.val (.int (b+1:Nat)),.val (tkD ff),.val (tkD vv),.val (.str row),.val (.int (p:Nat)),.val (.str done),c7,c8,c9,c10,c11,c12,c13,c14,c15,c16]
section
variable{n:Nat}{T:List Nat}{b:Nat}{ff vv:Nat×Nat}{row:List Nat}{p:Nat}{done:List Nat}{c7 c8 c9 c10 c11 c12 c13 c14 c15 c16:Slot}{K:Fl->Sl->Prop}{X:Err->Sl->Prop}
theorem zom{c:PS}{k:Nat}{w:List Nat}(hw:40∉w)(hl:w.length≤60)(hr:row.length≤600)(h10:10∉row)
  (go:c K X (d6 T b ff vv row p done c7 (.val (.err .toml (zcD row k w))) c9 c10 c11 (.val (.int (zeJ row k:Nat))) c13 c14 (.val (.str w)) (.val (.str (zbZ row k++zvn))))) :
  zaf (zdo n) (zaf (zdj n) c) K X (d6 T b ff vv row p done c7 (.val (.err .toml (zcD row k w))) c9 c10 c11 c12 c13 c14 c15 c16):=by
 have hC:Chr (zbZ row k++zvn):=by
  have:Chr (zcD row k ([]:List Nat)):=zeU .nil;unfold zcD at this;rw[List.append_assoc]at this;exact λc hc=>this c (xa _ hc)
 refine ztA ?_;refine zq7 (l:=zcD row k w) (p:=zvU) (yj (zuy (yj hr (by decide)) (yj hl (by decide))) (by decide)) nofun rfl (zt0 hw) ?_;refine zum hC (.of (by decide)) ?_;unfold zeJ at go;by_cases z:row.length≤k
 ·rw[if_pos z]at go
  have e:zbZ row k++zvn=[101,110,100,32,111,102,32,100,111,99,117,109,101,110,116,41]:=by
   unfold zbZ;rw[if_pos z];rfl
  rw[e]at go⊢;refine za4 (yt rfl) ?_;refine yl (yj hr (by decide)) ?_;exact go
 ·rw[if_neg z]at go
  have hk:=xd z;rw[zsq hk h10]at go⊢;refine zaY (yv λy=>absurd (yi (show some 108=some 101 from ya List.head? y)) (by decide)) ?_;refine zxU ?_;have l1:=zeW (n:=k+1) (by omega);refine zwY (a:=[108,105,110,101,32,49,44,32,99,111,108,117,109,110,32]) (k:=15) (za3 (zb6 (b:=1) (zb6 (a:=15) (yq 15) l1 (yq _)) (yq 1) (by decide))) rfl ?_;refine zz8 (n:=k+1) (by omega) ?_;refine ziO (n:=k) ?_;exact go
theorem zyG{w:List Nat}{Q:Res->Prop}{X:Err->Prop}(hc:Chr w)(k:Q (.pl (.bool (!decide (w=zbd))))):neP (.str w) (.str zbd) Q X:=by
 refine yl (zew hc) (yl (zew (Chr.of (by decide))) ?_);rw[znY];exact k
theorem zwR{c:PS}{k:Nat}{w:List Nat}(hT:okT T=true)(hTl:T.length≤450)(hb:b≤700)(hw:40∉w)(hw2:w≠zbd)(hl:w.length≤60)(hc:Chr w)(hr:row.length≤600)(hlen:row.length=T.length-(b+1)+1)(h10:10∉row)
  (hK:∀st,K (.ret (.lst [.str (zcD T (b+k) w)])) st) :
  zaf (zdo n) (zaf (zdj n) (zaf (zeG n) c)) K X (d6 T b ff vv row p done c7 (.val (.err .toml (zcD row k w))) c9 c10 c11 c12 c13 c14 c15 c16):=by
 refine zom hw hl hr h10 ?_;refine zyG hc ?_;refine za4 (by rw[decide_eq_false hw2];rfl) ?_;refine ziO (n:=b) ?_;have hs:=zkK row k;refine zdD (z:=((b+zeJ row k:Nat):Int)) (Int.natCast_add ..).symm ?_;refine zkq hT (by omega) ?_;refine zeN (za3 (zbv hl (ziu (zcs hT) _) (by decide))) ?_;refine yl (zds rfl) ?_;have e:w++zeh T (b+zeJ row k)=zcD T (b+k) w:=(ziE ..).trans (zny hlen);rw[←e]at hK;exact hK _
end
theorem zqK{s:List Nat}{d q m:Nat}(hm:m≤2)(h:∀j,j<m->s[q+j]?=some d)(he:m=2∨¬s[q+m]?=some d):zfy s d q=m:=by
 unfold zfy
 match m,hm,h,he with
 |0,_,h,he=>exact if_neg (he.elim (λz=>nomatch z) λz=>z)
 |1,_,h,he=>rw[if_pos (show s[q]?=some d from h 0 (by decide)),if_neg (he.elim (λz=>nomatch z) λz=>z)]
 |2,_,h,he=>rw[if_pos (show s[q]?=some d from h 0 (by decide)),if_pos (h 1 (by decide))]
theorem znV{s:List Nat}{c e:Nat}:zpl s true c e↔cut s e (e+3)=[c,c,c]:=⟨λh=>zfj.mpr ⟨h.1,h.2 rfl⟩,λh=>⟨(zfj.mp h).1,λ_=>(zfj.mp h).2⟩⟩
theorem zwM(s:List Nat)(d q:Nat):zfy s d q≤2:=by
 unfold zfy;by_cases h:s[q]?=some d
 ·rw[if_pos h]
  by_cases h2:s[q+1]?=some d
  ·rw[if_pos h2];exact yq _
  ·rw[if_neg h2];exact yh _
 ·rw[if_neg h];exact yb _
theorem zut(a:Nat)(l:List Nat):zgz l [a] []=l.filter λc=>c != a:=by
 induction l with
 |nil=>exact zl6 (zfw List.not_mem_nil)
 |cons c l ih=>
  by_cases e:c=a
  ·subst e
   rw[List.filter_cons_of_neg (by simp),←ih];exact znO (p:=[c]) nofun l []
  ·rw[List.filter_cons_of_pos (by simpa using e),←ih]
   refine zl9 (p:=[a]) nofun _ (Bool.eq_false_iff.mpr λz=>e ?_);exact yi ((zgK _ _ _).mp z)
theorem zxC{ws:List Nat}{c:Nat}{Q:Res->Prop}{X:Err->Prop}(k:Q (.pl (.bool (decide (c∈ws))))):inD (.str [c]) (.str ws) Q X:=by
 show oM (some (zca ws [c] 0 ws.length).isSome) λb=>Q (.pl (.bool b));rw[zyo];exact k
theorem zwb{row:List Nat}{q:Nat}(h0:row[q]?=some 92)(hn:row[q+1]?≠some 92):zhC row [92] 0 (zeJ row (q+2))=some q:=by
 have hq:=zaK h0;have hat:∀i,zdz row [92] (zeJ row (q+2)) i=(decide (i<zeJ row (q+2))&&decide (row[i]?=some 92)):=λi=>zsx ..;have hs:zeJ row (q+2)=q+1∨zeJ row (q+2)=q+2:=by
  unfold zeJ;by_cases z:row.length≤q+2
  ·rw[if_pos z];omega
  ·rw[if_neg z];exact .inr rfl
 unfold zhC;rw[Nat.sub_zero];generalize hf:zdz row [92] (zeJ row (q+2))=f at hat⊢;have fq:f q=true:=by
  rw[hat,h0,decide_eq_true (show q<zeJ row (q+2) by omega)];rfl
 have f1:f (q+1)=false:=by
  rw[hat,decide_eq_false hn,Bool.and_false]
 have f2:f (q+2)=false:=by
  rw[hat,decide_eq_false (show ¬q+2<zeJ row (q+2) by omega),Bool.false_and]
 clear hf hat;rcases hs with e|e
 ·rw[e,List.range'_concat,List.range'_concat,List.reverse_append,List.reverse_append]
  show List.find? f ((0+1*(q+1))::(0+1*q)::_)=_;rw[Nat.one_mul,Nat.one_mul,Nat.zero_add,Nat.zero_add,List.find?_cons_of_neg (by rw[f1];decide),List.find?_cons_of_pos fq]
 ·rw[e,List.range'_concat,List.range'_concat,List.range'_concat,List.reverse_append,List.reverse_append,List.reverse_append]
  show List.find? f ((0+1*(q+2))::(0+1*(q+1))::(0+1*q)::_)=_;rw[Nat.one_mul,Nat.one_mul,Nat.one_mul,Nat.zero_add,Nat.zero_add,Nat.zero_add,List.find?_cons_of_neg (by rw[f2];decide),List.find?_cons_of_neg (by rw[f1];decide),List.find?_cons_of_pos fq]
section
variable{n:Nat}{T:List Nat}{b:Nat}{ff vv:Nat×Nat}{row:List Nat}{p:Nat}{done:List Nat}{c7 c8 c9 c10 c11 c12 c13 c14 c15 c16:Slot}{K:Fl->Sl->Prop}{X:Err->Sl->Prop}
theorem zoy{E:PE}{c:PS}{ws:List Nat}{g0:Nat}(hE:∀(Q:Res->Sl->Prop)(X:Err->Sl->Prop)(g:Nat),Q (.pl (.str ws)) (d6 T b ff vv row p done c7 c8 c9 c10 c11 c12 c13 (.val (.int (g:Nat))) c15 c16)->E Q X (d6 T b ff vv row p done c7 c8 c9 c10 c11 c12 c13 (.val (.int (g:Nat))) c15 c16))(hg:g0≤row.length)(hr:row.length≤600)
  (k:c K X (d6 T b ff vv row p done c7 c8 c9 c10 c11 c12 c13 (.val (.int (zaE row (ws.map λc=>[c]) g0:Nat))) c15 c16)) :
  zaf (zdA (zfY (zcO (pe2 (zae 14) (pe1 (zae 4) zmy) (zll λx y=>decide (x<y)))) (zfY (zcO (pe2 (zgR (zae 4) (zae 14)) E inD)) (zjd true))) (zaf (zdk 14 (zag (.int 1)) zdB) zap)) c K X (d6 T b ff vv row p done c7 c8 c9 c10 c11 c12 c13 (.val (.int (g0:Nat))) c15 c16):=by
 refine zfo (row.length-g0) (λm st'=>∃g:Nat,st'=d6 T b ff vv row p done c7 c8 c9 c10 c11 c12 c13 (.val (.int (g:Nat))) c15 c16∧m=row.length-g∧g≤row.length∧zaE row (ws.map λc=>[c]) g=zaE row (ws.map λc=>[c]) g0) (zwj g0 rfl rfl hg rfl) ?_;intro m st hI;refine zu8 hI λg e1 e2 e3 e4=>?_;subst e1;refine yl (yj hr (by decide)) ?_;by_cases z:g<row.length
 ·refine za4 (c:=decide (((g:Nat):Int)<((row.length:Nat):Int))) (ziM.trans (yt z)) ?_
  have hc:row[g]?=some row[g]:=ys z;generalize row[g]=x at hc;refine zko hc (yj e3 (yj hr (by decide))) ?_;refine hE _ _ _ ?_;refine zxC ?_;by_cases w:x∈ws
  ·have w':[x]∈ws.map λc=>[c]:=List.mem_map.mpr ⟨x,w,rfl⟩
   refine za4 (yt w) ?_;refine za4 rfl ?_;refine zbO (row.length-(g+1)) (e2.symm▸Nat.sub_lt_sub_left z (yO g)) (zwj (g+1) rfl rfl z ?_);rw[←e4,zdT hc w']
  ·have w':¬[x]∈ws.map λc=>[c]:=λh=>by
    obtain⟨y,hy,e⟩:=List.mem_map.mp h;exact w ((yM e).1▸hy)
   refine zaY (yv w) ?_;refine zaY rfl ?_;rw[←e4,zeb hc w']at k;exact k
 ·refine zaY (c:=decide (((g:Nat):Int)<((row.length:Nat):Int))) (ziM.trans (yv z)) ?_
  refine zaY rfl ?_;rw[←e4,zdw (List.getElem?_eq_none (Nat.le_of_not_lt z))]at k;exact k
end
section
variable{n:Nat}{T:List Nat}{b:Nat}{ff vv:Nat×Nat}{row:List Nat}{p m:Nat}{done:List Nat}{c7 c8 c9 c10 c11 c12 c13 c14 c15 c16:Slot}{K:Fl->Sl->Prop}{X:Err->Sl->Prop}
theorem zzr{c:Bool}{l x:List Nat}{z j:Nat}{Q:Res->Prop}{X:Err->Prop}(hz:z≤l.length)(e:zhC l x 0 z=some j)(k:Q (.pl (.int (j:Nat)))):zg6 c l [.str x,.int 0,.int (z:Nat)] Q X:=by
 rw[zAo,zee,Nat.min_eq_left hz,show zfZ l.length 0=0 from zee l.length 0];exact zsh e k
theorem zqj{x y:Nat}{Q:Res->Prop}{X:Err->Prop}(k:Q (.pl (.bool (decide (x=y))))):eqP (.int (x:Nat)) (.int (y:Nat)) Q X:=by
 refine yl rfl (yl rfl ?_);rw[zrj];exact k
theorem zmH{g:Nat}{c:PS}(hr:row.length≤600)(hch:∀d∈row,d<1114112)(hf:ff.1<1114112)(h:row[g]?≠some ff.1)(k:c K X (d6 T b ff vv row p done c7 c8 c9 c10 c11 c12 c13 (.val (.int (g:Nat))) c15 c16)) :
  zaf (zdU n) c K X (d6 T b ff vv row p done c7 c8 c9 c10 c11 c12 c13 (.val (.int (g:Nat))) c15 c16):=by
 refine yl (yj hr (by decide)) ?_;by_cases z:g<row.length
 ·refine za4 (c:=decide (((g:Nat):Int)<((row.length:Nat):Int))) (ziM.trans (yt z)) ?_
  have hc:row[g]?=some row[g]:=ys z;generalize row[g]=x at hc;refine zko hc (by omega) ?_;have cx:Chr [x]:=λd hd=>by rw[List.mem_singleton.mp hd];exact hch x (yw hc)
  have cf:Chr [ff.1]:=λd hd=>by rw[List.mem_singleton.mp hd];exact hf
  refine zum cx cf ?_;refine zaY (yv λe=>h (by rw[hc,(List.cons.inj e).1])) ?_;refine zaY rfl ?_;exact k
 ·refine zaY (c:=decide (((g:Nat):Int)<((row.length:Nat):Int))) (ziM.trans (yv z)) ?_
  refine zaY rfl ?_;exact k
theorem zvS{q:Nat}(hT:okT T=true)(hTl:T.length≤450)(hb:b≤700)(F:Fv T ff.1 vv.1)(hr:row.length≤600)(hlen:row.length=T.length-(b+1)+1)(h10:10∉row)(hch:∀d∈row,d<1114112)
  (h0:row[q]?=some 92)(hn:row[q+1]?≠some 92)(U:Uns T b ff.1 vv.1 row p done m q)
  (hK:∀st,K (.ret (toL (zhI T (b+1)))) st)(hN:∀row' m' w' c8 c9 c10 c11 c12 c13 c14 c15 c16,zr7 T b ff.1 vv.1 row' p done m' w'->m<m'->K .cont (d6 T b ff vv row' p done c7 c8 c9 c10 c11 c12 c13 c14 c15 c16)) :
  zaf (zdo n) (zaf (zdj n) (zaf (zeG n) (zaf (zgJ n) (zaf (zgC n) (zaf (zgH n) (zaf (zdU n) (zaf (zfE n) (zaf (zfD n) (zaf (zfC n) zap))))))))) K X (d6 T b ff vv row p done c7 (.val (.err .toml (zcD row (q+2) zbd))) c9 c10 c11 c12 c13 c14 c15 c16):=by
 have wl:zbd.length≤60:=by decide
 have hq:=zaK h0;have hr5:row.length≤1000000:=yj hr (by decide);refine zom (by decide) wl hr h10 ?_;refine zyG (Chr.of (by decide)) ?_;refine zaY (by rw[decide_eq_true rfl];rfl) ?_;have hsp:=zkK row (q+2);refine zzr (zkK ..) (zwb h0 hn) ?_;refine zdD (z:=((q+1:Nat):Int)) rfl ?_;refine zoy (ws:=[32,9]) (λQ X g k=>k) hq hr ?_;have hws:([32,9].map λc=>[c])=wsL:=rfl;rw[hws];have hg1:=zj7 row wsL (q+1);have hg2:zaE row wsL (q+1)≤row.length:=zmG _ _ hq;generalize hgap:zaE row wsL (q+1)=gap at hg1 hg2⊢;cases U with
 |plain hn2 h=>
  have e:gap=q+1:=by
   rw[←hgap];cases hx:row[q+1]? with
   |none=>exact zdw hx
   |some x=>
    refine zeb hx λw=>?_;have:=hn2 x hx;rcases yx.mp w with w|w
    ·exact this.1 (yM w).1
    ·exact this.2.1 (yM (yY.mp w)).1
  subst e;refine zmH hr hch F.c0 (λz=>(hn2 _ z).2.2 rfl) ?_;refine zdD (z:=((q+1:Nat):Int)) rfl ?_;refine zqj ?_;refine za4 (yt rfl) ?_;refine ziO (n:=b) ?_;have hs:=zkK row (q+2);refine zdD (z:=((b+zeJ row (q+2):Nat):Int)) (Int.natCast_add ..).symm ?_;refine zkq hT (yj (ye hb (yj hs hr)) (by decide)) ?_;refine zeN (za3 (zbv wl (ziu (zcs hT) _) (by decide))) ?_;refine yl (zds rfl) ?_;have e:zbd++zeh T (b+zeJ row (q+2))=zcD T (b+(q+2)) zbd:=(ziE ..).trans (zny hlen);rw[h,←e]at hK;exact hK _
 |eof h1 h2 h=>
  rw[hgap]at h1 h2;refine zmH hr hch F.c0 (λz=>Nat.ne_of_lt (zaK z) h2) ?_;refine zdD (z:=((q+1:Nat):Int)) rfl ?_;refine zqj ?_;refine zaY (yv (Nat.ne_of_gt h1)) ?_;refine yl hr5 ?_;refine zqj ?_;refine za4 (yt h2) ?_;refine yl (zds rfl) ?_;have e:([85,110,116,101,114,109,105,110,97,116,101,100,32,115,116,114,105,110,103,32,40,97,116,32,101,110,100,32,111,102,32,100,111,99,117,109,101,110,116,41]:List Nat)=zcD T T.length zes:=by
   unfold zcD zbZ;rw[if_pos (Nat.le_refl _)];rfl
  rw[h,←e]at hK;exact hK _
 |sign c h1 h2 hc h=>
  rw[hgap]at h1 h2 h;refine zmH hr hch F.c0 (λz=>hc (yi (h2.symm.trans z))) ?_;refine zdD (z:=((q+1:Nat):Int)) rfl ?_;refine zqj ?_;refine zaY (yv (Nat.ne_of_gt h1)) ?_;have hlt:=zaK h2;refine yl hr5 ?_;refine zqj ?_;refine zaY (yv (Nat.ne_of_lt hlt)) ?_;refine ziO (n:=b) ?_;refine zdD (z:=((b+gap:Nat):Int)) (Int.natCast_add ..).symm ?_;refine zkq hT (yj (ye hb (yj hg2 hr)) (by decide)) ?_;refine zeN (za3 (zbv wl (ziu (zcs hT) _) (by decide))) ?_;refine yl (zds rfl) ?_;have e:zbd++zeh T (b+gap)=zcD T (b+gap) zbd:=ziE ..;rw[h,←e]at hK;exact hK _
 |fold g w h1 hg hq1 hg3 I hm=>
  rw[hgap]at h1 hg;have hlt:=zaK h1;refine yl hr5 ?_;refine za4 (c:=decide (((gap:Nat):Int)<((row.length:Nat):Int))) (ziM.trans (yt hlt)) ?_;have cf:Chr [ff.1]:=λd hd=>by rw[List.mem_singleton.mp hd];exact F.c0
  refine zko h1 (yj hg2 hr5) ?_;refine zum cf cf ?_;refine za4 (yt rfl) ?_;refine za4 rfl ?_;refine zoy (ws:=[32,9,ff.1]) (λQ X g k=>zeN (x:=[32,9]) (y:=[ff.1]) (za3 (zbv (a:=2) (b:=1) (yq 2) (yq 1) (by decide))) k) hg2 hr ?_;have hwf:([32,9,ff.1].map λc=>[c])=zvL ff.1:=rfl;rw[hwf,←hg];have hqg:q≤g:=yc hq1;refine zk9 (q:=q) (yj hr (by decide)) ?_;refine zxl (z:=((g-q:Nat):Int)) (Int.ofNat_sub hqg).symm ?_;have hgq:g-q≤600:=yj (Nat.sub_le ..) (yj hg3 hr);have htk:(row.take q).length≤600:=yj (List.length_take_le' ..) hr;have hrp:(List.replicate (g-q) vv.1).length≤600:=by rw[List.length_replicate];exact hgq
  refine zuY (c:=vv.1) (m:=g-q) (yj hgq (by decide)) ?_;refine zeN (za3 (zbv htk hrp (by decide))) ?_;refine zjp (q:=g) (yj hr (by decide)) ?_;refine zeN (za3 (zbv (a:=1200) (b:=600) (zb6 htk hrp (by decide)) (yj (by rw[List.length_drop];exact Nat.sub_le ..) hr) (by decide))) ?_;exact hN _ _ _ _ _ _ _ _ _ _ _ _ I hm
end
section
variable{n:Nat}{T:List Nat}{b:Nat}{ff vv:Nat×Nat}{row:List Nat}{p m:Nat}{done w:List Nat}{c7 c8 c9 c10 c11 c12 c13 c14 c15 c16:Slot}{K:Fl->Sl->Prop}{X:Err->Sl->Prop}{e:Nat}{x:List Nat}
theorem zuE{c:PS}(he:e≤600)(k:c K X (d6 T b ff vv row p done c7 c8 (.val (.int (zfy row 34 (e+3):Nat))) (.val (.int (e+1:Nat))) c11 c12 c13 c14 c15 c16)) :
  zaf (zfL n) (zaf (zfH n) c) K X (d6 T b ff vv row p done c7 c8 c9 (.val (.int (e+1:Nat))) c11 c12 c13 c14 c15 c16):=by
 refine zfo (st:=d6 T b ff vv row p done c7 c8 (.val (.int (0:Nat))) (.val (.int (e+1:Nat))) c11 c12 c13 c14 c15 c16) 2 (λm st=>∃mo:Nat,st=d6 T b ff vv row p done c7 c8 (.val (.int (mo:Nat))) (.val (.int (e+1:Nat))) c11 c12 c13 c14 c15 c16∧mo+m=2∧∀j,j<mo->row[e+3+j]?=some 34) (zf8 0 rfl rfl λj hj=>absurd hj (Nat.not_lt_zero j)) ?_;intro m st hI;refine zcN hI λmo e1 e2 hall=>?_;subst e1;have hmo:mo≤2:=e2▸yN ..;by_cases h2:mo<2
 ·refine za4 (c:=decide (((mo:Nat):Int)<((2:Nat):Int))) (ziM.trans (yt h2)) ?_
  refine zdD (z:=((e+3:Nat):Int)) rfl ?_;refine zdD (z:=((e+3+mo:Nat):Int)) (Int.natCast_add ..).symm ?_;by_cases h3:row[e+3+mo]?=some 34
  ·refine zh0 (p:=[34]) rfl (b:=true) (yt (zfm.mpr h3)) ?_
   refine za4 rfl ?_;refine za4 rfl ?_;obtain⟨m',rfl⟩:∃m',m=m'+1:=Nat.exists_eq_succ_of_ne_zero λz=>Nat.ne_of_lt h2 (by rw[←e2,z];rfl);refine zbO m' (yO m') (zf8 (mo+1) rfl ((Nat.succ_add_eq_add_succ mo m').trans e2) λj hj=>?_);rcases Nat.lt_or_eq_of_le (Nat.le_of_lt_succ hj)with z|z
   ·exact hall j z
   ·exact z▸h3
  ·refine zh0 (p:=[34]) rfl (b:=false) (yv λz=>h3 (zfm.mp z)) ?_
   refine zaY rfl ?_;refine zaY rfl ?_;rw[zqK hmo hall (.inr h3)]at k;exact k
 ·refine zaY (c:=decide (((mo:Nat):Int)<((2:Nat):Int))) (ziM.trans (yv h2)) ?_
  refine zaY rfl ?_;rw[zqK hmo hall (.inl (Nat.le_antisymm hmo (Nat.le_of_not_lt h2)))]at k;exact k
theorem zs8{v:D}(F:Fv T ff.1 vv.1)(hn1:ff.2≤n)(hn2:vv.2≤n)(hr:row.length≤600)(he:e<row.length)(hd:done.length≤600)(hx:x.length≤600)(hS:zpl row true 34 e)
  (h0:v=.tup [.int (b+e+3+zfy row 34 (e+3):Nat),.str (bk ff.1 vv.1 (done++x)++List.replicate (zfy row 34 (e+3)) 34)])(hK:∀st,K (.ret v) st) :
  zaf (zck n) (zaf (zce n) (zaf (zci n) (zaf (zch n) zap))) K X (d6 T b ff vv row p done c7 c8 c9 (.val (.int (e+1:Nat))) (.val (.str x)) c12 c13 c14 c15 c16):=by
 refine yl (za3 (zbv hd hx (by decide))) ?_;refine ziO (n:=e) ?_;refine zh0 (p:=[34,34,34]) rfl (b:=true) (yt (znV.mp hS)) ?_;refine za4 rfl ?_;refine zuE (by omega) ?_;have hm:=zwM row 34 (e+3);generalize zfy row 34 (e+3)=m at h0 hm;have hdt:(done++x).length≤1200:=zb6 hd hx (by decide);refine zdD (z:=((b+e+2:Nat):Int)) (by omega) ?_;refine zdD (z:=((b+e+3:Nat):Int)) rfl ?_;refine zdD (z:=((b+e+3+m:Nat):Int)) (Int.natCast_add ..).symm ?_;refine yl (yj hdt (by decide)) ?_;refine yl ⟨hn2,nofun,nofun,yb _⟩ ?_;rw[zut];have hft:((done++x).filter λc=>c != vv.1).length≤1200:=yj (List.length_filter_le ..) hdt;refine yl (yj hft (by decide)) ?_;refine yl ⟨hn1,nofun,λz=>?_,zds rfl⟩ ?_
 ·have:=F.g0
  have:=(yM z).1;omega
 rw[znz];refine zuY (c:=34) (m:=m) (yj hm (by decide)) ?_;refine zeN (za3 (zbv (a:=1200) (b:=2) (by rw[List.length_map];exact hft) (by rw[List.length_replicate];exact hm) (by decide))) ?_;refine yl (zds rfl) ?_;rw[h0]at hK;exact hK _
theorem zyP(hr:row.length≤600)(he:e<row.length)(hd:done.length≤600)(hx:x.length≤600)(hS:¬zpl row true 34 e)
  (hN:∀c8,K .next (d6 T b ff vv row e (done++x++[34]) c7 c8 c9 (.val (.int (e+1:Nat))) (.val (.str x)) c12 c13 c14 c15 c16)) :
  zaf (zck n) (zaf (zce n) (zaf (zci n) (zaf (zch n) zap))) K X (d6 T b ff vv row p done c7 c8 c9 (.val (.int (e+1:Nat))) (.val (.str x)) c12 c13 c14 c15 c16):=by
 refine yl (za3 (zbv hd hx (by decide))) ?_;refine ziO (n:=e) ?_;refine zh0 (p:=[34,34,34]) rfl (b:=false) (yv λz=>hS (znV.mpr z)) ?_;refine zaY rfl ?_;refine yl (za3 (zbv (a:=1200) (b:=1) (zb6 hd hx (by decide)) (yq 1) (by decide))) ?_;refine ziO (n:=e) ?_;exact hN _
theorem zuA(hT:okT T=true)(hTl:T.length≤450)(hb:b≤700)(F:Fv T ff.1 vv.1)(hn1:ff.2≤n)(hn2:vv.2≤n)(hK:∀st,K (.ret (toL (zhI T (b+1)))) st)(I:zr7 T b ff.1 vv.1 row p done m w)
  (hN:∀row' p' done' m' w' c8 c9 c10 c11 c12 c13 c14 c15 c16,zr7 T b ff.1 vv.1 row' p' done' m' w'->m<m'->K .next (d6 T b ff vv row' p' done' c7 c8 c9 c10 c11 c12 c13 c14 c15 c16)∧K .cont (d6 T b ff vv row' p' done' c7 c8 c9 c10 c11 c12 c13 c14 c15 c16)) :
  zaf (zdZ n) (zaf (zck n) (zaf (zce n) (zaf (zci n) (zaf (zch n) zap)))) K X (d6 T b ff vv row p done c7 c8 c9 c10 c11 c12 c13 c14 c15 c16):=by
 have U:=zzp F I;obtain⟨len,h34,pm,ml,same,chr,rd,go,dl⟩:=I;have hr:row.length≤600:=by omega
 have hp:p<row.length:=zaK h34;have hd:done.length≤600:=by omega
 have hch:∀d∈row,d<1114112:=λd hd=>(chr d hd).1;have h10:10∉row:=λz=>(chr 10 z).2 rfl;have hrow:okT row=true:=zqq (yj hr (by decide)) hch;clear same rd go h34 chr;refine zyr hrow (by omega) ?_;cases U with
 |err k w' hw hw2 hl hc h1 h2=>
  rw[h1];rw[h2]at hK;refine yl rfl ?_;exact zwR hT hTl hb hw hw2 hl hc hr len h10 λst=>hK _
 |uns q hq h0 hn h1 h2=>
  rw[h1];refine yl rfl ?_;exact zvS hT hTl hb F hr len h10 hch h0 hn h2 (λst=>hK _) λrow' m' w' c8 c9 c10 c11 c12 c13 c14 c15 c16 I' h'=>(hN _ _ _ _ _ _ _ _ _ _ _ _ _ _ I' h').2
 |stop e x h1 hx h2 h3 h4=>
  rw[h1];have he:=zaK h2.1;have em:zfy T 34 (b+e+3)=zfy row 34 (e+3):=(ztf h4).symm;refine zs8 (v:=toL (zhI T (b+1))) F hn1 hn2 hr he hd (yj hx hr) h2 ?_ hK;rw[h3,zo7,em];rfl
 |on e x h1 hx h2 he h3 hm=>
  rw[h1];exact zyP hr he hd (yj hx hr) h2 λc8=>(hN _ _ _ _ _ _ _ _ _ _ _ _ _ _ h3 hm).1
theorem zj5(hT:okT T=true)(hTl:T.length≤450)(hb:b≤700)(F:Fv T ff.1 vv.1)(hn1:ff.2≤n)(hn2:vv.2≤n)(hK:∀st,K (.ret (toL (zhI T (b+1)))) st):∀(js:List D){row:List Nat}{p m:Nat}{done w:List Nat}{c7 c8 c9 c10 c11 c12 c13 c14 c15 c16:Slot},
  zr7 T b ff.1 vv.1 row p done m w->T.length-(b+1)+1<js.length+m->zu7 7 (zaf (zdZ n) (zaf (zck n) (zaf (zce n) (zaf (zci n) (zaf (zch n) zap))))) js K X (d6 T b ff vv row p done c7 c8 c9 c10 c11 c12 c13 c14 c15 c16)
 |[],row,p,m,done,w,c7,c8,c9,c10,c11,c12,c13,c14,c15,c16,I,hm=>by
  obtain⟨len,_,_,ml,_⟩:=I;rw[List.length_nil]at hm;omega
 |j::js,row,p,m,done,w,c7,c8,c9,c10,c11,c12,c13,c14,c15,c16,I,hm=>
  zuA (c7:=.val j) hT hTl hb F hn1 hn2 hK I λrow' p' done' m' w' c8 c9 c10 c11 c12 c13 c14 c15 c16 I' h'=>
   have g:T.length-(b+1)+1<js.length+m':=by rw[List.length_cons]at hm;omega
   ⟨zj5 hT hTl hb F hn1 hn2 hK js I' g,zj5 hT hTl hb F hn1 hn2 hK js I' g⟩
theorem ztB{Q:D->Prop}{X:Err->Prop}(hT:okT T=true)(hTl:T.length≤450)(hb:b≤700)(F:Fv T ff.1 vv.1)(hn1:ff.2≤n)(hn2:vv.2≤n)(h:Q (toL (zhI T (b+1)))):zhe n (zn4 Q) (λx _=>X x) (start [.str T,.int (b+1:Nat),tkD ff,tkD vv] 13++List.replicate 0 (.cel none)):=by
 have hd:(T.drop (b+1)).length≤450:=yj (by rw[List.length_drop];exact Nat.sub_le ..) hTl;refine zjp (q:=b+1) (yj hTl (by decide)) ?_;refine yl (yj hd (by decide)) ?_;refine yl ⟨hn1,nofun,λz=>?_,zds rfl⟩ ?_
 ·have:=F.g0
  have:=(yM z).1;omega
 rw[znz];refine zeN (za3 (zbv (a:=1) (b:=450) (yq 1) (by rw[List.length_map];exact hd) (by decide))) ?_;refine yl (zds rfl) ?_;refine yl (yj hTl (by decide)) ?_;refine ztp (by right) ?_;refine zdD (z:=((2*T.length+9:Nat):Int)) (by rw[Int.natCast_add,Int.natCast_mul];rfl) ?_;refine zrN (by omega) ?_;have I:=zrb (b:=b) F (zlc hT);refine zj5 (n:=n) hT hTl hb F hn1 hn2 (λst=>h) _ I ?_;rw[List.length_map,List.length_range];omega
open Classical in
theorem zxE(ds dk:List D)(Q:D->Prop)(X:Err->Prop)(h:zbH (zft n ds dk) Q X):dk=[]∧ds.length=4∧zhe n (zn4 Q) (λx _=>X x) (start ds 13++List.replicate 0 (.cel none)):=by
 left;obtain⟨s,q,f,v,e1,e2,h'⟩:=ztt h;clear h;subst e1 e2;refine zbP (zdM h') λhc h=>?_;obtain⟨h1,h2⟩:=yu.mp hc;obtain⟨h3,h4⟩:=yu.mp h1;obtain⟨⟨q1,q2⟩,h5,h6,h7⟩:=yC h2;obtain⟨b,rfl⟩:∃b:Nat,q=((b+1:Nat):Int):=⟨(q-1).toNat,by omega⟩;exact⟨rfl,rfl,ztB h3 (yC h4) (by omega) h7 h5 h6 (zfR h)⟩
open Classical in
theorem zrF{Q:D->Prop}{X:Err->Prop}(hT:okT T=true)(hTl:T.length≤450)(hb:b≤599)(F:Fv T ff.1 vv.1)(hn1:ff.2≤n)(hn2:vv.2≤n)(h:Q (toL (zhI T (b+1)))):zbH (zft n [.str T,.int (b+1:Nat),tkD ff,tkD vv] []) Q X:=by
 refine zgn (by rw[hT,decide_eq_true hTl,decide_eq_true (show((1:Int)≤((b+1:Nat):Int)∧((b+1:Nat):Int)≤600)∧ff.2≤n∧vv.2≤n∧Fv T ff.1 vv.1 from⟨⟨by omega,by omega⟩,hn1,hn2,F⟩)];rfl) ?_;exact(zcw ..).mpr h
end
noncomputable def zza:List Nat:=[48,49,50,51,52,53,54,55,56,57,97,98,99,100,101,102]
noncomputable def fig(k:Nat):Nat:=zza.getD k 0
noncomputable def zhB(n:Nat):List Nat:=[fig (n/4096),fig (n/256%16),fig (n/16%16),fig (n%16)]
theorem zot(T:List Nat):zcM T=(T.mapIdx λi _=>Unicode.lowerAt T.toArray i).flatten:=by
 show((T.toArray.mapIdx λi _=>(Unicode.lowerAt T.toArray i).toArray).flatten).toList=_;rw[List.mapIdx_toArray,Array.toList_flatten];refine ya List.flatten (List.ext_getElem? λi=>?_);rw[List.getElem?_map,List.getElem?_mapIdx,List.getElem?_mapIdx];cases T[i]?<;>rfl
theorem zp7:∀c:Fin 128,zbr c.1=true->Unicode.lowerOf c.1=[fig (zd9 c.1)]∧zd9 c.1<16:=by right
theorem zoo{T:List Nat}{i c:Nat}(h:T[i]?=some c)(hc:zbr c=true):Unicode.lowerAt T.toArray i=[fig (zd9 c)]∧zd9 c<16:=by
 have hr:=ze5 hc;have h1:T.toArray[i]?=some c:=by rw[List.getElem?_toArray];exact h
 have L:=zp7 ⟨c,by omega⟩ hc;refine⟨?_,L.2⟩;unfold Unicode.lowerAt;rw[h1];have e:(c==0x3A3)=false:=beq_eq_false_iff_ne.mpr (by omega);show(if(c==0x3A3&&Unicode.endsWord T.toArray i)=true then[0x3C2]else Unicode.lowerOf c)=_;rw[e,Bool.false_and,if_neg Bool.false_ne_true];exact L.1
theorem zs5{T:List Nat}{p a b c d:Nat}(h:cut T p (p+4)=[a,b,c,d])(ha:zbr a=true)(hb:zbr b=true)(hc:zbr c=true)(hd:zbr d=true):∃x y,zcM T=x++([fig (zd9 a),fig (zd9 b),fig (zd9 c),fig (zd9 d)]++y):=by
 have e:∀j,j<4->(cut T p (p+4))[j]?=T[p+j]?:=λj hj=>zem (Nat.add_lt_add_left hj p);rw[h]at e;have e0:T[p]?=some a:=(e 0 (by decide)).symm;have e1:T[p+1]?=some b:=(e 1 (by decide)).symm;have e2:T[p+2]?=some c:=(e 2 (by decide)).symm;have e3:T[p+3]?=some d:=(e 3 (by decide)).symm;have hT:T=T.take p++(a::b::c::d::T.drop (p+4)):=by
  have:=List.take_append_drop p T;rw[zcd e0,zcd e1,zcd e2,zcd e3]at this;exact this.symm
 have hp:(T.take p).length=p:=by rw[List.length_take];have:=zaK e0;omega
 rw[zot];generalize hg:(λ(i:Nat)(_:Nat)=>Unicode.lowerAt T.toArray i)=g;have G:∀i x,g i x=Unicode.lowerAt T.toArray i:=λi x=>by rw[←hg]
 rw[hT,List.mapIdx_append,List.flatten_append,hp];refine⟨_,((T.drop (p+4)).mapIdx λi=>g (i+1+1+1+1+p)).flatten,ya _ ?_⟩;rw[List.mapIdx_cons,List.mapIdx_cons,List.mapIdx_cons,List.mapIdx_cons,List.flatten_cons,List.flatten_cons,List.flatten_cons,List.flatten_cons];rw[G,G,G,G,show 0+p=p by omega,show 0+1+p=p+1 by omega,show 0+1+1+p=p+2 by omega,show 0+1+1+1+p=p+3 by omega];rw[(zoo e0 ha).1,(zoo e1 hb).1,(zoo e2 hc).1,(zoo e3 hd).1];rfl
theorem zwD{x m y:List Nat}(hm:1≤m.length):zca (x++(m++y)) m 0 (x++(m++y)).length≠none:=λh=>by
 refine List.find?_eq_none.mp h x.length ?_ ?_
 ·rw[Nat.sub_zero,List.mem_range'_1,List.length_append];omega
 ·rw[zoA hm]
  unfold cut;rw[List.drop_left,Nat.add_sub_cancel_left,List.take_left]
theorem d16{x d:Nat}(h:d<16):(x*16+d)/16=x∧(x*16+d)%16=d:=
 ⟨by rw[Nat.mul_comm,Nat.mul_add_div (by decide),Nat.div_eq_of_lt h,Nat.add_zero],by rw[Nat.mul_add_mod',Nat.mod_eq_of_lt h]⟩
theorem zAu(n:Nat):n/256=n/16/16:=(Nat.div_div_eq_div_mul n 16 16).symm
theorem zy1(n:Nat):n/4096=n/16/16/16:=by rw[Nat.div_div_eq_div_mul,Nat.div_div_eq_div_mul]
theorem zkP{x:Nat}(hx:zbr x=true):zd9 x<16:=(zp7 ⟨x,by have:=ze5 hx;omega⟩ hx).2
theorem zAH{x y:Nat}(h1:x≤4)(h2:y≤4)(h:x+y=8):y=4:=by omega
theorem zAA{x y n:Nat}(h:x*16^4+y=n)(hn:n<65536):y=n:=by omega
theorem zAI{a b c d n:Nat}(h:zbI [a,b,c,d]=n)(ha:zd9 a<16)(hb:zd9 b<16)(hc:zd9 c<16)(hd:zd9 d<16):zhB n=[fig (zd9 a),fig (zd9 b),fig (zd9 c),fig (zd9 d)]:=by
 have h:((((0*16+zd9 a)*16+zd9 b)*16+zd9 c)*16+zd9 d)=n:=h;have e1:=d16 (x:=((0*16+zd9 a)*16+zd9 b)*16+zd9 c) hd;have e2:=d16 (x:=(0*16+zd9 a)*16+zd9 b) hc;have e3:=d16 (x:=0*16+zd9 a) hb;unfold zhB;rw[zAu,zy1,←h,e1.1,e1.2,e2.1,e2.2,e3.1,e3.2,Nat.zero_mul,Nat.zero_add]
theorem zzD{x:List Nat}(h:x.length=4):∃a b c d,x=[a,b,c,d]:=by
 rcases x with _|⟨a,_|⟨b,_|⟨c,_|⟨d,_|⟨e,x⟩⟩⟩⟩⟩
 ·exact nomatch h
 ·exact nomatch h
 ·exact nomatch h
 ·exact nomatch h
 ·exact⟨a,b,c,d,rfl⟩
 ·exact nomatch h
theorem zoV(x y:List Nat):zbI (x++y)=zbI x*16^y.length+zbI y:=by
 have go:∀(y:List Nat)(n:Nat),y.foldl (λacc c=>acc*16+zd9 c) n=n*16^y.length+y.foldl (λacc c=>acc*16+zd9 c) 0:=λy=>by
  induction y with
  |nil=>intro n;simp
  |cons c y ih=>
   intro n;rw[List.foldl_cons,ih,List.foldl_cons,ih (0*16+zd9 c),List.length_cons,Nat.pow_succ,Nat.zero_mul,Nat.zero_add,Nat.add_mul,Nat.mul_assoc,Nat.mul_comm 16,Nat.add_assoc]
 show(x++y).foldl (λacc c=>acc*16+zd9 c) 0=_;rw[List.foldl_append,go];rfl
theorem zzw{T:List Nat}{n:Nat}(hn:n<65536)(h:zca (zcM T) (zhB n) 0 (zcM T).length=none):Sp T n:=by
 have four:∀p,(cut T p (p+4)).length=4->(cut T p (p+4)).all zbr=true->zbI (cut T p (p+4))≠n:=λp hl hx hv=>by
  obtain⟨a,b,c,d,e⟩:=zzD hl;rw[e]at hx hv;have hm:∀x∈[a,b,c,d],zbr x=true:=λx hx'=>yK.mp hx x hx';have ha:=hm a (by simp);have hb:=hm b (by simp);have hc:=hm c (by simp);have hd:=hm d (by simp);obtain⟨x,y,e2⟩:=zs5 e ha hb hc hd;rw[←zAI hv (zkP ha) (zkP hb) (zkP hc) (zkP hd)]at e2;rw[e2]at h;exact zwD (by exact yD (yb 3)) h
 intro p k hk hl hx hv;rcases hk with rfl|rfl
 ·exact four p hl hx hv
 ·have hc:cut T p (p+8)=cut T p (p+4)++cut T (p+4) (p+8):=(zwe (by omega) (by omega)).symm
  have h2:(cut T (p+4) (p+4+4)).length=4:=by
   have a1:(cut T p (p+4)).length≤4:=yj (zkS T p (p+4)) (yG (Nat.add_sub_cancel_left ..));have a2:(cut T (p+4) (p+8)).length≤4:=yj (zkS T (p+4) (p+8)) (yG (Nat.add_sub_add_left p 8 4));rw[hc,List.length_append]at hl;exact zAH a1 a2 hl
  rw[hc,List.all_append]at hx;have hx2:=(yu.mp hx).2;refine four (p+4) h2 hx2 ?_;show zbI (cut T (p+4) (p+8))=n;rw[hc,zoV,show(cut T (p+4) (p+8)).length=4 from h2]at hv;exact zAA hv hn
theorem Sp.take{T:List Nat}{n:Nat}(h:Sp T n)(k:Nat):Sp (T.take k) n:=λp j hj hl hx hv=>by
 have hle:p+j≤k:=by
  have h1:=zfl (by omega) hl;rw[List.length_take]at h1;omega
 have e:cut (T.take k) p (p+j)=cut T p (p+j):=zhS λi _ h2=>by rw[List.getElem?_take,if_pos (by omega)]
 rw[e]at hl hx hv;exact h p j hj hl hx hv
noncomputable def zpL(c:Nat):Bool:=decide (c=52)||decide (c=53)
theorem zqV(x:Nat):[x].countP zpL≤1:=List.countP_le_length
theorem zwc(c:Nat):(Unicode.lowerOf c).countP zpL≤1:=by
 unfold Unicode.lowerOf Unicode.image;cases h:UnicodeData.severalLower.lookup c with
 |none=>exact zqV _
 |some cs=>
  have hm:cs∈UnicodeData.severalLower.map (·.2):=by
   revert h;generalize UnicodeData.severalLower=l
   induction l with
   |nil=>exact λh=>nomatch h
   |cons x l ih=>
    intro h;rw[List.lookup_cons]at h
    split at h
    ·obtain rfl:=yi h
     exact yp
    ·exact ym _ (ih h)
  have:∀cs∈UnicodeData.severalLower.map (·.2),cs.countP zpL≤1:=by right
  exact this cs hm
theorem zxn(T:Array Nat)(i:Nat):(Unicode.lowerAt T i).countP zpL≤1:=by
 unfold Unicode.lowerAt;cases T[i]? with
 |none=>exact yb _
 |some c=>
  show(if(c==0x3A3&&Unicode.endsWord T i)=true then[0x3C2]else Unicode.lowerOf c).countP zpL≤1
  split
  ·exact zqV _
  ·exact zwc c
theorem zpP(T:List Nat):(zcM T).countP zpL≤T.length:=by
 rw[zot,List.countP_flatten];have h:∀x∈(T.mapIdx λi _=>Unicode.lowerAt T.toArray i),x.countP zpL≤1:=λx hx=>by
  obtain⟨i,hi,rfl⟩:=List.mem_mapIdx.mp hx;exact zxn ..
 have hl:(T.mapIdx λi _=>Unicode.lowerAt T.toArray i).length=T.length:=List.length_mapIdx;rw[←hl];revert h;generalize (T.mapIdx λi _=>Unicode.lowerAt T.toArray i)=l;intro h
 induction l with
 |nil=>exact yq _
 |cons x l ih=>
  rw[List.map_cons,List.sum_cons,List.length_cons];have h1:=h x yp;have h2:=ih λy hy=>h y (ym _ hy);omega
theorem zj6:∀a b:Fin 16,fig a.1=fig b.1->a.1=b.1:=by right
theorem zqG{a b:Nat}(ha:a<65536)(hb:b<65536)(h:zhB a=zhB b):a=b:=by
 unfold zhB at h;obtain⟨h1,h⟩:=yM h;obtain⟨h2,h⟩:=yM h;obtain⟨h3,h⟩:=yM h;obtain⟨h4,h⟩:=yM h;have lt:∀{n:Nat},n<65536->n/4096<16:=λh=>Nat.div_lt_of_lt_mul h;have md:∀n:Nat,n%16<16:=λn=>Nat.mod_lt n (by decide);have e1:a/4096=b/4096:=zj6 ⟨a/4096,lt ha⟩ ⟨b/4096,lt hb⟩ h1;have e2:a/256%16=b/256%16:=zj6 ⟨a/256%16,md _⟩ ⟨b/256%16,md _⟩ h2;have e3:a/16%16=b/16%16:=zj6 ⟨a/16%16,md _⟩ ⟨b/16%16,md _⟩ h3;have e4:a%16=b%16:=zj6 ⟨a%16,md _⟩ ⟨b%16,md _⟩ h4;have go:∀n:Nat,((n/4096*16+n/256%16)*16+n/16%16)*16+n%16=n:=λn=>by
  rw[zy1,zAu,Nat.div_add_mod',Nat.div_add_mod',Nat.div_add_mod']
 rw[←go a,←go b,e1,e2,e3,e4]
noncomputable def zsw(x:List Nat):Bool:=match x.head? with
 |some c=>zpL c
 |none=>false
theorem zwd(U:List Nat):(((List.range U.length).map λi=>cut U i (i+4)).filter zsw).length≤U.countP zpL:=by
 have e:U=(List.range U.length).map λi=>U[i]?.getD 0:=List.ext_getElem (by rw[List.length_map,List.length_range]) λi h1 h2=>by
  rw[List.getElem_map,List.getElem_range,List.getElem?_eq_getElem h1];rfl
 have e2:U.countP zpL=(List.range U.length).countP λi=>zpL (U[i]?.getD 0):=by
  conv=>lhs;rw[e]
  rw[List.countP_map];rfl
 rw[e2,←List.countP_eq_length_filter,List.countP_map];refine List.countP_mono_left λi hi h=>?_;have hi:=yX.mp hi;have h3:(cut U i (i+4))[0]?=U[i]?:=zem (by omega);have h4:zsw (cut U i (i+4))=true:=h;unfold zsw at h4;rw[List.head?_eq_getElem?,h3,List.getElem?_eq_getElem hi]at h4;rw[List.getElem?_eq_getElem hi];exact h4
noncomputable def zdc(T:List Nat)(n:Nat):Bool:=(zca (zcM T) (zhB n) 0 (zcM T).length).isSome
theorem zmR(T js:List Nat)(hn:js.Nodup)(hj:∀j∈js,j<1000)(hs:∀j∈js,zdc T (19968+j)=true):js.length≤T.length:=by
 refine yj ?_ (yj (zwd (zcM T)) (zpP T));rw[←List.length_map (f:=λj=>zhB (19968+j))];refine List.Nodup.length_le_of_subset ?_ λx hx=>?_
 ·refine List.pairwise_map.mpr (List.Pairwise.imp_of_mem (λ{a b} ha hb h z=>h ?_) hn)
  have lt:∀{a},a∈js->19968+a<65536:=λha=>Nat.lt_trans (Nat.add_lt_add_left (hj _ ha) _) (by decide);exact Nat.add_left_cancel (zqG (lt ha) (lt hb) z)
 ·obtain⟨j,hj',rfl⟩:=List.mem_map.mp hx
  have h:=hs j hj';have hlt:=hj j hj';unfold zdc at h;obtain⟨i,hi⟩:=yI.mp h;have hA:=List.find?_some hi;have hA2:zdz (zcM T) (zhB (19968+j)) (zcM T).length i=true:=hA;have hlen:i+4≤(zcM T).length:=yC (yu.mp hA2).1;rw[zoA (by exact Nat.succ_le_succ (Nat.zero_le 3))]at hA2;have hc:cut (zcM T) i (i+4)=zhB (19968+j):=hA2;refine List.mem_filter.mpr ⟨List.mem_map.mpr ⟨i,yX.mpr (by omega),hc⟩,?_⟩;show zpL (fig ((19968+j)/4096))=true;have:(19968+j)/4096=4∨(19968+j)/4096=5:=by omega
  rcases this with e|e
  ·rw[e];decide
  ·rw[e];decide
noncomputable def zxe(T:List Nat)(j:Nat):Bool:=decide (19968+j∉T) && !zdc T (19968+j)
noncomputable def ztR(T:List Nat):List Nat:=(List.range (2*T.length+2)).filter (zxe T)
theorem zv7{T:List Nat}(hl:T.length≤450):2≤(ztR T).length:=by
 have h1:=List.length_eq_countP_add_countP (l:=List.range (2*T.length+2)) λj=>decide (19968+j∉T);rw[List.countP_eq_length_filter,List.countP_eq_length_filter,List.length_range]at h1;have h2:(((List.range (2*T.length+2)).filter λj=>decide ¬decide (19968+j∉T)=true).map (19968 + ·)).length≤T.length:=by
  refine List.Nodup.length_le_of_subset ?_ λx hx=>?_
  ·exact List.Pairwise.map _ (λa b h z=>h (Nat.add_left_cancel z)) (List.Nodup.sublist List.filter_sublist List.nodup_range)
  ·obtain⟨j,hj,e⟩:=List.mem_map.mp hx
   have:=(List.mem_filter.mp hj).2;rw[←e];simpa using this
 rw[List.length_map]at h2;have h3:=List.length_eq_countP_add_countP (l:=(List.range (2*T.length+2)).filter λj=>decide (19968+j∉T)) λj=>zdc T (19968+j);rw[List.countP_eq_length_filter,List.countP_eq_length_filter]at h3;have h4:=zmR T (((List.range (2*T.length+2)).filter λj=>decide (19968+j∉T)).filter λj=>zdc T (19968+j)) (List.Nodup.sublist (List.filter_sublist.trans List.filter_sublist) List.nodup_range) (λj hj=>by
  have:=yX.mp (List.mem_filter.mp (List.mem_filter.mp hj).1).1;omega) λj hj=>(List.mem_filter.mp hj).2
 have h5:(((List.range (2*T.length+2)).filter λj=>decide (19968+j∉T)).filter λj=>decide ¬zdc T (19968+j)=true)=ztR T:=by
  rw[List.filter_filter];unfold ztR;refine List.filter_congr λj _=>?_;unfold zxe;rw[Bool.and_comm]
  congr 1
  cases zdc T (19968+j)<;>rfl
 rw[h5]at h3;omega
theorem zwZ:zaz zgQ (ofString "_law_text")=some zey:=by kernel_rfl
theorem zrO{r:R}{Q:Res->Prop}{X:Err->Prop}(h:zsD r)(k:Q (.pl (.bool false))):neP (toL r) (toL r) Q X:=by
 refine yl (zr3 h) (yl (zr3 h) ?_);rw[zwq];exact k
theorem zzB{c:Nat}{s:List Nat}{Q:Res->Prop}{X:Err->Prop}(k:Q (.pl (.bool (!decide (c∈s))))):zy4 (.str [c]) (.str s) Q X:=by
 show Q (.pl (.bool (!(zca s [c] 0 s.length).isSome)));rw[zyo];exact k
theorem zxp{x y m:Nat}{Q:Res->Prop}{X:Err->Prop}(hx:x≤1000000)(hy:y≤1000000)(e:y-x=m)(k:Q (.pl (.rng ((List.range m).map λj:Nat=>.int (x+j:Nat))))):zjE [.int (x:Nat),.int (y:Nat)] Q X:=by
 have lo:∀z:Nat,(-1000000:Int)≤(z:Nat):=λz=>Int.le_trans (by decide:(-1000000:Int)≤0) (yz z);refine yl (lo x) (yl (yR.mpr hx) (yl (lo y) (yl (yR.mpr hy) ?_)));have e1:(((y:Nat):Int)-((x:Nat):Int)).toNat=m:=by omega
 show Q (.pl (.rng ((List.range (((y:Nat):Int)-((x:Nat):Int)).toNat).map λj:Nat=>.int (((x:Nat):Int)+(j:Int)))));rw[e1];exact k
theorem ztb{s:List Nat}{q:Nat}(hs:Chr s):zsD (zhI s q):=by
 unfold zhI;have h:=zqP (s:=s) (ml:=true) (p:=q) hs;cases e:zcm s true q with
 |error m=>rw[e]at h;exact h
 |ok x=>
  rw[e]at h;obtain⟨p',t⟩:=x;exact zrX (by decide) h
theorem zvV(s:List Nat)(p:Nat):∃b,lfN s p=b+1∧b≤p+3:=by
 unfold lfN;by_cases h:cut s (p+3) (p+3+1)=[10]
 ·rw[if_pos h];exact zbO (p+3) rfl (yq _)
 ·rw[if_neg h];exact zbO (p+2) rfl (yh _)
@[reducible]noncomputable def lw6(ns:List Int)(T:List Nat)(c2 c4 c5 c6 c7 c8 c9 c10:Slot):Sl:=[.val (.lst (ns.map .int)),.val (.str T),c2,.val (.str zza),c4,c5,c6,c7,c8,c9,c10]
theorem zkM{k:Nat}(h:k<16):zza[k]?=some (fig k):=by
 have:∀k:Fin 16,zza[k.1]?=some (fig k.1):=by right
 exact this ⟨k,h⟩
section
variable{ns:List Int}{n:Nat}{T:List Nat}{c2 c4 c5 c6 c7 c8 c9 c10:Slot}{K:Fl->Sl->Prop}{X:Err->Sl->Prop}
theorem ztL{j:Nat}{es:List D}(hl:T.length≤450)(hj:j<1000)(he:es.length≤1000)
  (h0:zxe T j=false->∀c5,K .next (lw6 ns T (.own es) (.val (.int (19968+j:Nat))) c5 c6 c7 c8 c9 c10))
  (h1:zxe T j=true->∀b c5,K .next (lw6 ns T (.own (es++[.tstr [19968+j] b])) (.val (.int (19968+j:Nat))) c5 c6 c7 c8 c9 c10)) :
  zaf zk5 (zaf zkX zap) K X (lw6 ns T (.own es) (.val (.int (19968+j:Nat))) c5 c6 c7 c8 c9 c10):=by
 unfold zxe zdc at h0 h1;generalize hm:19968+j=m at h0 h1⊢;have hm2:m<65536:=by omega
 refine zjO (a:=m) (b:=4096) (by decide) (by right) ?_;refine zc7 (p:=m/4096) (zkM (by omega)) (by omega) ?_;refine zjO (a:=m) (b:=256) (by decide) (by right) ?_;refine znj (a:=m/256) (b:=16) (by decide) ?_;refine zc7 (p:=m/256%16) (zkM (by omega)) (by omega) ?_;refine zeN (x:=[_]) (y:=[_]) (za3 (zbv (a:=1) (b:=1) (yq 1) (yq 1) (by decide))) ?_;refine zjO (a:=m) (b:=16) (by decide) (by right) ?_;refine znj (a:=m/16) (b:=16) (by decide) ?_;refine zc7 (p:=m/16%16) (zkM (by omega)) (by omega) ?_;refine zeN (x:=[_]++[_]) (y:=[_]) (za3 (zbv (a:=2) (b:=1) (yq 2) (yq 1) (by decide))) ?_;refine znj (a:=m) (b:=16) (by decide) ?_;refine zc7 (p:=m%16) (zkM (by omega)) (by omega) ?_;refine zeN (x:=[_]++[_]++[_]) (y:=[_]) (za3 (zbv (a:=3) (b:=1) (yq 3) (yq 1) (by decide))) ?_;have hb:((m:Nat):Int)≤1114111:=by omega
 have hlT:T.length≤1000000:=yj hl (by decide);refine yl (yz _) (yl hb ?_);refine zzB (c:=m) ?_;by_cases e1:m∈T
 ·refine zaY (by rw[decide_eq_true e1];rfl) ?_
  refine zaY rfl ?_;exact h0 (by rw[decide_eq_false λz=>z e1];rfl) _
 ·refine za4 (by rw[decide_eq_false e1];rfl) ?_
  refine yl hlT ?_;show ifB (!(zca (zcM T) (zhB m) 0 (zcM T).length).isSome) _ _;cases e2:(zca (zcM T) (zhB m) 0 (zcM T).length).isSome with
  |true=>
   refine zaY rfl ?_;refine zaY rfl ?_;exact h0 (by rw[e2,Bool.not_true,Bool.and_false]) _
  |false=>
   refine za4 rfl ?_;refine za4 rfl ?_;refine yl (yz _) (yl hb λb=>?_);refine yl (yj he (by decide)) ?_;exact h1 (by rw[e2,decide_eq_true e1];rfl) b _
end
theorem zA0{α:Type}{l:List α}(h:l.length=4):∃a b c d,l=[a,b,c,d]:=by
 rcases l with _|⟨a,l⟩
 ·exact absurd h.symm (Nat.succ_ne_zero 3)
 ·left
  obtain⟨b,c,d,e⟩:=zze (Nat.succ.inj h);exact⟨a,b,c,d,by rw[e]⟩
section
variable{ns:List Int}{n:Nat}{T:List Nat}{c2 c4 c5 c6 c7 c8 c9 c10:Slot}{K:Fl->Sl->Prop}{X:Err->Sl->Prop}
theorem zkQ(hl:T.length≤450):∀(js:List Nat)(l:List (Nat×Nat)){c4 c5:Slot},(∀j∈js,j<1000)->l.length+js.length≤1000 ->
  (∀l':List (Nat×Nat),l'.map (·.1)=l.map (·.1)++(js.filter (zxe T)).map (19968 + ·)->∀c4 c5,K .next (lw6 ns T (.own (l'.map tkD)) c4 c5 c6 c7 c8 c9 c10)) ->
  zu7 4 (zaf zk5 (zaf zkX zap)) (js.map λj:Nat=>.int (19968+j:Nat)) K X (lw6 ns T (.own (l.map tkD)) c4 c5 c6 c7 c8 c9 c10)
 |[],l,c4,c5,_,_,k=>k l (List.append_nil _).symm c4 c5
 |j::js,l,c4,c5,hj,hlen,k=>by
  have hj0:=hj j yp;have hjs:∀i∈js,i<1000:=λi hi=>hj i (ym _ hi);rw[List.length_cons]at hlen;refine ztL (j:=j) hl hj0 (by rw[List.length_map];omega) (λh c5=>?_) λh b c5=>?_
  ·refine zkQ hl js l hjs (by omega) λl' e=>k l' ?_
   rw[e,List.filter_cons_of_neg (by rw[h];decide)]
  ·have e1:l.map tkD++[.tstr [19968+j] b]=(l++[(19968+j,b)]).map tkD:=by rw[List.map_append];rfl
   rw[e1];refine zkQ hl js (l++[(19968+j,b)]) hjs (by rw[List.length_append];simp only[List.length_singleton];omega) λl' e=>k l' ?_;rw[e,List.filter_cons_of_pos h,List.map_append,List.map_cons,List.append_assoc];rfl
structure Two(n:Nat)(T:List Nat)(es:List D)(ff vv:Nat×Nat):Prop where
 i0:es[0]?=some (tkD ff)
 i1:es[1]?=some (tkD vv)
 q0:ff.2≤n
 q1:vv.2≤n
 f:Fv T ff.1 vv.1
theorem zyj{l:List (Nat×Nat)}{k:Nat}(hl:T.length≤450)(h:l.map (·.1)=(ztR T).map (19968 + ·))(hk:∀d∈l.map tkD,zz4 d≤k):∃ff vv,Two k T (l.map tkD) ff vv:=by
 have h2:=zv7 hl;have hlen:2≤l.length:=by
  have:=ya List.length h;rw[List.length_map,List.length_map]at this;omega
 obtain⟨x,y,r,rfl⟩:∃x y r,l=x::y::r:=by
  rcases l with _|⟨x,_|⟨y,r⟩⟩
  ·exact absurd (show 2≤0 from hlen) (by decide)
  ·exact absurd (show 2≤1 from hlen) (by decide)
  ·exact⟨x,y,r,rfl⟩
 obtain⟨a,b,js,hf⟩:∃a b js,ztR T=a::b::js:=by
  generalize ztR T=z at h2;rcases z with _|⟨a,_|⟨b,js⟩⟩
  ·exact absurd (show 2≤0 from h2) (by decide)
  ·exact absurd (show 2≤1 from h2) (by decide)
  ·exact⟨a,b,js,rfl⟩
 rw[hf,List.map_cons,List.map_cons,List.map_cons,List.map_cons]at h;obtain⟨e1,h⟩:=yM h;obtain⟨e2,_⟩:=yM h;have nd:(ztR T).Nodup:=List.Nodup.sublist List.filter_sublist List.nodup_range;have hm:∀j∈ztR T,j<1000∧19968+j∉T∧zdc T (19968+j)=false:=λj hj=>by
  obtain⟨g1,g2⟩:=List.mem_filter.mp hj;obtain⟨g3,g4⟩:=yu.mp (show(decide (19968+j∉T) && !zdc T (19968+j))=true from g2);have:=yX.mp g1;exact⟨by omega,yC g3,by simpa using g4⟩
 rw[hf]at hm nd;have ma:=hm a yp;have mb:=hm b (ym _ yp);have hab:a≠b:=λe=>(List.nodup_cons.mp nd).1 (e▸yp);have sp:∀j,j<1000->zdc T (19968+j)=false->Sp T (19968+j):=λj hj hs=>zzw (by omega) (by
  unfold zdc at hs;exact Option.not_isSome_iff_eq_none.mp (by rw[hs];decide))
 have e1:x.1=19968+a:=e1;have e2:y.1=19968+b:=e2;refine⟨x,y,rfl,rfl,hk (tkD x) yp,hk (tkD y) (ym _ yp),?_⟩;rw[e1,e2];exact⟨by omega,by omega,by omega,by omega,ma.2.1,mb.2.1,by omega,sp a ma.1 ma.2.2,sp b mb.1 mb.2.2⟩
theorem Fv.pre{f v:Nat}(h:Fv T f v)(k:Nat):Fv (T.take k) f v:=
 ⟨h.g0,h.g1,h.c0,h.c1,λz=>h.n0 (List.mem_of_mem_take z),λz=>h.n1 (List.mem_of_mem_take z),h.ne,h.s0.take k,h.s1.take k⟩
@[reducible]noncomputable def zrQ(n:Nat):PS:=zaf (znK n) (zaf (zlg n) (zaf (zkG n) (zaf (zki n) zap)))
variable{P:List Nat}{es:List D}{ff vv:Nat×Nat}{p:Nat}
theorem zma{c:PS}(hP:okT P=true)(k:c K X (lw6 ns T c2 c4 c5 (.val (.int (p:Nat))) (.val (.str P)) c8 (.val (.int (lfN P p:Nat))) c10)) :
  zaf (zlg n) (zaf (zkG n) c) K X (lw6 ns T c2 c4 c5 (.val (.int (p:Nat))) (.val (.str P)) c8 c9 c10):=by
 refine zdD (z:=((p+3:Nat):Int)) rfl ?_;refine zdD (z:=((p+3+1:Nat):Int)) rfl ?_;refine zdL (p:=p+3) (q:=p+3+1) hP ?_;refine zum ((zlc hP).cut _ _) (Chr.of (by decide)) ?_;unfold lfN at k;by_cases e:cut P (p+3) (p+3+1)=[10]
 ·rw[if_pos e]at k
  exact za4 (yt e) k
 ·rw[if_neg e]at k
  exact zaY (yv e) k
theorem zrW{b:Nat}{r:R}(hP:okT P=true)(hl:P.length≤450)(hb:b≤599)(W:Two n P es ff vv)(hr:r=zhI P (b+1))(h10:c10=.val (toL r)∨∃e,r=.error e∧c10=.own [.str e])
  (k:∀c10,K .next (lw6 ns T (.own es) c4 c5 (.val (.int (p:Nat))) (.val (.str P)) c8 (.val (.int (b+1:Nat))) c10)) :
  zaf (zki n) zap K X (lw6 ns T (.own es) c4 c5 (.val (.int (p:Nat))) (.val (.str P)) c8 (.val (.int (b+1:Nat))) c10):=by
 obtain⟨i0,i1,q0,q1,F⟩:=W;have hc:zsD r:=hr▸ztb (zlc hP);have he:(toL r).isExc=false:=by cases r<;>rfl
 rcases h10 with rfl|⟨e,rfl,rfl⟩
 ·have ee:∀{P:Prop},zy9 (toL r).isExc P=P:=λ{P}=>by rw[he]
  show zy9 (toL r).isExc _;rw[ee];refine zlQ (j:=0) (by decide) i0 rfl ?_;refine zlQ (j:=1) (by decide) i1 rfl ?_;refine zrF hP hl hb F q0 q1 ?_;rw[←hr];refine zrO hc ?_;exact zaY rfl (k _)
 ·refine zlQ (j:=0) (by decide) i0 rfl ?_
  refine zlQ (j:=1) (by decide) i1 rfl ?_;refine zrF hP hl hb F q0 q1 ?_;rw[←hr];refine zrO (r:=.error e) hc ?_;exact zaY rfl (k _)
theorem zmm(hP:okT P=true)(hl:P.length≤450)(hp:p≤500)(W:Two n P es ff vv)
  (k:∀c8 c9 c10,K .next (lw6 ns T (.own es) c4 c5 (.val (.int (p:Nat))) (.val (.str P)) c8 c9 c10)) :
  zrQ n K X (lw6 ns T (.own es) c4 c5 (.val (.int (p:Nat))) (.val (.str P)) c8 c9 c10):=by
 refine zrH (p:=p) hP (by omega) ?_;refine za1 (zvV P p) λb hb hb2=>?_;cases hr:zhI P (lfN P p)with
 |error e=>
  refine yl rfl ?_;refine yl (zds rfl) ?_;refine zma (n:=n) hP ?_;rw[hb]at hr⊢;exact zrW (r:=.error e) hP hl (by omega) W hr.symm (.inr ⟨e,rfl,rfl⟩) λc10=>k ..
 |ok x=>
  obtain⟨q,t⟩:=x;refine zma (n:=n) hP ?_;rw[hb]at hr⊢;exact zrW (r:=.ok (q,t)) hP hl (by omega) W hr.symm (.inl rfl) λc10=>k ..
theorem zpi{c7:Slot}(hT:okT T=true)(hl:T.length≤450)(hp:p≤500)(W:Two n T es ff vv)
  (k:∀c7 c8 c9 c10,K .next (lw6 ns T (.own es) c4 c5 (.val (.int (p:Nat))) c7 c8 c9 c10)) :
  zaf (zkn n) zap K X (lw6 ns T (.own es) c4 c5 (.val (.int (p:Nat))) c7 c8 c9 c10):=by
 refine zdD (z:=((p+3:Nat):Int)) rfl ?_;refine znj (a:=p) (b:=8) (by decide) ?_;refine zdD (z:=((p+3+p%8:Nat):Int)) (Int.natCast_add ..).symm ?_;refine zk9 (q:=p+3+p%8) (yj hl (by decide)) ?_;refine yl (zds rfl) ?_;generalize p+3+p%8=q;have hl2:(T.take q).length≤450:=yj (List.length_take_le' ..) hl;have hP2:okT (T.take q)=true:=zqq (yj hl2 (by decide)) λc hc=>zlc hT c (List.mem_of_mem_take hc);refine zmm (P:=T) hT hl hp W λc8 c9 c10=>?_;refine zmm (P:=T.take q) hP2 hl2 hp ⟨W.i0,W.i1,W.q0,W.q1,W.f.pre q⟩ λc8 c9 c10=>?_;exact k ..
theorem znT(hT:okT T=true)(hl:T.length≤450)(W:Two n T es ff vv)(k:∀c6 c7 c8 c9 c10,K .next (lw6 ns T (.own es) c4 c5 c6 c7 c8 c9 c10)):∀(ps:List Nat){c6 c7 c8 c9 c10:Slot},(∀p∈ps,p≤500) ->
  zu7 6 (zaf (zkn n) zap) (ps.map λj:Nat=>.int (j:Nat)) K X (lw6 ns T (.own es) c4 c5 c6 c7 c8 c9 c10)
 |[],c6,c7,c8,c9,c10,_=>k ..
 |p::ps,c6,c7,c8,c9,c10,hp=>zpi hT hl (hp p yp) W λc7 c8 c9 c10=>znT hT hl W k ps λx hx=>hp x (ym _ hx)
theorem zsO{Q:D->Prop}{X:Err->Prop}(hT:okT T=true)(hl:T.length≤450)(W:Two n T es ff vv)(hQ:Q (.bool true)):znr n (zn4 Q) (λx _=>X x) (lw6 ns T (.own es) c4 c5 c6 c7 c8 c9 c10):=by
 refine yl (yj hl (by decide)) ?_;refine zdD (z:=((T.length+2:Nat):Int)) rfl ?_;refine zrN (by omega) ?_;exact znT hT hl W (λc6 c7 c8 c9 c10=>hQ) _ (λp hp=>by have:=yX.mp hp;omega)
theorem zuf{Q:D->Prop}{X:Err->Prop}(hT:okT T=true)(hl:T.length≤450)(hQ:Q (.bool true)):zmE (zn4 Q) (λx _=>X x) (lw6 ns T (.own []) .unb .unb .unb .unb .unb .unb .unb):=by
 refine yl (λds h=>?_) ?_
 ·rcases h with h|h
  ·exact(yi (ya Slot.own? (yi h))).symm
  ·exact nomatch yi h
 ·refine yl (yj hl (by decide)) ?_
  refine ztp (by right) ?_;refine zdD (z:=((19970+2*T.length:Nat):Int)) (by rw[Int.natCast_add,Int.natCast_mul];rfl) ?_;refine zxp (x:=19968) (m:=2*T.length+2) (by decide) (by omega) (by omega) ?_;refine zkQ hl (List.range (2*T.length+2)) [] (λj hj=>by have:=yX.mp hj;omega) (by rw[List.length_range];simp only[List.length_nil];omega) λl' e c4 c5=>?_;refine yl rfl λk hk htk=>?_;obtain⟨ff,vv,W⟩:=zyj hl (show l'.map (·.1)=(ztR T).map (19968 + ·)from e) (htk _ (.inl rfl));exact zsO hT hl W hQ
theorem zrl{Q:D->Prop}{X:Err->Prop}(hn:ns.length≤63)(hQ:Q (.bool true)):zwL (zn4 Q) (λx _=>X x) (start [.lst (ns.map .int)] 10++List.replicate 0 (.cel none)):=by
 refine⟨_,_,rfl,zwZ,rfl,(by decide),λ_=>rfl,?_⟩;refine zsQ (yl hn λT hc hl=>?_);have hT:okT T=true:=zqq (yj hl (by decide)) hc;exact zuf hT hl hQ
theorem zxt(ds dk:List D)(Q:D->Prop)(X:Err->Prop)(h:zbH (zs3 ds dk) Q X):dk=[]∧ds.length=1∧zwL (zn4 Q) (λx _=>X x) (start ds 10++List.replicate 0 (.cel none)):=by
 refine zcN (znU h) λns e1 e2 h2=>?_;refine zbP (zdM h2) λhn h3=>?_;rw[e1,e2];exact⟨rfl,rfl,zrl (yC hn) (zfR h3)⟩
end
section
variable{S:St0}(D0:Std S)(NG:NoG S)(G:Gl S gl8)(E0:zaw S)
include D0 NG G E0
theorem zi8(TB:zaB S (zaz zcg))(hlf:S.lf=zzo p8 25 S)(hB:S.base.BuiltinsAt S.mg S.tab)(CL:zjk S 10 false (λds=>zbH (zcx ds []))){a:Addr}{o:Obj}{pm cd doc kV:Value}(h1:S.mg (ofString "suffixed_err")=some (.ref a))(h2:S.base.get? a=some o)(h3:o.data=.func {docDef (ofString "suffixed_err") (zaQ p8 25) (zah p8 25) (zau p8 25) pm cd doc with defaults:=.none,kwdefaults:=kV})(h4:S.base.CodeRec cd (ofString "suffixed_err"))(hcf:zd1 S cd):zaB S (zaz ((ofString "suffixed_err",zbg)::zcg)):=by
 refine zfB D0 (sh:=ze1) (ps:=[ofString "src",ofString "pos",ofString "msg"]) (rest:=[ofString "coord_repr"]) (kws:=[]) h1 h2 h3 h4 (by kernel_rfl) (by kernel_rfl) (by kernel_rfl) rfl (by kernel_rfl) (by kernel_rfl) (by kernel_rfl) (by right) (λs vs ks e1 e2=>?_) (by decide) (zjf D0 NG G E0 TB hlf hB CL) zyK (λ_=>⟨hcf,by right⟩) TB;obtain rfl:=zu5 e2;obtain⟨v0,v1,v2,rfl⟩:=zze (l:=vs) (by simpa using e1);exact BindsTo.of_eq (by kernel_rfl)
theorem zl2(TB:zaB S (zaz zdK)){a:Addr}{o:Obj}{pm cd doc kV:Value}(h1:S.mg (ofString "skip_chars")=some (.ref a))(h2:S.base.get? a=some o)(h3:o.data=.func {docDef (ofString "skip_chars") (zaQ p8 17) (zah p8 17) (zau p8 17) pm cd doc with defaults:=.none,kwdefaults:=kV})(h4:S.base.CodeRec cd (ofString "skip_chars")):zaB S (zaz ((ofString "skip_chars",zdN)::zdK)):=by
 refine zfB D0 (sh:=zgu) (ps:=[ofString "src",ofString "pos",ofString "chars"]) (rest:=[]) (kws:=[]) h1 h2 h3 h4 (by kernel_rfl) (by kernel_rfl) (by kernel_rfl) rfl (by kernel_rfl) (by kernel_rfl) (by kernel_rfl) (by right) (λs vs ks e1 e2=>?_) (by decide) (zlK D0 NG G E0 TB) zxu (by intro h;exact nomatch h) TB;obtain rfl:=zu5 e2;obtain⟨v0,v1,v2,rfl⟩:=zze (l:=vs) (by simpa using e1);exact BindsTo.of_eq (by kernel_rfl)
theorem zdW(TB:zaB S (zaz za8)){a:Addr}{o:Obj}{pm cd doc kV:Value}(h1:S.mg (ofString "is_unicode_scalar_value")=some (.ref a))(h2:S.base.get? a=some o)(h3:o.data=.func {docDef (ofString "is_unicode_scalar_value") (zaQ p8 26) (zah p8 26) (zau p8 26) pm cd doc with defaults:=.none,kwdefaults:=kV})(h4:S.base.CodeRec cd (ofString "is_unicode_scalar_value")):zaB S (zaz ((ofString "is_unicode_scalar_value",zbA)::za8)):=by
 refine zfB D0 (sh:=zb8) (ps:=[ofString "codepoint"]) (rest:=[]) (kws:=[]) h1 h2 h3 h4 (by kernel_rfl) (by kernel_rfl) (by kernel_rfl) rfl (by kernel_rfl) (by kernel_rfl) (by kernel_rfl) (by right) (λs vs ks e1 e2=>?_) (by decide) (zd0 D0 NG G E0 TB) ztX (by intro h;exact nomatch h) TB;obtain rfl:=zu5 e2;obtain⟨v0,rfl⟩:=zxc (l:=vs) (by simpa using e1);exact BindsTo.of_eq (by kernel_rfl)
theorem zhA(TB:zaB S (zaz zcn)){a:Addr}{o:Obj}{pm cd doc kV:Value}(h1:S.mg (ofString "parse_hex_char")=some (.ref a))(h2:S.base.get? a=some o)(h3:o.data=.func {docDef (ofString "parse_hex_char") (zaQ p8 22) (zah p8 22) (zau p8 22) pm cd doc with defaults:=.none,kwdefaults:=kV})(h4:S.base.CodeRec cd (ofString "parse_hex_char")):zaB S (zaz ((ofString "parse_hex_char",zcq)::zcn)):=by
 refine zfB D0 (sh:=zed) (ps:=[ofString "src",ofString "pos",ofString "hex_len"]) (rest:=[ofString "hex_str",ofString "hex_int"]) (kws:=[]) h1 h2 h3 h4 (by kernel_rfl) (by kernel_rfl) (by kernel_rfl) rfl (by kernel_rfl) (by kernel_rfl) (by kernel_rfl) (by right) (λs vs ks e1 e2=>?_) (by decide) (zhE D0 NG G E0 TB) zzJ (by intro h;exact nomatch h) TB;obtain rfl:=zu5 e2;obtain⟨v0,v1,v2,rfl⟩:=zze (l:=vs) (by simpa using e1);exact BindsTo.of_eq (by kernel_rfl)
theorem zeg(TB:zaB S (zaz zaU)){a:Addr}{o:Obj}{pm cd doc kV:Value}(h1:S.mg (ofString "parse_basic_str_escape")=some (.ref a))(h2:S.base.get? a=some o)(h3:o.data=.func {docDef (ofString "parse_basic_str_escape") (zaQ p8 20) (zah p8 20) (zau p8 20) pm cd doc with defaults:=.none,kwdefaults:=kV})(h4:S.base.CodeRec cd (ofString "parse_basic_str_escape")):zaB S (zaz ((ofString "parse_basic_str_escape",zbF)::zaU)):=by
 refine zfB D0 (sh:=zaR) (ps:=[ofString "src",ofString "pos",ofString "multiline"]) (rest:=[ofString "escape_id",ofString "char"]) (kws:=[ofString "multiline"]) h1 h2 h3 h4 (by kernel_rfl) (by kernel_rfl) (by kernel_rfl) rfl (by kernel_rfl) (by kernel_rfl) (by kernel_rfl) (by right) (λs vs ks e1 e2=>?_) (by decide) (zcv D0 NG G E0 TB) zzn (by intro h;exact nomatch h) TB;obtain⟨w0,rfl⟩:=zxc e2;obtain⟨v0,v1,rfl⟩:=zvr (l:=vs) (by simpa using e1);exact BindsTo.of_eq (by kernel_rfl)
theorem zcA(TB:zaB S (zaz zaH)){a:Addr}{o:Obj}{pm cd doc kV:Value}(h1:S.mg (ofString "parse_basic_str_escape_multiline")=some (.ref a))(h2:S.base.get? a=some o)(h3:o.data=.func {docDef (ofString "parse_basic_str_escape_multiline") (zaQ p8 21) (zah p8 21) (zau p8 21) pm cd doc with defaults:=.none,kwdefaults:=kV})(h4:S.base.CodeRec cd (ofString "parse_basic_str_escape_multiline")):zaB S (zaz ((ofString "parse_basic_str_escape_multiline",za0)::zaH)):=by
 refine zfB D0 (sh:=zbl) (ps:=[ofString "src",ofString "pos"]) (rest:=[]) (kws:=[]) h1 h2 h3 h4 (by kernel_rfl) (by kernel_rfl) (by kernel_rfl) rfl (by kernel_rfl) (by kernel_rfl) (by kernel_rfl) (by right) (λs vs ks e1 e2=>?_) (by decide) (zcB D0 NG G E0 TB) zxX (by intro h;exact nomatch h) TB;obtain rfl:=zu5 e2;obtain⟨v0,v1,rfl⟩:=zvr (l:=vs) (by simpa using e1);exact BindsTo.of_eq (by kernel_rfl)
theorem zha(TB:zaB S (zaz zbi)){a:Addr}{o:Obj}{pm cd doc kV:Value}(h1:S.mg (ofString "parse_basic_str")=some (.ref a))(h2:S.base.get? a=some o)(h3:o.data=.func {docDef (ofString "parse_basic_str") (zaQ p8 24) (zah p8 24) (zau p8 24) pm cd doc with defaults:=.none,kwdefaults:=kV})(h4:S.base.CodeRec cd (ofString "parse_basic_str")):zaB S (zaz ((ofString "parse_basic_str",zb4)::zbi)):=by
 refine zfB D0 (sh:=zdR) (ps:=[ofString "src",ofString "pos",ofString "multiline"]) (rest:=[ofString "error_on",ofString "parse_escapes",ofString "result",ofString "start_pos",ofString "char",ofString "parsed_escape"]) (kws:=[ofString "multiline"]) h1 h2 h3 h4 (by kernel_rfl) (by kernel_rfl) (by kernel_rfl) rfl (by kernel_rfl) (by kernel_rfl) (by kernel_rfl) (by right) (λs vs ks e1 e2=>?_) (by decide) (zhh D0 NG G E0 TB) zwh (by intro h;exact nomatch h) TB;obtain⟨w0,rfl⟩:=zxc e2;obtain⟨v0,v1,rfl⟩:=zvr (l:=vs) (by simpa using e1);exact BindsTo.of_eq (by kernel_rfl)
theorem zdF(TB:zaB S (zaz za5)){a:Addr}{o:Obj}{pm cd doc kV:Value}(h1:S.mg (ofString "parse_one_line_basic_str")=some (.ref a))(h2:S.base.get? a=some o)(h3:o.data=.func {docDef (ofString "parse_one_line_basic_str") (zaQ p8 19) (zah p8 19) (zau p8 19) pm cd doc with defaults:=.none,kwdefaults:=kV})(h4:S.base.CodeRec cd (ofString "parse_one_line_basic_str")):zaB S (zaz ((ofString "parse_one_line_basic_str",zbs)::za5)):=by
 refine zfB D0 (sh:=zb1) (ps:=[ofString "src",ofString "pos"]) (rest:=[]) (kws:=[]) h1 h2 h3 h4 (by kernel_rfl) (by kernel_rfl) (by kernel_rfl) rfl (by kernel_rfl) (by kernel_rfl) (by kernel_rfl) (by right) (λs vs ks e1 e2=>?_) (by decide) (zdG D0 NG G E0 TB) zAd (by intro h;exact nomatch h) TB;obtain rfl:=zu5 e2;obtain⟨v0,v1,rfl⟩:=zvr (l:=vs) (by simpa using e1);exact BindsTo.of_eq (by kernel_rfl)
theorem zfe(TB:zaB S (zaz zbu)){a:Addr}{o:Obj}{pm cd doc kV:Value}(h1:S.mg (ofString "parse_multiline_str")=some (.ref a))(h2:S.base.get? a=some o)(h3:o.data=.func {docDef (ofString "parse_multiline_str") (zaQ p8 23) (zah p8 23) (zau p8 23) pm cd doc with defaults:=.none,kwdefaults:=kV})(h4:S.base.CodeRec cd (ofString "parse_multiline_str")):zaB S (zaz ((ofString "parse_multiline_str",zbS)::zbu)):=by
 refine zfB D0 (sh:=zcH) (ps:=[ofString "src",ofString "pos",ofString "literal"]) (rest:=[ofString "delim",ofString "end_pos",ofString "result"]) (kws:=[ofString "literal"]) h1 h2 h3 h4 (by kernel_rfl) (by kernel_rfl) (by kernel_rfl) rfl (by kernel_rfl) (by kernel_rfl) (by kernel_rfl) (by right) (λs vs ks e1 e2=>?_) (by decide) (zeM D0 NG G E0 TB) ztM (by intro h;exact nomatch h) TB;obtain⟨w0,rfl⟩:=zxc e2;obtain⟨v0,v1,rfl⟩:=zvr (l:=vs) (by simpa using e1);exact BindsTo.of_eq (by kernel_rfl)
theorem zul(hlf:S.lf=zzo p8 25 S):zjk S 10 false (λds=>zbH (zcx ds [])):=by
 have h1:S.lf.scope=zh3 p8 25:=by rw[hlf];rfl
 have h2:S.lf.body=zon p8 25:=by rw[hlf];rfl
 refine zjk.mono (zt9 D0 (sh:=zdl) (ps:=[ofString "src",ofString "pos"]) (rest:=[ofString "line",ofString "column"]) (c:=zdJ) (calm:=false) ?_ ?_ ?_ ?_ ?_ (by kernel_rfl) ?_ (by right) rfl rfl rfl ?_ ?_) (yq _) λds Q X h=>zwx ds Q X h
 ·rw[h1];kernel_rfl
 ·rw[h1];kernel_rfl
 ·rw[h1];kernel_rfl
 ·rw[h1];rfl
 ·rw[h1]
  have:((zh3 p8 25).names.all λx=>x.2 != .cell)=true:=by kernel_rfl
  intro x hx;simpa using yK.mp this x hx
 ·have:(zdl.names.all λx=>zdl.scope.names.lookup x==some .local)=true:=by kernel_rfl
  intro x hx;simpa using yK.mp this x hx
 ·intro s vs cd hl
  obtain⟨v0,v1,rfl⟩:=zvr (l:=vs) hl;rw[hlf];exact BindsTo.of_eq (by kernel_rfl)
 ·rw[h2]
  exact zmi D0 NG G E0
theorem zxP{l:List (Str×Ctr)}(TB:zaB S (zaz zaU)){a:Addr}{o:Obj}{pm cd doc:Value}{K:Addr}{kc:Value}{kdd:Option Addr}{kh:Int}{kt:Tok}{kn:Nat}{ksl:Array (Option Value)}(h1:S.mg (ofString "parse_basic_str_escape")=some (.ref a))(h2:S.base.get? a=some o)
  (h3:o.data=.func {docDef (ofString "parse_basic_str_escape") (zaQ p8 20) (zah p8 20) (zau p8 20) pm cd doc with defaults:=.none,kwdefaults:=.ref K})(h4:S.base.CodeRec cd (ofString "parse_basic_str_escape"))(hK:S.base.get? K=some (zsR kc kdd kh kt kn ksl))(t:zaB S (zaz l)) :
  zaB S (zaz ((ofString "parse_basic_str_escape",zbz)::l)):=by
 refine zaB.cons h1 h2 h3 (zhH.mono (zuC D0 (sh:=zaR) (ps:=[ofString "src",ofString "pos",ofString "multiline"]) (rest:=[ofString "escape_id",ofString "char"]) (es:=[.bool false]) (de:=[.bool false]) h2 h3 h4 rfl rfl rfl (by kernel_rfl) (by kernel_rfl) (by kernel_rfl) rfl ?_ (by kernel_rfl) ?_ (by right) rfl (λh P=>.cons (.bool _) .nil) ?_ (zcv D0 NG G E0 TB)) (yq _) ?_) t
 ·have:((zau p8 20).names.all λx=>x.2 != .cell)=true:=by kernel_rfl
  intro x hx;simpa using yK.mp this x hx
 ·have:(zaR.names.all λx=>zaR.scope.names.lookup x==some .local)=true:=by kernel_rfl
  intro x hx;simpa using yK.mp this x hx
 ·intro s vs hst hl
  obtain⟨v0,v1,rfl⟩:=zvr (l:=vs) (by simpa using hl);exact ztH (hst _ _ hK) (by kernel_rfl)
 ·exact zy3
end
section
noncomputable abbrev zsA:=PySem.W.Fast.tw11892475500146522536 PySem.W.Fast.tw14364793385576792824
noncomputable abbrev zt2:=PySem.W.Fast.tw9404975358583537561
noncomputable abbrev zkD:=PySem.W.Fast.tw4187177175401517315
theorem zwv:denote table=zsA:=by
 rw[table_eq_tree];unfold zsA;rw[←PySem.W.Fast.te11892475500146522536,←PySem.W.Fast.te14364793385576792824]
theorem zv9:pyNext=zt2:=PySem.W.Fast.te9404975358583537561
theorem zuq:@openSeen=@zkD:=PySem.W.Fast.te4187177175401517315
noncomputable abbrev World.two(w:World)(a b:Bool):World:=(w.withFollow "special-get-raises" a).withFollow "comprehension-iter-twice" b
theorem zl0{p q:Program}{loose:List Str}{Xt:Shared->Bool}{sets:List (Str×List Str)}{β:Type}{ext:BS->β}{extV:World->β}{N:Nat}
  (h00:∀w:World,zhF p q loose Xt sets ext extV zsA zt2 zkD N (World.two w false false))
  (h01:∀w:World,zhF p q loose Xt sets ext extV zsA zt2 zkD N (World.two w false true))
  (h10:∀w:World,zhF p q loose Xt sets ext extV zsA zt2 zkD N (World.two w true false))
  (h11:∀w:World,zhF p q loose Xt sets ext extV zsA zt2 zkD N (World.two w true true))(w:World) :
  zhF p q loose Xt sets ext extV (denote table) pyNext openSeen N w:=by
 rw[zwv,zv9,zuq];have e:World.two w (w.params.followText "special-get-raises") ((w.withFollow "special-get-raises" (w.params.followText "special-get-raises")).params.followText "comprehension-iter-twice")=w:=by
  unfold World.two;rw[World.withFollow_self,World.withFollow_self]
 revert e;generalize w.params.followText "special-get-raises"=a;generalize (w.withFollow "special-get-raises" a).params.followText "comprehension-iter-twice"=b;intro e;rw[←e];cases a<;>cases b
 ·exact h00 w
 ·exact h01 w
 ·exact h10 w
 ·exact h11 w
noncomputable abbrev p08:Program:=PySem.Challenge.pw_kq0033_06
noncomputable def zyv:List Nat:=[0,1,3,4,5,6,7,8,9,10,11,13,15,16,17,18,19,21,22,23,24,25,26,28,29,30,31]
noncomputable def q08:Program:=view p08 zyv
noncomputable def zfa:List Str:=["_WallAttr","ASCII_CTRL","ILLEGAL_BASIC_STR_CHARS","ILLEGAL_MULTILINE_BASIC_STR_CHARS","ILLEGAL_MULTILINE_LITERAL_STR_CHARS","TOML_WS","TOML_WS_AND_NEWLINE","hexdigits","HEXDIGIT_CHARS","MappingProxyType","BASIC_STR_ESCAPE_REPLACEMENTS","parse_basic_str_escape"]
noncomputable def ch(n:Nat):Str:=⟨#[n]⟩
noncomputable def zyp:List Nat:=[0,1,2,3,4,5,6,7,8,9,10,11,12,13,14,15,16,17,18,19,20,21,22,23,24,25,26,27,28,29,30,31,127]
noncomputable def zwJ:List Nat:=[48,49,50,51,52,53,54,55,56,57]
noncomputable def zhn:List (Str×List Str):=[("TOML_WS",[32,9].map ch),("TOML_WS_AND_NEWLINE",[32,9,10].map ch),("ILLEGAL_BASIC_STR_CHARS",(zyp.filter (· != 9)).map ch),("ILLEGAL_MULTILINE_BASIC_STR_CHARS",(zyp.filter λc=>c != 9&&c != 10).map ch),("HEXDIGIT_CHARS",(zwJ++[97,98,99,100,101,102,65,66,67,68,69,70]).map ch)]
noncomputable def dE:DefRec×List (Str×Expr):=(⟨"parse_basic_str_escape",zaQ p08 20,zah p08 20,zau p08 20,default⟩,(kwWritten? (zaQ p08 20).kwonlyargs (zaQ p08 20).kw_defaults).getD [])
noncomputable abbrev Ext:=Option FnShape×Bool×Bool×Option (List (Option (Int×List Nat×List Nat)))
noncomputable def zkk(b:BS):Ext:=(shapeAtK b.heap dE.1.name,(dfltAt b.heap dE&&Nat.blt 0 b.toks),zqQ b.heap,zmV b.heap)
noncomputable def zgI(w:World):Ext:=(some dE.1.shape,true,true,zqC w)
set_option maxRecDepth 1000000
theorem zvP:opening p08=plainProg p08.main.scope.names:=by kernel_rfl
theorem zyV:∀w:World,(fencedOpening treeTable p08 w 600).map (λs=>(s.heap,s.gens,s.drawn,s.toks))=some (boot_heap w.params,Array.mk [],boot_drawn,boot_toks):=
 boot_open zvP (by kernel_rfl) (λs=>rfl)
theorem zp1(w:World):zhF p08 q08 zfa (λ_=>true) zhn zkk zgI zsA zt2 zkD 100000 (World.two w false false):=by
 intro y os;kernel_rfl
end
theorem zjc:defOf q08 (ofString "suffixed_err")=some (⟨ofString "suffixed_err",zaQ p8 25,zah p8 25,zau p8 25,zfU p8 25⟩,[]):=by kernel_rfl
theorem zlv:defOf q08 (ofString "skip_chars")=some (⟨ofString "skip_chars",zaQ p8 17,zah p8 17,zau p8 17,zfU p8 17⟩,[]):=by kernel_rfl
theorem zdX:defOf q08 (ofString "is_unicode_scalar_value")=some (⟨ofString "is_unicode_scalar_value",zaQ p8 26,zah p8 26,zau p8 26,zfU p8 26⟩,[]):=by kernel_rfl
theorem zhD:defOf q08 (ofString "parse_hex_char")=some (⟨ofString "parse_hex_char",zaQ p8 22,zah p8 22,zau p8 22,zfU p8 22⟩,[]):=by kernel_rfl
theorem zcC:defOf q08 (ofString "parse_basic_str_escape_multiline")=some (⟨ofString "parse_basic_str_escape_multiline",zaQ p8 21,zah p8 21,zau p8 21,zfU p8 21⟩,[]):=by kernel_rfl
theorem zhg:defOf q08 (ofString "parse_basic_str")=some (⟨ofString "parse_basic_str",zaQ p8 24,zah p8 24,zau p8 24,zfU p8 24⟩,[]):=by kernel_rfl
theorem zdC:defOf q08 (ofString "parse_one_line_basic_str")=some (⟨ofString "parse_one_line_basic_str",zaQ p8 19,zah p8 19,zau p8 19,zfU p8 19⟩,[]):=by kernel_rfl
theorem zfc:defOf q08 (ofString "parse_multiline_str")=some (⟨ofString "parse_multiline_str",zaQ p8 23,zah p8 23,zau p8 23,zfU p8 23⟩,[]):=by kernel_rfl
theorem zsU:(recsOf q08).find? (λe=>e.name==ofString "suffixed_err")=some ⟨ofString "suffixed_err",zaQ p8 25,zah p8 25,zau p8 25,zfU p8 25⟩:=by kernel_rfl
theorem zz5:specOf q08 "TOMLDecodeError"=some ("ValueError.__new__",bmV):=by kernel_rfl
theorem zzO:zyn q08 zfa zou=true:=by kernel_rfl
theorem zAD:dE.2=[(ofString "multiline",.Constant (.bool false) 0 ⟨48,50,48,55⟩)]:=by kernel_rfl
theorem zpj{mg:Str->Option Value}{h:Heap}{P:Addr}(hP:h.get? P=some {cls:=.none,data:=.fields #[]})(x:ClsAt mg h):ClsAt mg (zmx h P):=by
 obtain⟨C,o,cd,m,h1,h2,h3,h4,h5,h6⟩:=x;exact⟨C,o,cd,m,h1,zc6 hP h2 (by rw[h3];nofun),h3,h4,zfX hP h5,h6⟩
section
variable{w:World}{s₀:Shared}{mg mb:Str->Option Value}{h:Heap}{XP:(Str->Option Value)->Heap->Prop}
noncomputable abbrev S8(w:World)(mg mb:Str->Option Value)(h:Heap)(P:Addr):St0:=mkS p8 w mg mb h P 25
theorem FnAt.use{S:St0}{n:Str}{params:Arguments}{body:List Stmt}{scope:Scope}{P:Prop}(F:FnAt S n params body scope)
  (k:∀(a:Addr)(o:Obj)(pm cd doc:Value),S.mg n=some (.ref a)->S.base.get? a=some o->o.data=.func (docDef n params body scope pm cd doc)->S.base.CodeRec cd n->P):P:=
 let ⟨a,o,pm,cd,doc,h1,h2,h3,h4⟩:=F
 k a o pm cd doc h1 h2 h3 h4
theorem zzU(G:Ground q08 zfa [] XP w s₀ mg mb h)(SS:zdv p08 w zhn mg h)(E:zi6 p08 w mg h)(Kf:zvl dE mg h)(Nf:ClsAt mg h):∃P c₀,h.get? P=some {cls:=.none,data:=.fields #[]}∧h.TableAt c₀ P #[] ∧
  Std (S8 w mg mb h P)∧NoG (S8 w mg mb h P)∧Gl (S8 w mg mb h P) gl8∧zaw (S8 w mg mb h P)∧ClsAt (S8 w mg mb h P).mg (S8 w mg mb h P).base∧zaB (S8 w mg mb h P) (zaz zxY):=by
 obtain⟨a0,o0,fd0,c0,P,g1,g2,g3,g4,g5,g6⟩:=tab_of G zsU;have hP:=g6.2;have D0:Std (S8 w mg mb h P):=zyM G hP zz5;have NG:NoG (S8 w mg mb h P):=zx2 G zzO;have E0:zaw (S8 w mg mb h P):=zpE (zoO hP E);have SG:zdv p8 w zhn mg (zmx h P):=zr1 hP SS;have hB:(S8 w mg mb h P).base.BuiltinsAt (S8 w mg mb h P).mg (S8 w mg mb h P).tab:=zxT G hP;have N0:ClsAt (S8 w mg mb h P).mg (S8 w mg mb h P).base:=zpj hP Nf;have f_suffixed_err:FnAt (S8 w mg mb h P) (ofString "suffixed_err") (zaQ p8 25) (zah p8 25) (zau p8 25):=zdd G hP zjc (by kernel_rfl);have f_skip_chars:FnAt (S8 w mg mb h P) (ofString "skip_chars") (zaQ p8 17) (zah p8 17) (zau p8 17):=zdd G hP zlv (by kernel_rfl);have f_is_unicode_scalar_value:FnAt (S8 w mg mb h P) (ofString "is_unicode_scalar_value") (zaQ p8 26) (zah p8 26) (zau p8 26):=zdd G hP zdX (by kernel_rfl);have f_parse_hex_char:FnAt (S8 w mg mb h P) (ofString "parse_hex_char") (zaQ p8 22) (zah p8 22) (zau p8 22):=zdd G hP zhD (by kernel_rfl);have f_parse_basic_str_escape_multiline:FnAt (S8 w mg mb h P) (ofString "parse_basic_str_escape_multiline") (zaQ p8 21) (zah p8 21) (zau p8 21):=zdd G hP zcC (by kernel_rfl);have f_parse_basic_str:FnAt (S8 w mg mb h P) (ofString "parse_basic_str") (zaQ p8 24) (zah p8 24) (zau p8 24):=zdd G hP zhg (by kernel_rfl);have f_parse_one_line_basic_str:FnAt (S8 w mg mb h P) (ofString "parse_one_line_basic_str") (zaQ p8 19) (zah p8 19) (zau p8 19):=zdd G hP zdC (by kernel_rfl);have f_parse_multiline_str:FnAt (S8 w mg mb h P) (ofString "parse_multiline_str") (zaQ p8 23) (zah p8 23) (zau p8 23):=zdd G hP zfc (by kernel_rfl);obtain⟨ae,oe,pme,cde,doce,dVe,kVe,e1,e2,e3,e4,e5⟩:=Kf;have edV:dVe=.none:=by
  rcases e5.pos with⟨_,e⟩|⟨e,_⟩
  ·exact e
  ·exact absurd (by kernel_rfl) e
 subst edV;obtain⟨K,kc,kdd,kh,kt,kn,ksl,rfl,hKk⟩:=zzz hP e5 zAD;have G0:Gl (S8 w mg mb h P) gl8:=by
  unfold gl8;refine Gl.cons (zmh (S:=(S8 w mg mb h P)) SG (by right)) ?_;refine Gl.cons (zmh (S:=(S8 w mg mb h P)) SG (by right)) ?_;refine Gl.cons (zmh (S:=(S8 w mg mb h P)) SG (by right)) ?_;refine Gl.cons (zmh (S:=(S8 w mg mb h P)) SG (by right)) ?_;refine Gl.cons (zmh (S:=(S8 w mg mb h P)) SG (by right)) ?_;refine Gl.cons (ziS f_suffixed_err) ?_;refine Gl.cons (ziS f_skip_chars) ?_;refine Gl.cons (ziS f_is_unicode_scalar_value) ?_;refine Gl.cons (ziS f_parse_hex_char) ?_;refine Gl.cons ⟨_,e1,λh' P' _=>.fn e1⟩ ?_;refine Gl.cons (ziS f_parse_basic_str_escape_multiline) ?_;refine Gl.cons (ziS f_parse_basic_str) ?_;refine Gl.cons (ziS f_parse_one_line_basic_str) ?_;refine Gl.cons (ziS f_parse_multiline_str) ?_;exact Gl.nil
 have e2':(S8 w mg mb h P).base.get? ae=some oe:=zc6 hP e2 (by rw[e3];nofun);have e4':(S8 w mg mb h P).base.CodeRec cde (ofString "parse_basic_str_escape"):=zly hP e4;obtain⟨as,os,pms,cds,docs,s1,s2,s3,s4⟩:=f_suffixed_err;have hcf:zd1 (S8 w mg mb h P) cds:=by
  have s1:mg (ofString "suffixed_err")=some (.ref as):=s1;rw[g1]at s1;cases s1;have:=zjK h P _ _ s2;rw[g2]at this;cases this;rw[g3]at s3;cases s3;have e:cds=.ref c0:=g4;subst e;exact zpG g5 g6
 have t0:zaB (S8 w mg mb h P) (zaz zcg):=zaB.nil;have CL:=zul D0 NG G0 E0 rfl;have tb_suffixed_err:=zi8 D0 NG G0 E0 t0 rfl hB CL s1 s2 s3 s4 hcf;have tb_skip_chars:=f_skip_chars.use λ_ _ _ _ _ u1 u2 u3 u4=>zl2 D0 NG G0 E0 tb_suffixed_err u1 u2 u3 u4;have tb_is_unicode_scalar_value:=f_is_unicode_scalar_value.use λ_ _ _ _ _ u1 u2 u3 u4=>zdW D0 NG G0 E0 tb_skip_chars u1 u2 u3 u4;have tb_parse_hex_char:=f_parse_hex_char.use λ_ _ _ _ _ u1 u2 u3 u4=>zhA D0 NG G0 E0 tb_is_unicode_scalar_value u1 u2 u3 u4;have tb_parse_basic_str_escape:=zeg D0 NG G0 E0 tb_parse_hex_char e1 e2' e3 e4';have tb_parse_basic_str_escape_multiline:=f_parse_basic_str_escape_multiline.use λ_ _ _ _ _ u1 u2 u3 u4=>zcA D0 NG G0 E0 tb_parse_basic_str_escape u1 u2 u3 u4;have tb_esc0:zaB (S8 w mg mb h P) (zaz zbi):=zxP D0 NG G0 E0 tb_parse_hex_char e1 e2' e3 e4' hKk tb_parse_basic_str_escape_multiline;have tb_parse_basic_str:=f_parse_basic_str.use λ_ _ _ _ _ u1 u2 u3 u4=>zha D0 NG G0 E0 tb_esc0 u1 u2 u3 u4;have tb_parse_one_line_basic_str:=f_parse_one_line_basic_str.use λ_ _ _ _ _ u1 u2 u3 u4=>zdF D0 NG G0 E0 tb_parse_basic_str u1 u2 u3 u4;have tb_parse_multiline_str:=f_parse_multiline_str.use λ_ _ _ _ _ u1 u2 u3 u4=>zfe D0 NG G0 E0 tb_parse_one_line_basic_str u1 u2 u3 u4;exact⟨P,c0,hP,g6,D0,NG,G0,E0,N0,tb_parse_multiline_str⟩
end
section
set_option maxRecDepth 1000000
theorem zzM{S:St0}{h:Heap}{P:Addr->Prop}{vs:List Value}{xs:List Int}(hi:zys vs xs):zaO S h P vs (xs.map .int):=by
 induction vs generalizing xs with
 |nil=>cases xs with
  |nil=>exact .nil
  |cons _ _=>exact hi.elim
 |cons v vs ih=>cases xs with
  |nil=>cases v<;>exact hi.elim
  |cons x xs=>cases v<;>first
   |exact hi.elim
   |(obtain⟨e,r⟩:=hi;subst e;exact .cons (.int _ _) (ih r))
theorem zx3{h h':Heap}{P c₀:Addr}(hP:h.get? P=some {cls:=.none,data:=.fields #[]})(hT:h.TableAt c₀ P #[])(k:zdQ [P] h h'):OldK h h':=⟨λb o e=>by
 by_cases q:b=P
 ·subst q
  rw[hP]at e;cases e;obtain⟨_,o',h1,_,h2⟩:=k _ _ hP;obtain⟨more,rfl,_⟩:=h2 #[] rfl rfl;exact .inr (.inl ⟨hT.isCodeTable,rfl,#[],more,rfl,h1⟩)
 ·exact .inl ((k b o e).1 λz=>q (yY.mp z)),λb o e=>let ⟨_,o',h1,_⟩:=k b o e;⟨o',h1⟩⟩
theorem znh:defOf q08 (ofString "_law_text")=some (⟨ofString "_law_text",zaQ p8 28,zah p8 28,zau p8 28,zfU p8 28⟩,[]):=by kernel_rfl
section
variable{S:St0}(D0:Std S)(NG:NoG S)(G:Gl S zf6)(E0:zaw S)(N0:ClsAt S.mg S.base)
include D0 NG G E0 N0
theorem zne(TB:zaB S (zaz za7)){a:Addr}{o:Obj}{pm cd doc kV:Value}(h1:S.mg (ofString "_law_text")=some (.ref a))(h2:S.base.get? a=some o)(h3:o.data=.func {docDef (ofString "_law_text") (zaQ p8 28) (zah p8 28) (zau p8 28) pm cd doc with defaults:=.none,kwdefaults:=kV})(h4:S.base.CodeRec cd (ofString "_law_text")):zaB S (zaz ((ofString "_law_text",zey)::za7)):=by
 refine zvG (l:=za7) D0 (sh:=zbw) (ps:=[ofString "script"]) (rest:=[ofString "pieces",ofString "chosen",ofString "x",ofString "left",ofString "digits_v",ofString "digit",ofString "kind",ofString "sign",ofString "half"]) (kws:=[]) h1 h2 h3 h4 (by kernel_rfl) (by kernel_rfl) (by kernel_rfl) rfl (by kernel_rfl) (by kernel_rfl) (by kernel_rfl) (by right) (λs vs ks e1 e2=>?_) (by decide) (@zm4 S D0 NG G E0 N0 TB) zvT (by intro h;exact nomatch h) TB;obtain rfl:=zu5 e2;obtain⟨v0,rfl⟩:=zxc (l:=vs) (by simpa using e1);exact BindsTo.of_eq (by kernel_rfl)
end
theorem zmu:defOf q08 (ofString "_law_where")=some (⟨ofString "_law_where",zaQ p8 29,zah p8 29,zau p8 29,zfU p8 29⟩,[]):=by kernel_rfl
section
variable{S:St0}(D0:Std S)(NG:NoG S)(G:Gl S zf6)(E0:zaw S)(N0:ClsAt S.mg S.base)
include D0 NG G E0 N0
theorem zlO(TB:zaB S (zaz zbx)){a:Addr}{o:Obj}{pm cd doc kV:Value}(h1:S.mg (ofString "_law_where")=some (.ref a))(h2:S.base.get? a=some o)(h3:o.data=.func {docDef (ofString "_law_where") (zaQ p8 29) (zah p8 29) (zau p8 29) pm cd doc with defaults:=.none,kwdefaults:=kV})(h4:S.base.CodeRec cd (ofString "_law_where")):zaB S (zaz ((ofString "_law_where",zct)::zbx)):=by
 refine zfB (l:=zbx) D0 (sh:=zcF) (ps:=[ofString "text",ofString "place"]) (rest:=[ofString "rows"]) (kws:=[]) h1 h2 h3 h4 (by kernel_rfl) (by kernel_rfl) (by kernel_rfl) rfl (by kernel_rfl) (by kernel_rfl) (by kernel_rfl) (by right) (λs vs ks e1 e2=>?_) (by decide) (@zmp S D0 NG G E0 N0 TB) ztm (by intro h;exact nomatch h) TB;obtain rfl:=zu5 e2;obtain⟨v0,v1,rfl⟩:=zvr (l:=vs) (by simpa using e1);exact BindsTo.of_eq (by kernel_rfl)
end
theorem zoQ:defOf q08 (ofString "_law_due")=some (⟨ofString "_law_due",zaQ p8 30,zah p8 30,zau p8 30,zfU p8 30⟩,[]):=by kernel_rfl
section
variable{S:St0}(D0:Std S)(NG:NoG S)(G:Gl S zf6)(E0:zaw S)(N0:ClsAt S.mg S.base)
include D0 NG G E0 N0
theorem zoH(TB:zaB S (zaz zdq)){n:Nat}(hn0:0<n){l:List (Str×Ctr)}(TN:zc4 n S (zaz l)){a:Addr}{o:Obj}{pm cd doc kV:Value}(h1:S.mg (ofString "_law_due")=some (.ref a))(h2:S.base.get? a=some o)(h3:o.data=.func {docDef (ofString "_law_due") (zaQ p8 30) (zah p8 30) (zau p8 30) pm cd doc with defaults:=.none,kwdefaults:=kV})(h4:S.base.CodeRec cd (ofString "_law_due")):zc4 n S (zaz ((ofString "_law_due",zgW n)::l)):=by
 refine zv6 (l:=l) D0 (sh:=zcT) (ps:=[ofString "text",ofString "first",ofString "feed",ofString "void"]) (rest:=[ofString "row",ofString "at",ofString "done",ofString "turn",ofString "error",ofString "more",ofString "end",ofString "piece",ofString "spot",ofString "slash",ofString "gap",ofString "words",ofString "where"]) h1 h2 h3 h4 (by kernel_rfl) (by kernel_rfl) (by kernel_rfl) rfl (λ_=>by kernel_rfl) (by kernel_rfl) (by kernel_rfl) (by kernel_rfl) (by right) (λs vs e1=>?_) (@zpc S D0 NG G E0 N0 TB n hn0) zxE rfl TN;obtain⟨v0,v1,v2,v3,rfl⟩:=zA0 (l:=vs) (by simpa using e1);exact BindsTo.of_eq (by kernel_rfl)
end
theorem zzK:defOf q08 (ofString "law")=some (⟨ofString "law",zaQ p8 31,zah p8 31,zau p8 31,zfU p8 31⟩,[]):=by kernel_rfl
section
variable{S:St0}(D0:Std S)(NG:NoG S)(G:Gl S zf6)(E0:zaw S)(N0:ClsAt S.mg S.base)
include D0 NG G E0 N0
theorem zzm(TB:zaB S (zaz zgQ))(TN:∀n,0<n->zc4 n S (zaz (zjT n))){a:Addr}{o:Obj}{pm cd doc kV:Value}(h2:S.base.get? a=some o)(h3:o.data=.func {docDef (ofString "law") (zaQ p8 31) (zah p8 31) (zau p8 31) pm cd doc with defaults:=.none,kwdefaults:=kV})(h4:S.base.CodeRec cd (ofString "law")):zxr 1 S a 130 true (λds dk=>zbH (zs3 ds dk)):=by
 refine znC D0 (sh:=zgE) (ps:=[ofString "script"]) (rest:=[ofString "text",ofString "foreign",ofString "figures",ofString "n",ofString "spelled",ofString "place",ofString "part",ofString "error",ofString "first",ofString "told"]) h2 h3 h4 (by kernel_rfl) (by kernel_rfl) (by kernel_rfl) rfl (λ_=>by kernel_rfl) (by kernel_rfl) (by kernel_rfl) (by kernel_rfl) (by right) (λs vs e1=>?_) (@zzZ S D0 NG G E0 N0 TB TN) zxt rfl;obtain⟨v0,rfl⟩:=zxc (l:=vs) (by simpa using e1);exact BindsTo.of_eq (by kernel_rfl)
end
noncomputable section
theorem zzu:WalkG p08 q08 zfa (λ_ _=>True) (λw mg h=>zi6 p08 w mg h∧zvl dE mg h∧ClsAt mg h) zhn ⟨ofString "law",zaQ p8 31,zah p8 31,zau p8 31,zfU p8 31⟩ []:=by
 intro w s₀ s₁ mg mb G SS Y hgens htk a o pm cd doc dV kV ho hdata hcd hdf hmg xs vs Lx hints hLx hlen hwt hlow;obtain⟨P,c₀,hP,hT,D0,NG,G0,E0,N0,TB⟩:=zzU G SS Y.1 Y.2.1 Y.2.2;have f__law_text:FnAt (S8 w mg mb s₁.heap P) (ofString "_law_text") (zaQ p8 28) (zah p8 28) (zau p8 28):=zdd G hP znh (by kernel_rfl);have f__law_where:FnAt (S8 w mg mb s₁.heap P) (ofString "_law_where") (zaQ p8 29) (zah p8 29) (zau p8 29):=zdd G hP zmu (by kernel_rfl);have f__law_due:FnAt (S8 w mg mb s₁.heap P) (ofString "_law_due") (zaQ p8 30) (zah p8 30) (zau p8 30):=zdd G hP zoQ (by kernel_rfl);have f_law:FnAt (S8 w mg mb s₁.heap P) (ofString "law") (zaQ p8 31) (zah p8 31) (zau p8 31):=zdd G hP zzK (by kernel_rfl);have G__law_due:=Gl.cons (ziS f__law_due) G0;have G__law_where:=Gl.cons (ziS f__law_where) G__law_due;have G__law_text:=Gl.cons (ziS f__law_text) G__law_where;have G1:Gl (S8 w mg mb s₁.heap P) zf6:=G__law_text;have tb__law_text:zaB (S8 w mg mb s₁.heap P) (zaz ((ofString "_law_text",zey)::za7)):=f__law_text.use λ_ _ _ _ _ u1 u2 u3 u4=>zne D0 NG G1 E0 N0 TB u1 u2 u3 u4;have tb__law_where:zaB (S8 w mg mb s₁.heap P) (zaz ((ofString "_law_where",zct)::zbx)):=f__law_where.use λ_ _ _ _ _ u1 u2 u3 u4=>zlO D0 NG G1 E0 N0 tb__law_text u1 u2 u3 u4;have TN:∀n,0<n->zc4 n (S8 w mg mb s₁.heap P) (zaz (zjT n)):=λn hn=>(f__law_due.use λ_ _ _ _ _ u1 u2 u3 u4=>zoH D0 NG G1 E0 N0 tb__law_where hn tb__law_where.n u1 u2 u3 u4);obtain⟨a2,o2,pm2,cd2,doc2,v1,v2,v3,v4⟩:=f_law;have TB2:=zzm D0 NG G1 E0 N0 tb__law_where TN v2 v3 v4;have ea:a2=a:=by
  have v1':mg (ofString "law")=some (.ref a2):=v1;have hm':mg (ofString "law")=some (.ref a):=hmg;rw[v1']at hm';cases hm';rfl
 subst ea;have C:=TB2;have hPL:¬Lx=P:=λe=>by
  rw[e,hP]at hLx;cases hLx
 have hC:zhp (S8 w mg mb s₁.heap P) callerA [] [] (λb=>b=P) 130 true s₁:={
  frames:=rfl,stays:=zjK _ _,fun_:=trivial,depth:=by decide,units:=by decide,guards:=rfl,calm:=λ_=>⟨rfl,rfl⟩,hand:=.inl rfl
  hands:=(λv hv=>nomatch hv),gens:=hgens,tab:=⟨#[],hP,.nil⟩,tabP:=rfl,P:=(λb hb=>by rw[hb,hP];rfl),frP:=(λb hb=>zb7 hb)}
 have W:=C callerA [] [] (λb=>b=P) s₁ [.ref Lx] [.lst (xs.map .int)] (λd=>d=.bool true) (λ_=>False) htk hC (.cons (.lst hLx hPL rfl rfl (zzM hints)) .nil) (by
  show zbH (zs3 [.lst (xs.map .int)] []) _ _;unfold zs3 zzc;refine zth (l:=[]) ?_;exact zgn (yt hlen) ((zcw ..).mpr rfl))
 refine yr W (λv s' ⟨d,hd,hr,_,hk,hg,hos⟩=>?_) λe s' ⟨x,_,_,hx,_,_,_,_,_,_,_⟩=>hx.elim;subst hd;cases hr;exact⟨rfl,zx3 hP hT hk,hos,hg.trans hgens⟩
end
end
section
set_option maxRecDepth 1000000
set_option maxHeartbeats 8000000
theorem zrT(w:World):zhF p08 q08 zfa (λ_=>true) zhn zkk zgI zsA zt2 zkD 100000 (World.two w false true):=by
 intro y os;kernel_rfl
theorem zsn(w:World):zhF p08 q08 zfa (λ_=>true) zhn zkk zgI zsA zt2 zkD 100000 (World.two w true false):=by
 intro y os;kernel_rfl
theorem zrw(w:World):zhF p08 q08 zfa (λ_=>true) zhn zkk zgI zsA zt2 zkD 100000 (World.two w true true):=by
 intro y os;kernel_rfl
theorem zxs(w:World):zhF p08 q08 zfa (λ_=>true) zhn zkk zgI (denote table) pyNext openSeen 100000 w:=zl0 zp1 zrT zsn zrw w
theorem zud(w:World)(b:BS)(h:zkk b=zgI w):zi6 p08 w (b.heap.nsMap mainGlobals) b.heap∧zvl dE (b.heap.nsMap mainGlobals) b.heap∧ClsAt (b.heap.nsMap mainGlobals) b.heap:=by
 unfold zkk zgI at h;rw[Prod.mk.injEq,Prod.mk.injEq,Prod.mk.injEq]at h;exact⟨ztO h.2.2.2,zvQ h.1 (yu.mp h.2.1).1,zta h.2.2.1⟩
theorem ztY(w:World)(b:BS)(h:zkk b=zgI w):0<b.toks:=by
 unfold zkk zgI at h;rw[Prod.mk.injEq,Prod.mk.injEq,Prod.mk.injEq]at h;exact yH (yu.mp h.2.1).2
theorem ws8:OpenLaw.wellSaid PySem.Challenge.rw_kq0033_06=true:=by kernel_rfl
theorem holds06:PySem.Challenge.rw_kq0033_06.Holds:=by
 refine holds_law ws8 λsaid=>?_;refine holds_grown (l:=PySem.Challenge.rw_kq0033_06) (d:=⟨ofString "law",zaQ p8 31,zah p8 31,zau p8 31,zfU p8 31⟩) (kwd:=[]) rfl rfl zyV zxs (λ_ _=>trivial) (λ_ _ _ _ _=>trivial) zud (λ_ _ _ _ y k=>⟨y.1.keeps k,y.2.1.keeps k,y.2.2.keeps k⟩) ztY (by kernel_rfl) (by kernel_rfl) (by kernel_rfl) (by assumption) (by right) ⟨rfl,rfl,rfl,rfl,rfl,by right⟩ ?hw zzu
 w_witness2
end
end Mine.Internal
end
set_option maxRecDepth 1000000 in
set_option maxHeartbeats 8000000 in
theorem PySem.Challenge.cw_kq0033_06_holds : PySem.Challenge.rw_kq0033_06.Holds := by
  exact Mine.Internal.holds06
