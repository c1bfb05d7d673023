import PyProof.Rows.All
import Wide.All
import OpenK.AllK
import KE.KUnpack
import Wide.FinOn
import Lean
import PySem.Challenge.RW_kq0033_07
set_option Elab.async false
set_option linter.all false
set_option genSizeOf false
set_option bootstrap.genMatcherCode false
set_option hygiene false in
local macro_rules
  |`(tactic|left) => `(tactic|refine let G : Prop := _;(?_ : G))
local macro_rules
  |`(tactic|right) => `(tactic|decide +kernel)
open PySem.Str (ofString)
section
open PySem PySem.W PySem.Calls PyProof.Rows
set_option tactic.hygienic false
set_option genInjectivity false
set_option genSizeOfSpec false
set_option maxRecDepth 100000
namespace Mine.Internal
def ya:=@congrArg
def yb:=@Nat.zero_le
def yc:=@Nat.le_of_lt
def yd:=@Nat.succ_pos
def ye:=@Nat.add_le_add
def yf:=@Nat.lt_add_of_pos_right
def yg:=@Nat.not_lt
def yh:=@Nat.not_lt_zero
def yi:=@Nat.le_succ
def yj:=@Option.some.inj
def yk:=@Nat.le_trans
def yl:=@wpAny_bind
def ym:=@And.intro
def yn:=@List.mem_cons_of_mem
def yo:=@wpAny_pure
def yp:=@List.getElem?_eq_some_iff
def yq:=@List.mem_cons_self
def yr:=@Nat.le_refl
def yt:=@wpAny_mono
def yu:=@List.getElem?_eq_getElem
def yv:=@decide_eq_true
def yw:=@Bool.and_eq_true_iff
def yx:=@decide_eq_false
def yy:=@List.mem_of_getElem?
def yz:=@List.mem_cons
def yA:=@Nat.lt_of_lt_of_le
def yB:=@Int.natCast_nonneg
def yC:=@Array.length_toList
def yD:=@Bool.false_ne_true
def yE:=@Heap.get?_push_of_some
def yF:=@of_decide_eq_true
def yG:=@Nat.succ_le_succ
def yH:=@wpAny_holding
def yI:=@Heap.get?_push_size
def yJ:=@Nat.le_of_eq
def yK:=@Nat.le_of_ble_eq_true
def yL:=@Option.isSome_iff_exists
def yM:=@List.eq_nil_of_length_eq_zero
def yN:=@Nat.le_of_succ_le_succ
def yO:=@List.all_eq_true
def yP:=@List.length_append
def yQ:=@List.cons.inj
def yR:=@Nat.le_add_right
def yS:=@Nat.lt_succ_self
def yT:=@Heap.get?_none_of_le
def yU:=@Nat.add_le_add_right
def yV:=@Int.ofNat_le
def yW:=@decide_eq_decide
def yX:=@wpAny_standAt
def yY:=@Nat.lt_of_le_of_lt
def yZ:=@Nat.add_le_add_left
def xa:=@Nat.le_of_not_lt
def xb:=@List.mem_range
def xc:=@List.mem_singleton
def xd:=@Int.not_lt
def xe:=@List.mem_append_right
def xf:=@Nat.le_add_left
def xg:=@Nat.le_succ_of_le
def xh:=@Nat.lt_of_not_le
def xi:=@Heap.get?_update_self
def xj:=@Heap.get?_update_other
theorem zae{α:Type}{x:α}{P:Prop}(h:(none:Option α)=some x):P:=nomatch h
theorem zgL{α:Type}{x:α}{P:Prop}(h:some x=(none:Option α)):P:=nomatch h
theorem zaF{P:Prop}(h:false=true):P:=nomatch h
theorem zuG{P:Prop}(h:true=false):P:=nomatch h
theorem zp1{α:Type}{x:α}{l:List α}{P:Prop}(h:[]=x::l):P:=nomatch h
theorem zjG{α:Type}{x:α}{l:List α}{P:Prop}(h:x::l=[]):P:=nomatch h
theorem ziI{α β:Type}{x:α}{y:β}{P:Prop}(h:(Except.error x:Except α β)=.ok y):P:=nomatch h
theorem zcx{α:Type}{x:α}{P:Prop}(h:x∈[]):P:=nomatch h
theorem zn2{A B C:Prop}{G:Prop}(h:A∧B∧C)(k:A->B->C->G):G:=by
 obtain⟨q0,q1,q2⟩:=h;exact k  q0 q1 q2
theorem zyh{A B C D:Prop}{G:Prop}(h:A∧B∧C∧D)(k:A->B->C->D->G):G:=by
 obtain⟨q0,q1,q2,q3⟩:=h;exact k  q0 q1 q2 q3
theorem zCs{A B C D E:Prop}{G:Prop}(h:A∧B∧C∧D∧E)(k:A->B->C->D->E->G):G:=by
 obtain⟨q0,q1,q2,q3,q4⟩:=h;exact k  q0 q1 q2 q3 q4
theorem zaO{α:Type}{A B:α->Prop}{G:Prop}(h:∃x,A x∧B x)(k:∀x,A x->B x->G):G:=by
 obtain⟨x,q0,q1⟩:=h;exact k _ q0 q1
theorem zcM{α:Type}{A B C:α->Prop}{G:Prop}(h:∃x,A x∧B x∧C x)(k:∀x,A x->B x->C x->G):G:=by
 obtain⟨x,q0,q1,q2⟩:=h;exact k _ q0 q1 q2
theorem zzi{α:Type}{A B C D:α->Prop}{G:Prop}(h:∃x,A x∧B x∧C x∧D x)(k:∀x,A x->B x->C x->D x->G):G:=by
 obtain⟨x,q0,q1,q2,q3⟩:=h;exact k _ q0 q1 q2 q3
theorem zCm{α:Type}{A B C D E:α->Prop}{G:Prop}(h:∃x,A x∧B x∧C x∧D x∧E x)(k:∀x,A x->B x->C x->D x->E x->G):G:=by
 obtain⟨x,q0,q1,q2,q3,q4⟩:=h;exact k _ q0 q1 q2 q3 q4
theorem zCG{α:Type}{A B C D E F:α->Prop}{G:Prop}(h:∃x,A x∧B x∧C x∧D x∧E x∧F x)(k:∀x,A x->B x->C x->D x->E x->F x->G):G:=by
 obtain⟨x,q0,q1,q2,q3,q4,q5⟩:=h;exact k _ q0 q1 q2 q3 q4 q5
theorem zfw{α β:Type}{A B:α->β->Prop}{G:Prop}(h:∃x y,A x y∧B x y)(k:∀x y,A x y->B x y->G):G:=by
 obtain⟨x,y,q0,q1⟩:=h;exact k _ _ q0 q1
theorem zfB{α β:Type}{A B C:α->β->Prop}{G:Prop}(h:∃x y,A x y∧B x y∧C x y)(k:∀x y,A x y->B x y->C x y->G):G:=by
 obtain⟨x,y,q0,q1,q2⟩:=h;exact k _ _ q0 q1 q2
theorem zBd{α β:Type}{A B C D:α->β->Prop}{G:Prop}(h:∃x y,A x y∧B x y∧C x y∧D x y)(k:∀x y,A x y->B x y->C x y->D x y->G):G:=by
 obtain⟨x,y,q0,q1,q2,q3⟩:=h;exact k _ _ q0 q1 q2 q3
theorem zCI{α β:Type}{A B C D E F:α->β->Prop}{G:Prop}(h:∃x y,A x y∧B x y∧C x y∧D x y∧E x y∧F x y)(k:∀x y,A x y->B x y->C x y->D x y->E x y->F x y->G):G:=by
 obtain⟨x,y,q0,q1,q2,q3,q4,q5⟩:=h;exact k _ _ q0 q1 q2 q3 q4 q5
theorem zBq{α β γ:Type}{A B:α->β->γ->Prop}{G:Prop}(h:∃x y z,A x y z∧B x y z)(k:∀x y z,A x y z->B x y z->G):G:=by
 obtain⟨x,y,z,q0,q1⟩:=h;exact k _ _ _ q0 q1
theorem zrm{α β γ:Type}{A B C:α->β->γ->Prop}{G:Prop}(h:∃x y z,A x y z∧B x y z∧C x y z)(k:∀x y z,A x y z->B x y z->C x y z->G):G:=by
 obtain⟨x,y,z,q0,q1,q2⟩:=h;exact k _ _ _ q0 q1 q2
theorem zuk{α β γ:Type}{A B C D:α->β->γ->Prop}{G:Prop}(h:∃x y z,A x y z∧B x y z∧C x y z∧D x y z)(k:∀x y z,A x y z->B x y z->C x y z->D x y z->G):G:=by
 obtain⟨x,y,z,q0,q1,q2,q3⟩:=h;exact k _ _ _ q0 q1 q2 q3
theorem zBI{α β γ δ:Type}{A B C D:α->β->γ->δ->Prop}{G:Prop}(h:∃x y z w,A x y z w∧B x y z w∧C x y z w∧D x y z w)(k:∀x y z w,A x y z w->B x y z w->C x y z w->D x y z w->G):G:=by
 obtain⟨x,y,z,w,q0,q1,q2,q3⟩:=h;exact k _ _ _ _ q0 q1 q2 q3
theorem zCy{α β γ δ:Type}{A B C D E F:α->β->γ->δ->Prop}{G:Prop}(h:∃x y z w,A x y z w∧B x y z w∧C x y z w∧D x y z w∧E x y z w∧F x y z w)(k:∀x y z w,A x y z w->B x y z w->C x y z w->D x y z w->E x y z w->F x y z w->G):G:=by
 obtain⟨x,y,z,w,q0,q1,q2,q3,q4,q5⟩:=h;exact k _ _ _ _ q0 q1 q2 q3 q4 q5
theorem zfc{α:Type}{A:α->Prop}{G:Prop}(h:∃x,A x)(k:∀x,A x->G):G:=by
 obtain⟨x,q0⟩:=h;exact k _ q0
theorem zBj{α β:Type}{A:α->β->Prop}{G:Prop}(h:∃x y,A x y)(k:∀x y,A x y->G):G:=by
 obtain⟨x,y,q0⟩:=h;exact k _ _ q0
theorem zb0{A B:Prop}{G:Prop}(h:A∧B)(k:A->B->G):G:=k h.1 h.2
theorem zbB{α:Type}{A B:α->Prop}(x:α)(q0:A x)(q1:B x):∃x,A x∧B x:=⟨x,q0,q1⟩
theorem zga{α:Type}{A B C:α->Prop}(x:α)(q0:A x)(q1:B x)(q2:C x):∃x,A x∧B x∧C x:=⟨x,q0,q1,q2⟩
theorem zBt{α:Type}{A B C D:α->Prop}(x:α)(q0:A x)(q1:B x)(q2:C x)(q3:D x):∃x,A x∧B x∧C x∧D x:=⟨x,q0,q1,q2,q3⟩
theorem zCY{α:Type}{A B C D E:α->Prop}(x:α)(q0:A x)(q1:B x)(q2:C x)(q3:D x)(q4:E x):∃x,A x∧B x∧C x∧D x∧E x:=⟨x,q0,q1,q2,q3,q4⟩
theorem zAv{α β:Type}{A:α->β->Prop}(x:α)(y:β)(q0:A x y):∃x y,A x y:=⟨x,y,q0⟩
theorem zny{α β:Type}{A B:α->β->Prop}(x:α)(y:β)(q0:A x y)(q1:B x y):∃x y,A x y∧B x y:=⟨x,y,q0,q1⟩
theorem zlH{α β:Type}{A B C:α->β->Prop}(x:α)(y:β)(q0:A x y)(q1:B x y)(q2:C x y):∃x y,A x y∧B x y∧C x y:=⟨x,y,q0,q1,q2⟩
theorem zkD{α β:Type}{A B C D:α->β->Prop}(x:α)(y:β)(q0:A x y)(q1:B x y)(q2:C x y)(q3:D x y):∃x y,A x y∧B x y∧C x y∧D x y:=⟨x,y,q0,q1,q2,q3⟩
theorem zCQ{α β:Type}{A B C D E F:α->β->Prop}(x:α)(y:β)(q0:A x y)(q1:B x y)(q2:C x y)(q3:D x y)(q4:E x y)(q5:F x y):∃x y,A x y∧B x y∧C x y∧D x y∧E x y∧F x y:=⟨x,y,q0,q1,q2,q3,q4,q5⟩
theorem zCO{α β γ:Type}{A:α->β->γ->Prop}(x:α)(y:β)(z:γ)(q0:A x y z):∃x y z,A x y z:=⟨x,y,z,q0⟩
theorem zw4{α β γ:Type}{A B:α->β->γ->Prop}(x:α)(y:β)(z:γ)(q0:A x y z)(q1:B x y z):∃x y z,A x y z∧B x y z:=⟨x,y,z,q0,q1⟩
theorem zzB{α β γ:Type}{A B C:α->β->γ->Prop}(x:α)(y:β)(z:γ)(q0:A x y z)(q1:B x y z)(q2:C x y z):∃x y z,A x y z∧B x y z∧C x y z:=⟨x,y,z,q0,q1,q2⟩
theorem zuh{α β γ:Type}{A B C D:α->β->γ->Prop}(x:α)(y:β)(z:γ)(q0:A x y z)(q1:B x y z)(q2:C x y z)(q3:D x y z):∃x y z,A x y z∧B x y z∧C x y z∧D x y z:=⟨x,y,z,q0,q1,q2,q3⟩
theorem zCh{α β γ:Type}{A B C D E:α->β->γ->Prop}(x:α)(y:β)(z:γ)(q0:A x y z)(q1:B x y z)(q2:C x y z)(q3:D x y z)(q4:E x y z):∃x y z,A x y z∧B x y z∧C x y z∧D x y z∧E x y z:=⟨x,y,z,q0,q1,q2,q3,q4⟩
theorem zCN{α β γ:Type}{A B C D E F:α->β->γ->Prop}(x:α)(y:β)(z:γ)(q0:A x y z)(q1:B x y z)(q2:C x y z)(q3:D x y z)(q4:E x y z)(q5:F x y z):∃x y z,A x y z∧B x y z∧C x y z∧D x y z∧E x y z∧F x y z:=⟨x,y,z,q0,q1,q2,q3,q4,q5⟩
theorem zCt{α β γ δ:Type}{A B C D:α->β->γ->δ->Prop}(x:α)(y:β)(z:γ)(w:δ)(q0:A x y z w)(q1:B x y z w)(q2:C x y z w)(q3:D x y z w):∃x y z w,A x y z w∧B x y z w∧C x y z w∧D x y z w:=⟨x,y,z,w,q0,q1,q2,q3⟩
theorem zCp{α β γ δ:Type}{A B C D E F:α->β->γ->δ->Prop}(x:α)(y:β)(z:γ)(w:δ)(q0:A x y z w)(q1:B x y z w)(q2:C x y z w)(q3:D x y z w)(q4:E x y z w)(q5:F x y z w):∃x y z w,A x y z w∧B x y z w∧C x y z w∧D x y z w∧E x y z w∧F x y z w:=⟨x,y,z,w,q0,q1,q2,q3,q4,q5⟩
theorem zer{α:Type}{M:Model}{A:Around}{c:Prop}[i:Decidable c]{x y:Sem α}{Q:α->Shared->Prop}{E:Value->Shared->Prop}{s:Shared}(h:c)(k:wpAny M A x Q E s):wpAny M A (if c then x else y) Q E s:=by rw[if_pos h];exact k
theorem zbY{α:Type}{M:Model}{A:Around}{c:Prop}[i:Decidable c]{x y:Sem α}{Q:α->Shared->Prop}{E:Value->Shared->Prop}{s:Shared}(h:¬c)(k:wpAny M A y Q E s):wpAny M A (if c then x else y) Q E s:=by rw[if_neg h];exact k
noncomputable abbrev zdv:=Array (Int×Value)×Nat×SetTable
noncomputable def zar(d:zdv):Obj:={cls:=.type "frozenset",data:=.set d.1 d.2.1 d.2.2}
theorem zsy{h:Heap}{a:Addr}{o o':Obj}{f:Obj->Obj}(ho:h.get? a=some o)(e:f o=o'):h.update a f=h.update a (λ_=>o'):=by
 obtain⟨objs,life⟩:=h;have hx:=(Heap.get?_some_iff.mp ho).1;show Heap.mk (objs.modify a f) life=Heap.mk (objs.modify a λ_=>o') life
 congr 1
 apply Array.ext_getElem?;intro i;simp only[Array.getElem?_modify,Array.getElem?_modify];by_cases h:a=i
 ·subst h
  have hx':objs[a]?=some o:=hx;rw[if_pos rfl,if_pos rfl,hx'];simp[e]
 ·rw[if_neg h,if_neg h]
theorem zmB{h:Heap}{a:Addr}{o1 o2:Obj}:(h.update a (λ_=>o1)).update a (λ_=>o2)=h.update a (λ_=>o2):=by
 obtain⟨objs,life⟩:=h;show Heap.mk ((objs.modify a λ_=>o1).modify a λ_=>o2) life=Heap.mk (objs.modify a λ_=>o2) life
 congr 1
 apply Array.ext_getElem?;intro i;simp only[Array.getElem?_modify];by_cases h:a=i
 ·simp[h];rfl
 ·simp[h]
theorem zjb{h:Heap}{a:Addr}{o:Obj}(ho:h.get? a=some o):h.update a (λ_=>o)=h:=by
 obtain⟨objs,life⟩:=h;have hx:=(Heap.get?_some_iff.mp ho).1;show Heap.mk (objs.modify a _) life=_
 congr 1
 apply Array.ext_getElem?;intro i;rw[Array.getElem?_modify];by_cases q:a=i
 ·subst q
  have hx':objs[a]?=some o:=hx;rw[if_pos rfl,hx'];rfl
 ·rw[if_neg q]
theorem zir{h:Heap}{a:Addr}{o:Obj}{d:zdv}(ho:h.get? a=some o):(h.update a (λ_=>zar d)).get? a=some (zar d):=
 xi _ ho rfl
section
variable{prog:Program}{w:World}{A:Around}{E:Value->Shared->Prop}{s:Shared}
structure zat(prog:Program)(w:World)(d:zdv)(l:List Str):Prop where
 el:ElemsOf (PySem.strKind prog w) d.1.toList
 mem:∀k,k∈l ↔ ∃e∈d.1.toList,(PySem.strKind prog w).is k e.2=true
 size:d.1.size=l.length
 small:l.length≤200
 fits:d.2.2.fits d.1.size=true
noncomputable def ins(l:List Str)(k:Str):List Str:=if k∈l then l else l++[k]
theorem zat.push{d:zdv}{l:List Str}(F:zat prog w d l){k:Str}{x:Value}(hk:(PySem.strKind prog w).is k x=true)(hx:x.scannable=true)(h200:l.length+1≤200)
  {es:Array (Int×Value)}(p:es.toList.Perm (d.1.push ((PySem.strKind prog w).hash k,x)).toList){ep:Nat}{t:SetTable}(hf:t.fits es.size=true) :
  zat prog w (es,ep,t) (l++[k]):=by
 rw[Array.toList_push]at p;refine⟨(F.el.push hk hx).perm p,λk'=>?_,?_,by simpa using h200,hf⟩
 ·have q:=mem_push_iff (S:=λk=>decide (k∈l)) hk (λk'=>by simpa using F.mem k') p k'
  rw[←q];simp
 ·show es.size=_
  rw[←Array.length_toList,p.length_eq,List.length_append,Array.length_toList,F.size];simp
theorem zat.perm{d:zdv}{l:List Str}(F:zat prog w d l){es:Array (Int×Value)}(p:es.toList.Perm d.1.toList){ep:Nat}{t:SetTable}(hf:t.fits es.size=true) :
  zat prog w (es,ep,t) l:=
 ⟨F.el.perm p,λk=>(F.mem k).trans ⟨λ⟨e,he,q⟩=>⟨e,p.mem_iff.mpr he,q⟩,λ⟨e,he,q⟩=>⟨e,p.mem_iff.mp he,q⟩⟩,
  by show es.size=_;rw[←Array.length_toList,p.length_eq,Array.length_toList,F.size],F.small,hf⟩
theorem ze2{a:Addr}{d:zdv}{es':Array (Int×Value)}{t':SetTable}{Q:Unit->Shared->Prop}(ho:s.heap.get? a=some (zar d))(hz:es'.size≤sizeLine)
  (h:Q () {s with heap:=s.heap.update a (λ_=>zar (es',d.2.1+1,t'))}):wpAny (model prog w) A (storeSet a es' t') Q E s:=by
 refine wpAny_storeSet_of ho rfl ?_ hz;rw[zsy ho (putSet_of es' t' rfl)];exact h
theorem zat.scan{d:zdv}{l:List Str}(F:zat prog w d l){k:Str}:(d.1.toList.findIdx? (λe=>(PySem.strKind prog w).is k e.2)).isSome=decide (k∈l):=by
 cases hr:List.findIdx? (λe=>(PySem.strKind prog w).is k e.2) d.1.toList with
 |some j=>
  obtain⟨hj,hpj,_⟩:=List.findIdx?_eq_some_iff_getElem.mp hr;have:k∈l:=(F.mem k).mpr ⟨_,List.getElem_mem hj,hpj⟩;simp[this]
 |none=>
  have:k∉l:=λhk=>by
   obtain⟨e,he,hp⟩:=(F.mem k).mp hk;have:=List.findIdx?_eq_none_iff.mp hr e he;cases hp.symm.trans this
  simp[this]
theorem zat.bound{d:zdv}{l:List Str}(F:zat prog w d l):d.1.size<scanBound:=by
 rw[F.size];have:=F.small;show _<4096;lia
theorem zcq{n:Nat}(h:n≤200):n≤sizeLine:=by rw[sizeLine_eq];lia
theorem zhw{a:Addr}{d:zdv}{l:List Str}{k:Str}{x:Value}{Q:Bool->Shared->Prop}(hk:(PySem.strKind prog w).is k x=true)(hx:x.scannable=true)
  (ho:s.heap.get? a=some (zar d))(F:zat prog w d l)(h200:l.length+1≤200)
  (h:∀b d',zat prog w d' (ins l k)->Q b {s with heap:=s.heap.update a (λ_=>zar d')}) :
  wpAny (model prog w) A (setAddHashed a x ((PySem.strKind prog w).hash k)) Q E s:=by
 unfold setAddHashed setAddHashedIn;refine yH (yl (wpAny_setState_of ho rfl F.fits ?_));dsimp only;rw[byScan_of hx F.bound F.el];simp only[↓reduceIte];unfold setAddByScan;refine yl ?_;refine yl (wpAny_rule ?_);refine yl (wpAny_setScan_of hk ho rfl F.fits F.el ?_);have hs:=F.scan (k:=k);cases hr:List.findIdx? (λe=>(PySem.strKind prog w).is k e.2) d.1.toList with
 |some j=>
  dsimp only;rw[hr]at hs;have hl:k∈l:=by simpa using hs.symm
  refine yo (yo ?_);have:=h false d (by unfold ins;rw[if_pos hl];exact F);have e:=zjb ho;rw[e]at this;exact this
 |none=>
  dsimp only;rw[hr]at hs;have hl:k∉l:=by simpa using hs.symm
  have hins:ins l k=l++[k]:=if_neg hl;rw[hins]at h;have hgw:∀(b:Bool){s₁:Shared}{Q':Unit->Shared->Prop},Q' () s₁->wpAny (model prog w) A (match b with|true=>rule "set.scan.the-table-gave-way"|false=>pure ()) Q' E s₁:=
   λb s₁ Q' hq=>by cases b<;>first|exact yo hq|exact wpAny_rule hq
  have hperm:=layNew_perm d.2.2 d.1 ((PySem.strKind prog w).hash k) x;have hfits:=layNew_fits d.2.2 d.1 ((PySem.strKind prog w).hash k) x;generalize hL:layNew d.2.2 d.1 ((PySem.strKind prog w).hash k) x=L at hperm hfits⊢;clear hL;obtain⟨es1,t1,wasDummy,gave⟩:=L;dsimp only at hperm hfits⊢;have hsz1:es1.size=l.length+1:=by
   rw[←Array.length_toList,hperm.length_eq,Array.toList_push,List.length_append,Array.length_toList,F.size];rfl
  refine yl (hgw _ ?_);have tail:∀(t2:SetTable),t2.fits es1.size=true->∀s₁:Shared,s₁=s->wpAny (model prog w) A (do
    storeSet a es1 t2
    if(!wasDummy&&t2.tooFull)=true then do
      (match (relayAll t2 es1 (SetTable.grown es1.size)).2.2 with|true=>rule "set.scan.the-table-gave-way"|false=>pure ())
      storeSet a (relayAll t2 es1 (SetTable.grown es1.size)).1 (relayAll t2 es1 (SetTable.grown es1.size)).2.1
      pure (some true)
     else pure (some true)) (λr s'=>∃b,r=some b∧Q b s') E s₁:=by
   rintro t2 hf2 s₁ rfl;refine yl (ze2 ho (zcq (by lia)) ?_)
   split
   ·have hp:=relayAll_perm t2 es1 (SetTable.grown es1.size)
    have hfr:=relayAll_fits t2 es1 (SetTable.grown es1.size);generalize relayAll t2 es1 (SetTable.grown es1.size)=Rl at hp hfr⊢;obtain⟨es2,t3,gave2⟩:=Rl;dsimp only at hp hfr⊢;have hsz2:es2.size=es1.size:=by rw[←Array.length_toList,hp.length_eq,Array.length_toList]
    refine yl (hgw _ ?_);refine yl (ze2 (zir ho) (zcq (by lia)) ?_);refine yo ⟨true,rfl,?_⟩;show Q true {s₁ with heap:=(s₁.heap.update a _).update a _};rw[zmB];exact h true _ ((F.push hk hx h200 hperm (ep:=0) hf2).perm hp hfr)
   ·exact yo ⟨true,rfl,h true _ (F.push hk hx h200 hperm hf2)⟩
  have fin:∀(m:Sem (Option Bool)),wpAny (model prog w) A m (λr s'=>∃b,r=some b∧Q b s') E s->wpAny (model prog w) A m
    (λa_1 s'=>wpAny (model prog w) A (match a_1 with
     |some added=>pure added
     |none=>setAddHashedIn a x ((PySem.strKind prog w).hash k) 99999) Q E s') E s:=λm hm=>
   yt hm (λr s' ⟨b,e,q⟩=>by subst e;exact yo q) λ_ _ q=>q
  split
  ·refine yl ?_
   rw[hashByValue_scannable 8 hx];refine yo (fin _ (tail _ ?_ s rfl))
   split
   ·exact hfits
   ·exact SetTable.fits_plain_off hfits
  ·refine yl (yo ?_)
   simp only[↓reduceIte];exact fin _ (tail _ hfits s rfl)
theorem zxO{a:Addr}{d:zdv}{l:List Str}{k:Str}{t:Tok}{Q:Bool->Shared->Prop}
  (ho:s.heap.get? a=some (zar d))(F:zat prog w d l)(h200:l.length+1≤200)
  (h:∀b d',zat prog w d' (ins l k)->Q b {s with heap:=s.heap.update a (λ_=>zar d'),toks:=s.toks+1}) :
  wpAny (model prog w) A (setAdd a (.str k t)) Q E s:=by
 unfold setAdd;refine yH (yl (wpAny_pyHash_str ?_));exact zhw (s:={s with toks:=s.toks+1}) (k:=k) (show Value.isStrOf k (.str k t)=true from by unfold Value.isStrOf;simp) rfl ho F h200 h
end
end Mine.Internal
end
section
open PySem
namespace Mine.Internal
open SetTable
noncomputable def zBg(m i:Nat):Nat:=(i*5+1)%(m+1)
noncomputable def znW(m:Nat):Nat->Nat->Nat
 |0,i=>i
 |k+1,i=>znW m k (zBg m i)
theorem zhh(m:Nat):∀a b i,znW m (a+b) i=znW m b (znW m a i)
 |0,b,i=>by rw[Nat.zero_add];rfl
 |a+1,b,i=>by rw[Nat.add_right_comm];exact zhh m a b (zBg m i)
structure Cyc(m:Nat):Prop where
 all:∀j,j<m+1->∃k,k<m+1∧znW m k 0=j
 back:znW m (m+1) 0=0
theorem Cyc.cover{m:Nat}(C:Cyc m){i j:Nat}(hi:i<m+1)(hj:j<m+1):∃k,k<m+1∧znW m k i=j:=by
 obtain⟨a,ha,rfl⟩:=C.all i hi;obtain⟨b,hb,rfl⟩:=C.all j hj;by_cases h:a≤b
 ·exact⟨b-a,yY (Nat.sub_le ..) hb,by rw[←zhh,Nat.add_sub_cancel' h]⟩
 ·refine⟨m+1-a+b,Nat.lt_of_lt_of_eq (Nat.add_lt_add_left (xh h) _) (Nat.sub_add_cancel (yc ha)),?_⟩
  rw[←zhh,←Nat.add_assoc,Nat.add_sub_cancel' (Nat.le_of_lt ha),zhh,C.back]
theorem zCB:Cyc 7:=⟨by right,by right⟩
theorem zwn:Cyc 127:=⟨by right,by right⟩
noncomputable def seen(m:Nat):Nat->Nat->Nat->List Nat
 |0,_,_=>[]
 |f+1,i,p=>i::seen m f (leap m i p).1 (leap m i p).2
theorem zxY(m i p:Nat):(leap m i p).1<m+1:=Nat.mod_lt _ (yd _)
theorem zns{mask:Nat}{owner:Array (Option Nat)}:∀(f i p:Nat),layClean.free mask owner f i p=none->∀j∈seen mask f i p,owner.getD j (some 0)≠none
 |0,_,_,_,j,hj=>by simp[seen]at hj
 |f+1,i,p,h,j,hj=>by
  have h:(match (List.range (runEnd mask i+1-i)).find? (λk=>(owner.getD (i+k) (some 0)).isNone)with
   |some k=>some (i+k)
   |none=>layClean.free mask owner f (leap mask i p).1 (leap mask i p).2)=none:=h
  cases hf:(List.range (runEnd mask i+1-i)).find? (λk=>(owner.getD (i+k) (some 0)).isNone)with
  |some k=>rw[hf]at h;cases h
  |none=>
   rw[hf]at h;rcases yz.mp hj with rfl|hj
   ·have hr:j≤runEnd mask j:=by unfold runEnd;split<;>lia
    have:=List.find?_eq_none.mp hf 0 (xb.mpr (Nat.sub_pos_of_lt (Nat.lt_succ_of_le hr)));intro e;simp only[Nat.add_zero,e]at this;simp at this
   ·exact zns f _ _ h j hj
theorem znm{mask:Nat}{owner:Array (Option Nat)}:∀(f i p j:Nat),layClean.free mask owner f i p=some j->owner.getD j (some 0)=none
 |0,_,_,_,h=>nomatch (show(none:Option Nat)=some _ from h)
 |f+1,i,p,j,h=>by
  have h:(match (List.range (runEnd mask i+1-i)).find? (λk=>(owner.getD (i+k) (some 0)).isNone)with
   |some k=>some (i+k)
   |none=>layClean.free mask owner f (leap mask i p).1 (leap mask i p).2)=some j:=h
  cases hf:(List.range (runEnd mask i+1-i)).find? (λk=>(owner.getD (i+k) (some 0)).isNone)with
  |some k=>
   rw[hf]at h;obtain rfl:=yj h;have:=List.find?_some hf;simpa using this
  |none=>rw[hf]at h;exact znm f _ _ _ h
theorem znt(m:Nat):∀f i,∀k,k<f->znW m k i∈seen m f i 0
 |0,_,k,h=>absurd h (yh _)
 |f+1,i,0,_=>yq
 |f+1,i,k+1,h=>by
  have hl:leap m i 0=(zBg m i,0):=by unfold leap zBg;simp
  rw[seen];rw[hl];exact yn _ (znt m f _ k (Nat.lt_of_succ_lt_succ h))
theorem zpO{m:Nat}(C:Cyc m):∀d f i p,p<32^d->i<m+1->m+1+d≤f->∀j,j<m+1->j∈seen m f i p
 |0,f,i,p,hp,hi,hf,j,hj=>by
  have:p=0:=by simpa using hp
  subst this;obtain⟨k,hk,rfl⟩:=C.cover hi hj;exact znt m f i k (yA hk hf)
 |d+1,f,i,p,hp,hi,hf,j,hj=>by
  induction f with
  |zero=>exact absurd hf (Nat.not_succ_le_zero _)
  |succ f=>
   rw[seen];refine yn _ (zpO C d f _ _ ?_ (zxY ..) (yN hf) j hj);show p/32<32^d;rw[Nat.pow_succ]at hp;exact Nat.div_lt_of_lt_mul (by rw[Nat.mul_comm];exact hp)
theorem zrj{m:Nat}(C:Cyc m){owner:Array (Option Nat)}{h:Int}{j0:Nat}(hj:j0<m+1)(hn:owner.getD j0 (some 0)=none) :
  ∃j,layClean.free m owner (turns m) (bits h%(m+1)) (bits h)=some j∧owner.getD j (some 0)=none:=by
 cases hf:layClean.free m owner (turns m) (bits h%(m+1)) (bits h)with
 |some j=>exact⟨j,rfl,znm _ _ _ _ hf⟩
 |none=>
  have hb:bits h<32^13:=by
   unfold bits;have h1:(h%(2^64:Int))<2^64:=Int.emod_lt_of_pos _ (by decide);have h0:0≤(h%(2^64:Int)):=Int.emod_nonneg _ (by decide);have:(32:Nat)^13=2^65:=by decide
   lia
  exact absurd hn (zns _ _ _ hf j0 (zpO C 13 (turns m) _ _ hb (Nat.mod_lt _ (yd _)) (by unfold turns;lia) j0 hj))
theorem zlY{k:Nat}:∀(L:List (Option Nat))(j:Nat),L[j]?=some none->((L.set j (some k)).filterMap id).Perm (k::L.filterMap id)
 |[],j,h=>by simp at h
 |none::L,0,h=>by simp
 |some x::L,0,h=>by simp at h
 |none::L,j+1,h=>by simpa using zlY L j (by exact h)
 |some x::L,j+1,h=>by
  have:=zlY (k:=k) L j (by exact h);simp only[List.set_cons_succ,List.filterMap_cons,id];exact(this.cons x).trans (List.Perm.swap ..)
theorem zhl:∀(L:List (Option Nat)),(L.filterMap id).length<L.length->∃j:Nat,L[j]?=some none
 |[],h=>by simp at h
 |none::L,_=>⟨0,rfl⟩
 |some x::L,h=>by
  obtain⟨j,hj⟩:=zhl L (by simpa using h);exact⟨j+1,by exact hj⟩
noncomputable abbrev zrP(mask:Nat)(acc:Option (Array (Option Nat)×Nat))(h:Int):Option (Array (Option Nat)×Nat):=do
 let (owner,k) ←acc
 let j ←layClean.free mask owner (turns mask) (bits h%(mask+1)) (bits h)
 pure (owner.setIfInBounds j (some k),k+1)
theorem zp6{m:Nat}(C:Cyc m):∀(hs:List Int)(owner:Array (Option Nat))(k:Nat),owner.size=m+1->(owner.toList.filterMap id).Perm (List.range k)->k+hs.length≤m ->
  ∃owner',hs.foldl (zrP m) (some (owner,k))=some (owner',k+hs.length)∧owner'.size=m+1∧(owner'.toList.filterMap id).Perm (List.range (k+hs.length))
 |[],owner,k,hs,hp,_=>⟨owner,rfl,hs,hp⟩
 |h::hs,owner,k,hsz,hp,hl=>by
  simp only[List.length_cons]at hl;obtain⟨j0,hj0⟩:=zhl owner.toList (by simp only[hp.length_eq,List.length_range,Array.length_toList,hsz];lia);have hj0':owner[j0]?=some none:=by rw[←Array.getElem?_toList];exact hj0
  have hlt:j0<m+1:=by
   obtain⟨q,_⟩:=Array.getElem?_eq_some_iff.mp hj0';lia
  left;obtain⟨j,hj,hjn⟩:=zrj C (h:=h) hlt (show owner.getD j0 (some 0)=none by rw[Array.getD_eq_getD_getElem?,hj0'];rfl);have hjn':owner[j]?=some none:=by
   rw[Array.getD_eq_getD_getElem?]at hjn;cases hq:owner[j]? with
   |none=>rw[hq]at hjn;cases hjn
   |some v=>rw[hq]at hjn;simp at hjn;rw[hjn]
  obtain⟨owner',e1,e2,e3⟩:=zp6 C hs (owner.setIfInBounds j (some k)) (k+1) (by simp[hsz]) (by
   have:(owner.setIfInBounds j (some k)).toList=owner.toList.set j (some k):=by simp
   rw[this];refine(zlY owner.toList j (by rw[Array.getElem?_toList];exact hjn')).trans ((hp.cons k).trans ?_);rw[List.range_succ];exact(List.perm_append_singleton k _).symm) (by lia)
  refine⟨owner',?_,e2,?_⟩
  ·simp only[List.foldl_cons,show k+(h::hs).length=k+1+hs.length by rw[List.length_cons,Nat.add_assoc,Nat.add_comm 1],←e1]
   congr 1
   show(do let j ←layClean.free m owner (turns m) (bits h%(m+1)) (bits h);pure (owner.setIfInBounds j (some k),k+1))=_;rw[hj];rfl
  ·rw[show k+(h::hs).length=k+1+hs.length by rw[List.length_cons,Nat.add_assoc,Nat.add_comm 1]];exact e3
theorem zlo{α β:Type}{f g:α->Option β}:∀{l:List α},(∀a∈l,f a=g a)->l.filterMap f=l.filterMap g
 |[],_=>rfl
 |a::l,h=>by
  rw[List.filterMap_cons,List.filterMap_cons,h a List.mem_cons_self,zlo λb hb=>h b (List.mem_cons_of_mem _ hb)]
theorem zo5:∀(L:List (Option Nat))(n:Nat),((List.range L.length).filterMap (λj=>((L[j]?).getD none).map λv=>(j+n,v))).map (·.2)=L.filterMap id
 |[],_=>rfl
 |x::L,n=>by
  rw[List.length_cons,List.range_succ_eq_map,List.filterMap_cons];have ih:=zo5 L (n+1);rw[List.filterMap_map];have e:(List.range L.length).filterMap ((λj=>(((x::L)[j]?).getD none).map λv=>(j+n,v)) ∘ Nat.succ)=(List.range L.length).filterMap (λj=>((L[j]?).getD none).map λv=>(j+(n+1),v)):=by
   apply zlo;intro j _;show(((x::L)[j+1]?).getD none).map _=_;simp only[List.getElem?_cons_succ,show j+1+n=j+(n+1) by lia]
  rw[e];clear e
  induction x with
  |none=>exact ih
  |some v=>simpa using ih
theorem zsS{m:Nat}(C:Cyc m){finger moves:Nat}{led plain:Bool}{hashes:Array Int}(hn:hashes.size≤m) :
  ∃t order,laid m finger moves led plain hashes=some (t,order)∧order.toList.Perm (List.range hashes.size)∧t.mask=m∧t.place.size=hashes.size∧t.dummies=#[]:=by
 left;obtain⟨owner,e1,e2,e3⟩:=zp6 C hashes.toList (Array.replicate (m+1) none) 0 (by simp) (by
  rw[Array.toList_replicate];have:∀n,(List.replicate n (none:Option Nat)).filterMap id=[]:=λn=>by induction n with
   |zero=>rfl
   |succ n ih=>simpa[List.replicate_succ]using ih
  rw[this];exact List.Perm.refl _) (by rw[Array.length_toList];lia)
 have hl:layClean m hashes=some owner:=by
  unfold layClean;rw[←Array.foldl_toList];show(List.foldl (zrP m) _ _).map _=_;exact ya _ e1
 have hlive:((List.range (m+1)).filterMap λj=>(owner.getD j none).map (j,·)).map (·.2)=owner.toList.filterMap id:=by
  have:=zo5 owner.toList 0;simp only[Array.length_toList,e2]at this;rw[←this]
  congr 1
  apply zlo;intro j _;simp only[Array.getD_eq_getD_getElem?,Array.getElem?_toList];rfl
 have hp:(owner.toList.filterMap id).Perm (List.range hashes.size):=by simpa[Array.length_toList]using e3
 refine⟨_,_,by unfold laid;rw[hl];rfl,?_,rfl,?_,rfl⟩
 ·show(((List.range (m+1)).filterMap λj=>(owner.getD j none).map (j,·)).map (·.2)).Perm _
  exact hlive▸hp
 ·show(((List.range (m+1)).filterMap λj=>(owner.getD j none).map (j,·)).map (·.1)).toArray.size=_
  rw[List.size_toArray,List.length_map];have:=ya List.length hlive;rw[List.length_map]at this;simp only[this,hp.length_eq,List.length_range]
theorem zvH{m:Nat}(C:Cyc m)(finger moves:Nat)(led plain:Bool):∃t,laid m finger moves led plain #[]=some (t,#[])∧t.mask=m∧t.place=#[]∧t.dummies=#[]:=by
 left;obtain⟨t,order,h1,h2,h3,h4,h5⟩:=zsS C (finger:=finger) (moves:=moves) (led:=led) (plain:=plain) (hashes:=#[]) (yb _);have:order=#[]:=Array.ext' (by simpa using h2);subst this;exact⟨t,h1,h3,Array.eq_empty_of_size_eq_zero h4,h5⟩
end Mine.Internal
end
section
open PySem PySem.W PySem.Calls PyProof.Rows
set_option tactic.hygienic false
set_option genInjectivity false
set_option genSizeOfSpec false
set_option maxRecDepth 100000
namespace Mine.Internal
structure zeK(n m:Nat):Prop where
 cyc:Cyc m
 le:n≤m
 room:(n*5<21∧m=7)∨(21≤n*5∧SetTable.sizeAbove (n*2)=m+1)
theorem zv8:zeK 2 7:=⟨zCB,by decide,.inl ⟨by decide,rfl⟩⟩
theorem zro:zeK 32 127:=⟨zwn,by decide,.inr ⟨by decide,by right⟩⟩
theorem ztQ:zeK 33 127:=⟨zwn,by decide,.inr ⟨by decide,by right⟩⟩
section
variable{prog:Program}{w:World}{A:Around}{E:Value->Shared->Prop}{s:Shared}
theorem zaT{a:Addr}{d:zdv}{Q:(Array (Int×Value)×Nat×SetTable)->Shared->Prop}(ho:s.heap.get? a=some (zar d))(hf:d.2.2.fits d.1.size=true)(h:Q d s) :
  wpAny (model prog w) A (setState a) Q E s:=wpAny_setState_of ho rfl hf h
theorem SetTable.fits_of{t:SetTable}{n:Nat}(h1:t.place.size=n)(h2:t.dummies=#[])(h3:n≤t.mask):t.fits n=true:=by
 unfold SetTable.fits SetTable.fill;rw[h1,h2];simp;omega
theorem zrb{r:Addr}{d:zdv}{n m:Nat}{Q:Unit->Shared->Prop}(K:zeK n m)(ho:s.heap.get? r=some (zar d))(he:d.1=#[])(hp:d.2.2.place=#[])(hd:d.2.2.dummies=#[])(hm:d.2.2.mask=7)
  (hn:n≤200)(h:∀d':zdv,d'.1=#[]->d'.2.2.place=#[]->d'.2.2.dummies=#[]->d'.2.2.mask=m->Q () {s with heap:=s.heap.update r (λ_=>zar d')}) :
  wpAny (model prog w) A (setRoomFor r n) Q E s:=by
 obtain⟨es,ep,t⟩:=d;dsimp only at he hp hd hm;subst he;have hf:t.fits (#[]:Array (Int×Value)).size=true:=SetTable.fits_of (ya _ hp) hd (by simp);unfold setRoomFor;refine yl (zaT ho hf ?_);have hrf:t.roomFor n=if n*5 ≥ 21 then some (n*2)else none:=by
  unfold SetTable.roomFor SetTable.fill;rw[hp,hd,hm];simp
 dsimp only;rw[hrf];rcases K.room with⟨h1,rfl⟩|⟨h1,h2⟩
 ·rw[if_neg (by lia)]
  refine yo ?_;have:=h (#[],ep,t) rfl hp hd hm;rw[zjb ho]at this;exact this
 ·rw[if_pos h1]
  unfold setRelay;refine yl (zaT ho hf ?_);dsimp only;rw[h2];have hle:=K.le;have hlt:¬(m+1 > sizeLine):=by
   have:m+1=SetTable.sizeAbove (n*2):=h2.symm;rw[sizeLine_eq];have hb:m+1≤16777216:=by
    rw[this];have:∀k,k≤400->SetTable.sizeAbove k≤16777216:=by
     have q:∀k,k<401->SetTable.sizeAbove k≤16777216:=by right
     exact λk hk=>q k (by lia)
    exact this _ (by lia)
   lia
  refine zbY hlt ?_;have hre:t.relaid (Array.map (λx=>x.1) (#[]:Array (Int×Value))) (n*2)=SetTable.laid m t.finger (t.movedTo m) t.led t.plain #[]:=by
   unfold SetTable.relaid;rw[h2];simp
  refine zzi (zvH K.cyc t.finger (t.movedTo m) t.led t.plain) λt' e1 e2 e3 e4=>?_;refine yl ?_;rw[hre,e1];show wpAny _ _ (do
   let es':=(#[]:Array Nat).filterMap ((#[]:Array (Int×Value))[·]?)
   if es'.size != (#[]:Array (Int×Value)).size then unsupported "internal:set-table-lost-an-element"
   pure (es',t')) _ _ s
  refine yo ?_;dsimp only;refine ze2 ho (by decide) ?_;exact h (#[],ep+1,t') rfl e3 e4 e2
theorem zrU{n:Nat}{order:Array Nat}{es:Array (Int×Value)}(hp:order.toList.Perm (List.range n))(hn:es.size=n):(order.filterMap (es[·]?)).toList.Perm es.toList:=by
 have e:(order.filterMap (es[·]?)).toList=order.toList.filterMap (λi=>es[i]?):=by simp
 rw[e];refine(hp.filterMap _).trans ?_;rw[←hn,filterMap_getElem?_range]
set_option tactic.hygienic true in
theorem zoE{r o:Addr}{d0 d:zdv}{l:List Str}{m:Nat}{Q:Unit->Shared->Prop}(hro:r≠o)(K:zeK l.length m)
  (hr:s.heap.get? r=some (zar d0))(he:d0.1=#[])(hp:d0.2.2.place=#[])(hd:d0.2.2.dummies=#[])(hm:d0.2.2.mask=7)
  (ho:s.heap.get? o=some (zar d))(F:zat prog w d l)(hl:l≠[])
  (h:∀d',zat prog w d' l->d'.2.2.mask=m->d'.2.2.dummies=#[]->Q () {s with heap:=s.heap.update r (λ_=>zar d')}) :
  wpAny (model prog w) A (setMerge r o) Q E s:=by
 unfold setMerge;refine zbY (show ¬(r==o)=true by simpa using hro) ?_;refine yl (zaT ho F.fits ?_);clear ho;obtain⟨eo,epo,to⟩:=d;dsimp only;have hne:eo.isEmpty=false:=by
  have hs:=F.size;dsimp only at hs;have:0<l.length:=List.length_pos_iff.mpr hl;rw[←Bool.not_eq_true];intro q;rw[Array.isEmpty_iff_size_eq_zero]at q;lia
 rw[hne];simp only[Bool.false_eq_true,↓reduceIte];have hsz:eo.size=l.length:=F.size;rw[hsz];refine yl (zrb K hr he hp hd hm F.small λd1 q1 q2 q3 q4=>?_);obtain⟨e1a,ep1,t1a⟩:=d1;dsimp only at q1 q2 q3 q4;subst q1;refine yl (zaT (zir hr) (SetTable.fits_of (ya _ q2) q3 (by simp)) ?_);dsimp only;have hfill:t1a.fill=0:=by unfold SetTable.fill;rw[q2,q3];rfl
 have hroad:t1a.road to=if t1a.mask==to.mask&&to.dummies.isEmpty then .slotForSlot else .clean:=by
  unfold SetTable.road;rw[hfill];simp
 rw[hroad]
 split
 ·rename_i hroad'
  left
  split at hroad'
  ·rename_i hc
   simp only[Bool.and_eq_true,beq_iff_eq,Array.isEmpty_iff]at hc;refine ze2 (zir hr) (zcq (hsz▸F.small)) ?_;show Q () {s with heap:=(s.heap.update r _).update r _};rw[zmB];refine h _ (F.perm (List.Perm.refl _) ?_) (hc.1.symm.trans q4) hc.2;exact F.fits
  ·cases hroad'
 ·left
  obtain⟨t',order,e1,e2,e3,e4,e5⟩:=zsS K.cyc (finger:=t1a.finger) (moves:=t1a.moves) (led:=t1a.led&&to.led) (plain:=t1a.plain&&to.plain) (hashes:=eo.map (·.1)) (by simp;exact hsz▸K.le);have hpick:(order.filterMap (eo[·]?)).toList.Perm eo.toList:=zrU (n:=eo.size) (by simpa using e2) rfl;have hps:(order.filterMap (eo[·]?)).size=eo.size:=by rw[←Array.length_toList,hpick.length_eq,Array.length_toList]
  refine yl ?_;rw[q4,e1];show wpAny _ _ (do
   let es':=order.filterMap (eo[·]?)
   if es'.size != eo.size then unsupported "internal:set-table-lost-an-element"
   pure (es',t')) _ _ _
  dsimp only;rw[hps];refine zbY (by simp) ?_;refine yo ?_;dsimp only;refine ze2 (zir hr) (zcq (by rw[hps,hsz];exact F.small)) ?_;show Q () {s with heap:=(s.heap.update r _).update r _};rw[zmB];refine h _ (F.perm hpick (SetTable.fits_of (by rw[e4,hps];simp) e5 (by rw[hps,hsz,e3];exact K.le))) e3 e5
 ·rename_i hroad'
  left
  split at hroad'<;>cases hroad'
end
theorem zfh{α:Type}:∀(l:List α)(i:Nat)(x:α),l[i]?=some x->(x::l.eraseIdx i).Perm l
 |[],_,_,h=>by simp at h
 |y::l,0,x,h=>by simp at h;subst h;exact List.Perm.refl _
 |y::l,i+1,x,h=>by
  simp only[List.getElem?_cons_succ]at h;rw[List.eraseIdx_cons_succ];exact(List.Perm.swap ..).trans ((zfh l i x h).cons y)
theorem zjB{α:Type}(next:Nat->Nat):∀(f k:Nat)(left:List α)(out:Array α),left.length≤f->(pickOrder.go next f k left out).toList.Perm (out.toList++left)
 |0,k,left,out,h=>by
  have:left=[]:=List.length_eq_zero_iff.mp (Nat.le_zero.mp h);clear h;subst this;show out.toList.Perm (out.toList++[]);rw[List.append_nil]
 |f+1,k,left,out,h=>by
  show(match left[next k%left.length]? with
   |some x=>pickOrder.go next f (k+1) (left.eraseIdx (next k%left.length)) (out.push x)
   |none=>out).toList.Perm _
  cases hx:left[next k%left.length]? with
  |none=>
   clear h
   induction left with
   |nil=>simp
   |cons y l=>
    have:next k%(y::l).length<(y::l).length:=Nat.mod_lt _ (yd _)
    rw[List.getElem?_eq_getElem this]at hx;exact zgL hx
  |some x=>
   dsimp only;have hlt:=(yp.mp hx).1;have hp:=zfh left _ x hx;refine(zjB next f (k+1) _ _ (by rw[List.length_eraseIdx];split<;>lia)).trans ?_;rw[Array.toList_push,List.append_assoc];exact List.Perm.append_left _ hp
theorem ztZ{α:Type}(next:Nat->Nat)(xs:Array α):(pickOrder next xs).toList.Perm xs.toList:=by
 have:=zjB next xs.size 0 xs.toList #[] (by simp)
 simpa[pickOrder]using this
section
variable{prog:Program}{w:World}{A:Around}{E:Value->Shared->Prop}{s:Shared}
theorem zjS{a:Addr}{d:zdv}{l:List Str}{Q:Array (Int×Value)->Shared->Prop}(ho:s.heap.get? a=some (zar d))(F:zat prog w d l)
  (hled:d.2.2.led=true∧d.2.2.plain=true∨d.1.size≤1∨w.params.followText "set-order"=true)(h:∀es,es.toList.Perm d.1.toList->Q es s):wpAny (model prog w) A (setWalk a) Q E s:=by
 unfold setWalk;refine yl (zaT ho F.fits ?_);clear F ho;obtain⟨es,ep,t⟩:=d;dsimp only at hled h⊢;unfold setsByText;refine yl (yl (wpAny_askSetting (yo ?_)));cases hb:w.params.followText "set-order" with
 |true=>
  have hb':(({program:=(model prog w).prog,params:=(model prog w).w.params}:Setting).params.followText "set-order")=true:=hb;rw[hb'];simp only[↓reduceIte];refine yl (wpAny_askSetting (yo (h _ (ztZ _ _))))
 |false=>
  have hb':(({program:=(model prog w).prog,params:=(model prog w).w.params}:Setting).params.followText "set-order")=false:=hb;rw[hb'];simp only[Bool.false_eq_true,↓reduceIte];have hd:(!t.plain&&decide (es.size > 1))=false:=by
   rcases hled with⟨_,q⟩|q|q
   ·rw[q];rfl
   ·have:¬es.size > 1:=by omega
    simp[this]
   ·exact zaF (hb.symm.trans q)
  show wpAny _ _ (if(!t.plain&&decide (es.size > 1))=true then _ else _) _ _ _;rw[hd];simp only[Bool.false_eq_true,↓reduceIte];have hm:(!t.led&&decide (es.size > 1))=false:=by
   rcases hled with⟨q,_⟩|q|q
   ·rw[q];rfl
   ·have:¬es.size > 1:=by omega
    simp[this]
   ·exact zaF (hb.symm.trans q)
  show wpAny _ _ (do (if(!t.led&&decide (es.size > 1))=true then unsupported "set:maker-not-led" else pure ());pure es) _ _ _;rw[hm];exact yl (yo (yo (h _ (List.Perm.refl _))))
theorem zl5{sets:List Addr}{Q:Bool->Shared->Prop}(hs:∀a∈sets,∃d l,s.heap.get? a=some (zar d)∧zat prog w d l)(h:Q true s):wpAny (model prog w) A (setsQuiet sets) Q E s:=by
 unfold setsQuiet;refine yl (yt (wpAny_forIn_list _ (λrest b s'=>s'=s∧b=⟨none,⟨⟩⟩∧∀a∈rest,∃d l,s.heap.get? a=some (zar d)∧zat prog w d l)
  (λb s'=>s'=s∧b=⟨none,⟨⟩⟩) ?zxP (λb s' ⟨h1,h2,_⟩=>⟨h1,h2⟩) sets _ ⟨rfl,rfl,hs⟩) ?post λ_ _ q=>q)
 case zxP=>
  clear h hs;rintro a rest b s' ⟨rfl,rfl,hr⟩;refine zfw (hr a yq) λd l ho F=>?_;unfold setEntries;refine yl (yl (zaT ho F.fits (yo ?_)));have hrest:∀a∈rest,∃d l,s'.heap.get? a=some (zar d)∧zat prog w d l:=λa ha=>hr a (yn _ ha);refine yl (yt (PySem.MeetsSeq2.wpAny_forIn_array _ (λxs b s''=>s''=s'∧b=⟨none,⟨⟩⟩∧∀e∈xs,∃k t,e.2=.str k t)
   (λb s''=>s''=s'∧b=⟨none,⟨⟩⟩) ?zxu (λb s'' ⟨h1,h2,_⟩=>⟨h1,h2⟩) d.1 _ ⟨rfl,rfl,?init2⟩) ?post2 λ_ _ q=>q)
  case zxu=>
   clear hrest ho hr;rintro⟨hh,x⟩ xs b s'' ⟨rfl,rfl,hx⟩;refine zBj (hx _ yq) λk t e=>?_;dsimp only at e;subst e;exact yo ⟨rfl,rfl,λe he=>hx e (yn _ he)⟩
  case init2=>
   intro e he;left;obtain⟨⟨k,hk,_⟩,_⟩:=F.el e (by exact he);obtain⟨t,e⟩:=Value.isStrOf_shape hk;exact zAv k t e
  case post2=>
   clear ho hr;rintro b s'' ⟨rfl,rfl⟩;exact yo ⟨rfl,rfl,hrest⟩
 case post=>
  clear hs;rintro b s' ⟨rfl,rfl⟩;exact yo h
theorem zkM{a:Addr}{others:List Addr}{filled:Option Addr}{d:zdv}{l:List Str}{Q:Array (Int×Value)->Shared->Prop}(ho:s.heap.get? a=some (zar d))(F:zat prog w d l)
  (hs:∀b∈others,∃d l,s.heap.get? b=some (zar d)∧zat prog w d l)(hf:d.1.size≤1∨filled=none)(h:∀es,es.toList.Perm d.1.toList->Q es s) :
  wpAny (model prog w) A (setWalkUnseen a others filled) Q E s:=by
 unfold setWalkUnseen;refine yl (zaT ho F.fits ?_);dsimp only;unfold setsByText;refine yl (yl (wpAny_askSetting (yo ?_)));cases hb:w.params.followText "set-order" with
 |true=>
  have hb':(({program:=(model prog w).prog,params:=(model prog w).w.params}:Setting).params.followText "set-order")=true:=hb;rw[hb'];simp only[Bool.true_or,↓reduceIte];exact zjS ho F (.inr (.inr hb)) h
 |false=>
  have hb':(({program:=(model prog w).prog,params:=(model prog w).w.params}:Setting).params.followText "set-order")=false:=hb;rw[hb'];simp only[Bool.false_or];by_cases hc:(d.2.2.led&&d.2.2.plain||decide (d.1.size≤1))=true
  ·refine zer hc ?_
   refine zjS ho F ?_ h;simp only[Bool.or_eq_true,Bool.and_eq_true,decide_eq_true_eq]at hc;rcases hc with q|q
   ·exact .inl q
   ·exact .inr (.inl q)
  ·refine zbY hc ?_
   have hfn:filled=none:=hf.elim (λq=>absurd (by simp[q]) hc) id;clear hf;subst hfn;refine yl (zl5 (λb hb=>?_) ?_)
   ·left
    rcases yz.mp hb with rfl|hb
    ·exact zny d l ho F
    ·exact hs b hb
   ·simp only[Bool.not_true,Bool.false_eq_true,↓reduceIte]
    exact yl (wpAny_rule (yo (h _ (List.Perm.refl _))))
theorem zfm{a:Addr}{d:zdv}{l:List Str}{Q:Nat->Shared->Prop}(ho:s.heap.get? a=some (zar d))(F:zat prog w d l)(h:Q d.2.1 s):wpAny (model prog w) A (setEpoch a) Q E s:=by
 unfold setEpoch;exact yl (zaT ho F.fits (yo h))
theorem zpS{d:zdv}{l:List Str}(F:zat prog w d l){e:Int×Value}(he:e∈d.1.toList):∃k t,k∈l∧e=((PySem.strKind prog w).hash k,.str k t):=by
 obtain⟨⟨k,hk,hh⟩,_⟩:=F.el e he;obtain⟨t,e2⟩:=Value.isStrOf_shape hk;exact zny k t ((F.mem k).mpr (zbB e he hk)) (by obtain⟨a,b⟩:=e;dsimp only at hh e2;subst hh e2;rfl)
theorem zzG{d:zdv}{c:Str}(F:zat prog w d [c]):∃t,d.1.toList=[((PySem.strKind prog w).hash c,.str c t)]:=by
 have hs:=F.size;obtain⟨es,ep,tb⟩:=d;obtain⟨L⟩:=es;dsimp only at hs⊢;have hs:L.length=1:=hs;obtain⟨e,rfl⟩:=List.length_eq_one_iff.mp hs;refine zfw (zpS F (e:=e) (by simp)) λk t hk hzz=>?_;subst hzz;rw[List.mem_singleton]at hk;subst hk;exact⟨t,rfl⟩
theorem ztv{r o:Addr}{dr d:zdv}{l:List Str}{c:Str}{each:Sem Unit}{Q:Unit->Shared->Prop}(hro:r≠o)(hr:s.heap.get? r=some (zar dr))(Fr:zat prog w dr l)(hl:l≠[])(h200:l.length+1≤200)
  (hroom:(dr.2.2.fill+1)*5<dr.2.2.mask*3)(ho:s.heap.get? o=some (zar d))(F:zat prog w d [c])
  (he:∀(s':Shared)(Q':Unit->Shared->Prop),s'.heap.get? o=some (zar d)->Q' () s'->wpAny (model prog w) A each Q' E s')
  (h:∀d',zat prog w d' (ins l c)->Q () {s with heap:=s.heap.update r (λ_=>zar d')}):wpAny (model prog w) A (setMerge r o each) Q E s:=by
 obtain⟨eo,epo,to⟩:=d;obtain⟨er,epr,tr⟩:=dr;dsimp only at hroom;unfold setMerge;refine zbY (show ¬(r==o)=true by simpa using hro) ?_;refine yl (zaT ho F.fits ?_);obtain⟨t,hd⟩:=zzG F;have hsz:eo.size=1:=by rw[←Array.length_toList,hd];rfl
 have hne:eo.isEmpty=false:=by
  rw[←Bool.not_eq_true,Array.isEmpty_iff_size_eq_zero];lia
 dsimp only;rw[hne];simp only[Bool.false_eq_true,↓reduceIte];unfold setRoomFor;refine yl (yl (zaT hr Fr.fits ?_));have hs1:eo.size=1:=hsz;have hrf:tr.roomFor eo.size=none:=by
  unfold SetTable.roomFor;rw[hsz,if_neg (by lia)]
 dsimp only;rw[hrf];refine yo ?_;refine yl (zaT hr Fr.fits ?_);have hfill:(tr.fill != 0)=true:=by
  have hf:=Fr.fits;simp only[SetTable.fits,Bool.and_eq_true,beq_iff_eq]at hf;have:0<l.length:=List.length_pos_iff.mpr hl;have hs:=Fr.size;dsimp only at hs hf;have:tr.fill≠0:=by unfold SetTable.fill;lia
  simpa using this
 have hroad:tr.road to=.oneByOne:=by unfold SetTable.road;rw[if_pos hfill]
 dsimp only;rw[hroad];dsimp only;refine yl (zkM ho F (λb hb=>(zny (er,epr,tr) l (by rw[List.mem_singleton.mp hb];exact hr) Fr)) (.inl (by show eo.size≤1;lia)) λes hp=>?_);rw[hd]at hp;have hes:es.toList=[((PySem.strKind prog w).hash c,Value.str c t)]:=List.perm_singleton.mp hp;have hes':es=#[((PySem.strKind prog w).hash c,Value.str c t)]:=Array.ext' hes;clear hes hp;subst hes';refine yl (yt (PySem.MeetsSeq2.wpAny_forIn_array _ (λxs b s'=>(xs=[((PySem.strKind prog w).hash c,Value.str c t)]∧s'=s)∨(xs=[]∧Q () s')) (λb s'=>Q () s') ?_ (λb s' hh=>?_) _ _ (.inl ⟨rfl,rfl⟩)) (λ_ _ q=>yo q) λ_ _ q=>q)
 ·rintro x rest b s' (⟨q,rfl⟩|⟨q,_⟩)
  ·injection q with q1 q2
   subst q1 q2;dsimp only;refine yl (yH (zhw (show Value.isStrOf c (.str c t)=true from by unfold Value.isStrOf;simp) rfl hr Fr h200 λb d' F'=>?_));have ho':({s' with heap:=s'.heap.update r (λ_=>zar d')}:Shared).heap.get? o=some (zar (eo,epo,to)):=by
    show(s'.heap.update r _).get? o=_;rw[Heap.get?_update_other _ _ hro];exact ho
   refine yl (he _ _ ho' ?_);refine yl (zaT ho' F.fits ?_);refine zbY (by simp) ?_;exact yo (.inr ⟨rfl,h d' F'⟩)
  ·exact zjG q
 ·rcases hh with⟨q,_⟩|⟨_,q⟩
  ·exact zp1 q
  ·exact q
theorem ziH:isSubtype (.type "frozenset") (.type "set")=pure false:=by rw[isSubtype_type];kernel_rfl
theorem zl6:isSubtype (.type "frozenset") (.type "frozenset")=pure true:=by rw[isSubtype_type];kernel_rfl
theorem zij{a:Addr}{d:zdv}(ho:s.heap.get? a=some (zar d)):s.TypeIs (.ref a) "frozenset":=⟨_,ho,rfl⟩
theorem zb5{a:Addr}{d:zdv}{Q:Bool->Shared->Prop}(ho:s.heap.get? a=some (zar d))(h:Q true s):wpAny (model prog w) A (Builtin.Frozenset.isAnySet (.ref a)) Q E s:=by
 unfold Builtin.Frozenset.isAnySet;unfold orM;refine yl (wpAny_isInstance (zij ho) ziH ?_);exact wpAny_isInstance (zij ho) zl6 h
theorem zon{Q:Value->Shared->Prop}(h:∀led:Bool,Q (.ref s.heap.objs.size) {s with heap:=s.heap.push (zar (#[],0,.fresh 0 0 led))}) :
  wpAny (model prog w) A (newSet (.type "frozenset")) Q E s:=by
 unfold newSet setsByText;refine yl (yl (wpAny_askSetting (yo ?_)));dsimp only;simp only[newObj];exact yl (wpAny_alloc (yo (h _)))
theorem zlU{h:Heap}{o o':Obj}:(h.push o).update h.objs.size (λ_=>o')=h.push o':=by
 obtain⟨objs,life⟩:=h;show Heap.mk ((objs.push o).modify objs.size _) life=Heap.mk (objs.push o') life
 congr 1
 apply Array.ext_getElem?;intro i;rw[Array.getElem?_modify,Array.getElem?_push,Array.getElem?_push];by_cases q:i=objs.size
 ·subst q;simp
 ·simp[q,Ne.symm q]
theorem zjQ{a:Addr}{d:zdv}{l:List Str}{m:Nat}{Q:Value->Shared->Prop}(K:zeK l.length m)(ho:s.heap.get? a=some (zar d))(F:zat prog w d l)(hl:l≠[])
  (h:∀d',zat prog w d' l->d'.2.2.mask=m->d'.2.2.dummies=#[]->Q (.ref s.heap.objs.size) {s with heap:=s.heap.push (zar d')}) :
  wpAny (model prog w) A (Builtin.Frozenset.copyOf a) Q E s:=by
 unfold Builtin.Frozenset.copyOf Builtin.Frozenset.baseOf;refine yl (yl (wpAny_isInstance (zij ho) ziH ?_));simp only[Bool.false_eq_true,↓reduceIte];refine yo ?_;refine yl (zon λled=>?_);unfold Builtin.Frozenset.addrOf;refine yl (yo ?_);have hlt:a<s.heap.objs.size:=Heap.lt_size ho;refine yl (zoE (Nat.ne_of_gt hlt) K (yI _ rfl) rfl rfl rfl rfl (yE _ ho) F hl λd' F' h1 h2=>yo ?_);show Q _ {s with heap:=(s.heap.push _).update _ _};rw[zlU];exact h d' F' h1 h2
theorem zys{d:zdv}{l:List Str}(F:zat prog w d l)(hd:d.2.2.dummies=#[]):d.2.2.fill=l.length:=by
 have hf:=F.fits;simp only[SetTable.fits,Bool.and_eq_true,beq_iff_eq]at hf;unfold SetTable.fill;simp only[hd,hf.1,F.size];rfl
theorem zyN{a b:Addr}{da db:zdv}{l:List Str}{c:Str}{m:Nat}{Q:PySem.Fin->Shared->Prop}(K:zeK l.length m)(hm:(l.length+1)*5<m*3)(hab:a≠b)(h200:l.length+1≤200)
  (ha:s.heap.get? a=some (zar da))(Fa:zat prog w da l)(hl:l≠[])(hb:s.heap.get? b=some (zar db))(Fb:zat prog w db [c])
  (h:∀d',zat prog w d' (ins l c)->Q (.done (.ret (.ref s.heap.objs.size))) {s with heap:=s.heap.push (zar d')}) :
  wpAny (model prog w) A (Builtin.«frozenset.__or__» ⟨[.ref a,.ref b],[]⟩) Q E s:=by
 show wpAny _ _ (do
  let (x,y):=((Value.ref a,Value.ref b):Value×Value)
  if !(←(Builtin.Frozenset.isAnySet x <&&> Builtin.Frozenset.isAnySet y))then rule s!"frozenset.__or__.declined";return ←ret .notImplemented
  ret (←(do
   let result ←Builtin.Frozenset.copyOf a
   if y != .ref a then holding [result] (Builtin.Frozenset.updateFrom s!"frozenset.__or__" (←Builtin.Frozenset.addrOf result) y)
   return result))) _ _ _
 dsimp only;refine yl ?_;unfold andM;refine yl (zb5 ha ?_);refine zb5 hb ?_;simp only[Bool.not_true,Bool.false_eq_true,↓reduceIte];refine yl (yl (zjQ K ha Fa hl λd1 F1 hm1 hd1=>?_));refine zer (show(Value.ref b != Value.ref a)=true by simpa using Ne.symm hab) ?_;have hfill:=zys F1 hd1;have hb':=yE (zar d1) hb;have hr':(s.heap.push (zar d1)).get? s.heap.objs.size=some (zar d1):=yI _ rfl;have hblt:b<s.heap.objs.size:=Heap.lt_size hb;unfold Builtin.Frozenset.updateFrom;refine yl (yo (yl (yH ?_)));refine yl (zb5 hb' ?_);simp only[↓reduceIte];unfold Builtin.Frozenset.merge;refine yl (yo ?_);refine yl (zfm hb' Fb ?_);refine ztv (Nat.ne_of_gt hblt) hr' F1 hl h200 (by rw[hfill,hm1];exact hm) hb' Fb (λs' Q' hs' hq=>?_) λd' F'=>yo ?_
 ·unfold Builtin.Frozenset.unchanged
  refine yl (zfm hs' Fb ?_);refine zbY (by simp) ?_;exact yo hq
 ·show wpAny _ _ (ret (Value.ref s.heap.objs.size)) _ _ {s with heap:=(s.heap.push _).update _ _}
  rw[zlU];exact yo (h d' F')
theorem zk5{α:Type}[DecidableEq α]:∀{m t:List α},m.Nodup->m ⊆ t->m.length≤t.length
 |[],_,_,_=>yb _
 |a::m,t,hn,hs=>by
  have ha:a∈t:=hs yq;have hn':=List.nodup_cons.mp hn;have:=zk5 (m:=m) (t:=t.erase a) hn'.2 λx hx=>(List.mem_erase_of_ne (λe:x=a=>hn'.1 (e▸hx))).mpr (hs (yn _ hx));rw[List.length_erase_of_mem ha]at this;exact Nat.add_le_of_le_sub (List.length_pos_of_mem ha) this
noncomputable def without(l:List Str)(r:List Str):List Str:=l.filter λk=>decide (k∉r)
theorem zeJ{α:Type}(xs:Array α)(p:Nat):(SetTable.eraseAt xs p).toList=xs.toList.eraseIdx p:=by
 unfold SetTable.eraseAt;simp only[Array.toList_append,Array.toList_extract,Array.toList_extract,List.extract_eq_take_drop,List.extract_eq_take_drop,List.eraseIdx_eq_take_drop_succ];simp only[Nat.sub_zero,List.drop_zero];rw[List.take_of_length_le (l:=List.drop (p+1) xs.toList) (by simp)]
structure zp4(d:zdv)(m k:Nat):Prop where
 mask:d.2.2.mask=m
 dum:d.2.2.dummies.size≤k
theorem zob{a:Addr}{d:zdv}{l:List Str}{c:Str}{t:Tok}{m k:Nat}{Q:Bool->Shared->Prop}(hn:l.Nodup)(ho:s.heap.get? a=some (zar d))(F:zat prog w d l)(S:zp4 d m k)
  (h:∀b d',zat prog w d' (l.filter λx=>decide (x≠c))->zp4 d' m (k+1)->Q b {s with heap:=s.heap.update a (λ_=>zar d')}) :
  wpAny (model prog w) A (setDiscardHashed a (.str c t) ((PySem.strKind prog w).hash c)) Q E s:=by
 have hk:(PySem.strKind prog w).is c (.str c t)=true:=show Value.isStrOf c (.str c t)=true from by unfold Value.isStrOf;simp
 unfold setDiscardHashed;obtain⟨es,ep,tb⟩:=d;have hel:ElemsOf (PySem.strKind prog w) es.toList:=F.el;have hsz:es.size=l.length:=F.size;have hfit:tb.fits es.size=true:=F.fits;refine yl ?_;unfold setFind setFindIn;refine yl (zaT ho F.fits ?_);dsimp only;rw[byScan_of (x:=.str c t) rfl F.bound hel];simp only[↓reduceIte];refine yl (wpAny_rule ?_);refine yl (wpAny_setScan_of hk ho rfl F.fits hel ?_);have hscan:=F.scan (k:=c);dsimp only at hscan;cases hr:List.findIdx? (λe=>(PySem.strKind prog w).is c e.2) es.toList with
 |none=>
  dsimp only;rw[hr]at hscan;have hl:c∉l:=by exact of_decide_eq_false hscan.symm
  refine yo (yo ?_);have e:l.filter (λx=>decide (x≠c))=l:=List.filter_eq_self.mpr λx hx=>by simpa using λq:x=c=>hl (q▸hx)
  have:=h false (es,ep,tb) (by rw[e];exact F) ⟨S.mask,xg S.dum⟩;rw[zjb ho]at this;exact this
 |some j=>
  dsimp only;clear hscan;obtain⟨hj,hpj,hfirst⟩:=List.findIdx?_eq_some_iff_getElem.mp hr;rw[Nat.zero_add];refine yo ?_;refine yl (zaT ho F.fits ?_);dsimp only;have hj':j<es.size:=by exact hj
  have hpl:tb.place.size=es.size:=by
   have:=hfit;simp only[SetTable.fits,Bool.and_eq_true,beq_iff_eq]at this;exact this.1
  have hfl:tb.fill≤tb.mask:=by
   have:=hfit;simp only[SetTable.fits,Bool.and_eq_true,decide_eq_true_eq]at this;exact this.2
  clear hr;obtain⟨v,hv⟩:∃v,tb.place[j]?=some v:=⟨_,Array.getElem?_eq_getElem (by lia)⟩;have hle:(SetTable.eraseAt es j).size=es.size-1:=by
   rw[←Array.length_toList,zeJ,List.length_eraseIdx,Array.length_toList,if_pos hj']
  refine yl (ze2 ho (zcq (by rw[hle,hsz];have:=F.small;omega)) ?_);refine yl (wpAny_point (yo ?_));have hp:=zfh es.toList j es.toList[j] (yu hj);have hdrop:tb.drop j={tb with place:=SetTable.eraseAt tb.place j,dummies:=SetTable.insertAt tb.dummies (SetTable.below tb.dummies v) v}:=by
   unfold SetTable.drop;rw[hv]
  have hps:(SetTable.eraseAt tb.place j).size=es.size-1:=by
   rw[←Array.length_toList,zeJ,List.length_eraseIdx,Array.length_toList,hpl,if_pos hj']
  have hds:(SetTable.insertAt tb.dummies (SetTable.below tb.dummies v) v).size=tb.dummies.size+1:=by
   rw[←Array.length_toList,(SetTable.insertAt_perm ..).length_eq,Array.toList_push,List.length_append,Array.length_toList];rfl
  have hmem:∀k',k'∈l.filter (λx=>decide (x≠c)) ↔ ∃e∈(SetTable.eraseAt es j).toList,(PySem.strKind prog w).is k' e.2=true:=by
   intro k';rw[zeJ,List.mem_filter,F.mem k']
   constructor
   ·rintro⟨⟨e,he,hq⟩,hne⟩
    have hne:k'≠c:=by exact yF hne
    left;rcases yz.mp (hp.mem_iff.mpr he)with rfl|he'
    ·exact absurd ((PySem.strKind prog w).inj _ _ _ hq hpj) hne
    ·exact zbB e he' hq
   ·rintro⟨e,he,hq⟩
    refine⟨(zbB e (hp.mem_iff.mp (yn _ he)) hq),?_⟩;have:k'≠c:=by
     rintro rfl
     -- two entries of one text: the list would be shorter than the entries
     have key:∀(L:List (Int×Value))(m:List Str),m.Nodup->L.length=m.length->(∀k,k∈m ↔ ∃e∈L,(PySem.strKind prog w).is k e.2=true)->(∀e∈L,∃k,(PySem.strKind prog w).is k e.2=true) ->
       ∀e1 (L1:List (Int×Value)),(e1::L1).Perm L->∀e2∈L1,∀k,(PySem.strKind prog w).is k e1.2=true->(PySem.strKind prog w).is k e2.2=true->False:=by
      intro L m hm hlen hmm hk e1 L1 hp e2 he2 k h1 h2
      -- m is a subset of the texts of L1
      have hL1:∀k,k∈m->∃e∈L1,(PySem.strKind prog w).is k e.2=true:=λk' hk'=>by
       refine zaO ((hmm k').mp hk') λe he hq=>?_;rcases yz.mp (hp.mem_iff.mpr he)with rfl|he'
       ·have:k'=k:=(PySem.strKind prog w).inj _ _ _ hq h1
        subst this;exact zbB e2 he2 h2
       ·exact zbB e he' hq
      have hlen1:L1.length+1=m.length:=by rw[←hlen,←hp.length_eq];rfl
      -- texts of L1 as a list
      have htx:∃tx:List Str,tx.length=L1.length∧∀k,(∃e∈L1,(PySem.strKind prog w).is k e.2=true)->k∈tx:=by
       have:∀(L1:List (Int×Value)),(∀e∈L1,∃k,(PySem.strKind prog w).is k e.2=true)->∃tx:List Str,tx.length=L1.length∧∀k,(∃e∈L1,(PySem.strKind prog w).is k e.2=true)->k∈tx:=by
        intro L1
        induction L1 with
        |nil=>exact λ_=>(zbB ([]) rfl (λk ⟨e,he,_⟩=>by exact zcx he))
        |cons e L1 ih=>
         intro hk;refine zaO (ih λe he=>hk e (yn _ he)) λtx t1 t2=>?_;obtain⟨k,hke⟩:=hk e yq;refine zbB (k::tx) (by simp[t1]) (λk' ⟨e',he',hq⟩=>?_);rcases yz.mp he' with rfl|he'
         ·rw[(PySem.strKind prog w).inj _ _ _ hq hke];exact yq
         ·exact yn _ (t2 k' (zbB e' he' hq))
       exact this L1 λe he=>hk e (hp.mem_iff.mp (yn _ he))
      refine zaO htx λtx t1 t2=>?_;have hsub:m ⊆ tx:=λk hk=>t2 k (hL1 k hk);have:=zk5 hm hsub;lia
     exact key es.toList l hn (yC.trans hsz) F.mem (λe he=>let ⟨⟨k,q,_⟩,_⟩:=hel e he;⟨k,q⟩) _ _ hp e he _ hpj hq
    exact yv this
  have hnd:(l.filter λx=>decide (x≠c)).length=l.length-1:=by
   have hc:c∈l:=(F.mem c).mpr (zbB _ (List.getElem_mem hj) hpj);have e:(l.filter λx=>decide (x≠c))=l.erase c:=by
    rw[hn.erase_eq_filter]
    congr 1
    funext x
    simp[bne,BEq.beq]
   simp only[e,List.length_erase_of_mem hc]
  have F':zat prog w (SetTable.eraseAt es j,ep+1,tb.drop j) (l.filter λx=>decide (x≠c)):=by
   refine⟨λe he=>hel e ?_,hmem,?_,?_,?_⟩
   ·have:e∈es.toList.eraseIdx j:=by rw[←zeJ];exact he
    exact hp.mem_iff.mp (yn _ this)
   ·show(SetTable.eraseAt es j).size=_
    simp only[hle,hnd,hsz]
   ·rw[hnd];have:=F.small;omega
   ·show(tb.drop j).fits (SetTable.eraseAt es j).size=true
    rw[hdrop];unfold SetTable.fits SetTable.fill;dsimp only;simp only[hps,hds,hle];unfold SetTable.fill at hfl;simp;lia
  exact h true _ F' ⟨by show(tb.drop j).mask=m;exact(ya _ hdrop).trans S.mask,by show(tb.drop j).dummies.size≤k+1;rw[hdrop];dsimp only;rw[hds];exact yG S.dum⟩
end
section
variable{prog:Program}{w:World}{A:Around}{E:Value->Shared->Prop}{s:Shared}
theorem zhm{a:Addr}{d:zdv}{l:List Str}{Q:Nat->Shared->Prop}(ho:s.heap.get? a=some (zar d))(F:zat prog w d l)(h:Q l.length s) :
  wpAny (model prog w) A (Builtin.Frozenset.sizeOf a) Q E s:=by
 unfold Builtin.Frozenset.sizeOf setEntries;refine yl (yl (zaT ho F.fits (yo (yo ?_))));exact F.size▸h
theorem zok{α β:Type}[DecidableEq α](l:List α)(P:α->β->Bool)(done:List β)(e:β)(k:α)(hx:∀x,P x e=false↔x≠k)[∀(L:List β)(x:α),Decidable (∀b∈L,P x b=false)] :
  (l.filter λx=>decide (∀b∈done++[e],P x b=false))=(l.filter λx=>decide (∀b∈done,P x b=false)).filter λx=>decide (x≠k):=by
 rw[List.filter_filter];apply List.filter_congr;intro x _;rw[←Bool.decide_and];apply yW.mpr;rw[List.forall_mem_append,←hx x]
 constructor
 ·rintro⟨a,b⟩;exact⟨b e (xc.mpr rfl),a⟩
 ·rintro⟨a,b⟩;exact⟨b,λe' he=>by rw[List.mem_singleton.mp he];exact a⟩
theorem zoR{r o:Addr}{id:String}{dr d:zdv}{l rem:List Str}{m:Nat}{Q:Unit->Shared->Prop}(hro:r≠o)(hn:l.Nodup)(hr:s.heap.get? r=some (zar dr))(Fr:zat prog w dr l)
  (hm:dr.2.2.mask=m)(hd:dr.2.2.dummies=#[])(ho:s.heap.get? o=some (zar d))(F:zat prog w d rem)(h2:rem.length≤2)(h8:rem.length/8≤l.length)(hm4:2≤m/4)
  (h:∀d',zat prog w d' (without l rem)->Q () {s with heap:=s.heap.update r (λ_=>zar d')}) :
  wpAny (model prog w) A (Builtin.Frozenset.differenceUpdate id r (.ref o)) Q E s:=by
 unfold Builtin.Frozenset.differenceUpdate;refine zbY (show ¬(Value.ref o==Value.ref r)=true by simpa using Ne.symm hro) ?_;refine yl (zb5 ho ?_);simp only[↓reduceIte];unfold Builtin.Frozenset.addrOf;refine yl (yo ?_);refine yl (zhm ho F ?_);refine yl (zhm hr Fr ?_);refine zbY (by lia) ?_;refine yl (zfm ho F ?_);refine yl (yH ?_);refine yl (zkM ho F (λb hb=>(zny dr l (by rw[List.mem_singleton.mp hb];exact hr) Fr)) (.inr rfl) λes hp=>?_);have hlen:es.toList.length≤2:=by simp only[hp.length_eq,Array.length_toList,F.size];exact h2
 refine yl (yt (PySem.MeetsSeq2.wpAny_forIn_array _
  (λxs _ s'=>∃done d' ,es.toList=done++xs∧s'={s with heap:=s.heap.update r (λ_=>zar d')}∧zat prog w d' (l.filter λx=>decide (∀e∈done,(PySem.strKind prog w).is x e.2=false))∧zp4 d' m done.length)
  (λ_ s'=>∃d',s'={s with heap:=s.heap.update r (λ_=>zar d')}∧zat prog w d' (without l rem)∧zp4 d' m 2) ?zxP ?fin es _ ?init) ?post λ_ _ q=>q)
 case zxP=>
  rintro⟨hh,x⟩ rest b s' ⟨done,d',he,rfl,F',S'⟩;have hmem:(hh,x)∈d.1.toList:=hp.mem_iff.mp (by rw[he];exact xe _ yq);refine zfw (zpS F hmem) λk t hk e=>?_;injection e with e1 e2;clear hmem;subst e1 e2;dsimp only;have ho':(s.heap.update r (λ_=>zar d')).get? o=some (zar d):=by rw[Heap.get?_update_other _ _ hro];exact ho
  refine yl (yH (zob (hn.filter _) (zir hr) F' S' λb d'' F'' S''=>?_));have ho'':((s.heap.update r (λ_=>zar d')).update r (λ_=>zar d'')).get? o=some (zar d):=by rw[Heap.get?_update_other _ _ hro];exact ho'
  unfold Builtin.Frozenset.unchanged;refine yl (yl (zfm ho'' F ?_));refine zbY (by simp) ?_;refine yo (yo (zkD (done++[((PySem.strKind prog w).hash k,Value.str k t)]) d'' (by simp only[he,List.append_assoc];rfl) ?_ ?_ ?_))
  ·show({s with heap:=(s.heap.update r _).update r _}:Shared)=_
   rw[zmB]
  ·have e:(l.filter λx=>decide (∀e∈done++[((PySem.strKind prog w).hash k,Value.str k t)],(PySem.strKind prog w).is x e.2=false)) =
     (l.filter λx=>decide (∀e∈done,(PySem.strKind prog w).is x e.2=false)).filter λx=>decide (x≠k):=by
    refine zok l (λ(x:Str)(e:Int×Value)=>(PySem.strKind prog w).is x e.2) done _ k λx=>?_;show(k==x)=false↔_;rw[beq_eq_false_iff_ne];exact ne_comm
   rw[e];exact F''
  ·rw[List.length_append];exact S''
 case fin=>
  rintro b s' ⟨done,d',he,rfl,F',S'⟩;rw[List.append_nil]at he;subst he;refine zga d' rfl ?_ ⟨S'.mask,yk S'.dum hlen⟩;have e:(l.filter λx=>decide (∀e∈es.toList,(PySem.strKind prog w).is x e.2=false))=without l rem:=by
   unfold without;apply List.filter_congr;intro x _;simp only[decide_eq_decide];rw[F.mem x]
   constructor
   ·rintro q ⟨e,he,hi⟩
    rw[q e (hp.mem_iff.mpr he)]at hi;exact zaF hi
   ·intro q e he
    rw[←Bool.not_eq_true];exact λhi=>q (zbB e (hp.mem_iff.mp he) hi)
  rw[←e];exact F'
 case init=>
  refine zkD ([]) dr rfl ?_ ?_ (⟨hm,hd▸(yr _)⟩)
  ·rw[zjb hr]
  ·have e:(l.filter λx=>decide (∀e∈([]:List (Int×Value)),(PySem.strKind prog w).is x e.2=false))=l:=List.filter_eq_self.mpr λx _=>rfl
   exact e.symm▸Fr
 case post=>
  rintro _ s' ⟨d',rfl,F',S'⟩;refine yo ?_;unfold setTidy;refine yl (zaT (zir hr) F'.fits ?_);have:d'.2.2.tooManyDummies=false:=by
   unfold SetTable.tooManyDummies;rw[S'.mask];have:=S'.dum;simp;lia
  obtain⟨es',ep',t'⟩:=d';dsimp only at this⊢;rw[this];exact yo (h _ F')
theorem zvh{a b:Addr}{da db:zdv}{l rem:List Str}{m:Nat}{Q:PySem.Fin->Shared->Prop}(K:zeK l.length m)(hn:l.Nodup)
  (ha:s.heap.get? a=some (zar da))(Fa:zat prog w da l)(hl:l≠[])(hb:s.heap.get? b=some (zar db))(Fb:zat prog w db rem)(h2:rem.length≤2)(h4:l.length/4 > 2)(hm4:2≤m/4)
  (h:∀d',zat prog w d' (without l rem)->Q (.done (.ret (.ref s.heap.objs.size))) {s with heap:=s.heap.push (zar d')}) :
  wpAny (model prog w) A (Builtin.«frozenset.__sub__» ⟨[.ref a,.ref b],[]⟩) Q E s:=by
 show wpAny _ _ (do
  let (x,y):=((Value.ref a,Value.ref b):Value×Value)
  if !(←(Builtin.Frozenset.isAnySet x <&&> Builtin.Frozenset.isAnySet y))then rule s!"frozenset.__sub__.declined";return ←ret .notImplemented
  ret (←Builtin.Frozenset.difference s!"frozenset.__sub__" a y)) _ _ _
 dsimp only;refine yl ?_;unfold andM;refine yl (zb5 ha ?_);refine zb5 hb ?_;simp only[Bool.not_true,Bool.false_eq_true,↓reduceIte];unfold Builtin.Frozenset.difference;refine yl (yl (zb5 hb ?_));simp only[Bool.not_true,Bool.false_eq_true,↓reduceIte];unfold Builtin.Frozenset.addrOf;refine yl (yo ?_);simp only[Bool.false_and,Bool.false_eq_true,↓reduceIte];refine yl (zhm hb Fb ?_);refine yl (zhm ha Fa ?_);refine zer (show l.length/4 > rem.length by lia) ?_;refine yl (wpAny_rule ?_);refine yl (zjQ K ha Fa hl λd1 F1 hm1 hd1=>?_);have hb':=yE (zar d1) hb;have hr':(s.heap.push (zar d1)).get? s.heap.objs.size=some (zar d1):=yI _ rfl;have hblt:b<s.heap.objs.size:=Heap.lt_size hb;refine yl (yo ?_);refine yl (yH (zoR (Nat.ne_of_gt hblt) hn hr' F1 hm1 hd1 hb' Fb h2 (by lia) hm4 λd' F'=>yo ?_));show wpAny _ _ (ret (Value.ref s.heap.objs.size)) _ _ {s with heap:=(s.heap.push _).update _ _};rw[zlU];exact yo (h d' F')
end
structure BS where
 tree:BT
 n:Nat
 life:Life
 gens:List GenState
 drawn:Drawn
 toks:Nat
 os:OsState
 log:List (List Str)
 at_:List (Addr×Nat)
noncomputable def BS.heap(b:BS):Heap:=absHeap b.tree b.n b.life
noncomputable def BS.abs(b:BS):Shared:=⟨b.heap,⟨b.gens⟩,b.drawn,b.toks,b.os⟩
noncomputable def BS.cnt(b:BS):Nat:=b.log.length
inductive Out(α:Type) where
 |ok (a:α) (p:Pos) (b:BS)
 |err (e:Value) (p:Pos) (b:BS)
noncomputable def Out.b{α:Type}:Out α->BS
 |.ok _ _ b=>b
 |.err _ _ b=>b
noncomputable def eqL:List Nat->List Nat->Bool
 |[],[]=>true
 |a::l,b::m=>match Nat.beq a b with
  |true=>eqL l m
  |false=>false
 |_,_=>false
theorem zoq:∀l m,eqL l m=true↔l=m
 |[],[]=>by decide
 |[],b::m=>⟨λh=>zaF h,λh=>zp1 h⟩
 |a::l,[]=>⟨λh=>zaF h,λh=>zjG h⟩
 |a::l,b::m=>by
  show(match Nat.beq a b with|true=>eqL l m|false=>false)=true↔_;cases h:Nat.beq a b with
  |true=>have:=Nat.eq_of_beq_eq_true h;subst this;simp[zoq l m]
  |false=>have:a≠b:=Nat.ne_of_beq_eq_false h;simp[this]
noncomputable def zul(k:Str):List Str->Bool
 |[]=>false
 |x::l=>match eqL x.cps.toList k.cps.toList with
  |true=>true
  |false=>zul k l
theorem zgm(k:Str):∀l,zul k l=true↔k∈l
 |[]=>by simp[zul]
 |x::l=>by
  rw[zul];cases h:eqL x.cps.toList k.cps.toList with
  |true=>
   have:=(zoq _ _).mp h;have:x=k:=by obtain⟨⟨a⟩⟩:=x;obtain⟨⟨b⟩⟩:=k;simp at this;subst this;rfl
   clear h;subst this;simp
  |false=>
   have:x≠k:=by rintro rfl;rw[(zoq _ _).mpr rfl]at h;exact zuG h
   simp[zgm k l,Ne.symm this]
noncomputable def zwT(l:List Str)(k:Str):List Str:=match zul k l with
 |true=>l
 |false=>l++[k]
theorem zr9(l:List Str)(k:Str):zwT l k=ins l k:=by
 unfold zwT ins;cases h:zul k l with
 |true=>rw[if_pos ((zgm k l).mp h)]
 |false=>rw[if_neg λq=>by rw[(zgm k l).mpr q]at h;exact zuG h]
noncomputable def zea:List Str->List Str->List Str
 |[],_=>[]
 |x::l,r=>match zul x r with
  |true=>zea l r
  |false=>x::zea l r
theorem zg3(r:List Str):∀l,zea l r=without l r
 |[]=>rfl
 |x::l=>by
  rw[zea,without];rw[List.filter_cons];cases h:zul x r with
  |true=>rw[if_neg (by simpa using (zgm x r).mp h)];exact zg3 r l
  |false=>
   have:x∉r:=λq=>by rw[(zgm x r).mpr q]at h;exact zuG h
   rw[if_pos (by exact decide_eq_true this),←without,zg3 r l]
noncomputable def zpo:List Str->Bool
 |[]=>true
 |x::l=>match zul x l with
  |true=>false
  |false=>zpo l
theorem zpV:∀{l},zpo l=true->l.Nodup
 |[],_=>.nil
 |x::l,h=>by
  rw[zpo]at h;cases q:zul x l with
  |true=>rw[q]at h;exact zaF h
  |false=>rw[q]at h;exact List.nodup_cons.mpr ⟨λz=>(by rw[(zgm x l).mpr z]at q;exact zuG q),zpV h⟩
noncomputable def zqm(l:List (Addr×Nat))(a:Addr):Option Nat:=match l with
 |[]=>none
 |p::r=>match Nat.beq p.1 a with
  |true=>some p.2
  |false=>zqm r a
noncomputable def gd{α:Type}(c:Bool)(o:Option α):Option α:=match c with
 |true=>o
 |false=>none
noncomputable def bd{α β:Type}(o:Option α)(f:α->Option β):Option β:=match o with
 |some a=>f a
 |none=>none
noncomputable def bd2{α β γ:Type}(o:Option (α×β))(f:α->β->Option γ):Option γ:=match o with
 |some (a,b)=>f a b
 |none=>none
theorem zch{α:Type}{c:Bool}{o:Option α}{x:α}(h:gd c o=some x):c=true∧o=some x:=by
 induction c with
 |true=>exact⟨rfl,h⟩
 |false=>exact zae h
theorem zb1{α β:Type}{o:Option α}{f:α->Option β}{y:β}(h:bd o f=some y):∃a,o=some a∧f a=some y:=by
 induction o with
 |some a=>exact⟨a,rfl,h⟩
 |none=>exact zae h
theorem zjI{α β γ:Type}{o:Option (α×β)}{f:α->β->Option γ}{y:γ}(h:bd2 o f=some y):∃a b,o=some (a,b)∧f a b=some y:=by
 induction o with
 |some a=>exact zny a.1 a.2 rfl h
 |none=>exact zae h
theorem zqY{α:Type}{c:Bool}{o:Option α}(h:c=true):gd c o=o:=by subst h;rfl
theorem zvB{α β:Type}{o:Option α}{f:α->Option β}{a:α}(h:o=some a):bd o f=f a:=by subst h;rfl
theorem zlg{α β γ:Type}{o:Option (α×β)}{f:α->β->Option γ}{a:α}{b:β}(h:o=some (a,b)):bd2 o f=f a b:=by subst h;rfl
noncomputable def zve(v:Value):Option Addr:=match v with
 |.ref a=>some a
 |_=>none
theorem zjR{v:Value}{a:Addr}(h:zve v=some a):v=.ref a:=by
 induction v<;>(first|exact zae h|obtain rfl:=yj h);rfl
noncomputable def zt8(v:Value):Option Str:=match v with
 |.str k _=>some k
 |_=>none
theorem zqg{v:Value}{k:Str}(h:zt8 v=some k):∃t,v=.str k t:=by
 induction v<;>(first|exact zae h|obtain rfl:=yj h);exact⟨_,rfl⟩
noncomputable def zyi(a:Args):Option (Value×Value):=match a with
 |⟨l,k⟩=>match l with
  |[]=>none
  |x::l=>match l with
   |[]=>none
   |y::l=>match l with
    |[]=>match k with
     |[]=>some (x,y)
     |_::_=>none
    |_::_=>none
theorem zmP{a:Args}{x y:Value}(h:zyi a=some (x,y)):a=⟨[x,y],[]⟩:=by
 rcases a with⟨_|⟨x',_|⟨y',_|⟨z,l⟩⟩⟩,_|⟨u,k⟩⟩<;>(first|exact zae h|cases h)
 rfl
noncomputable def none?{α:Type}(l:List α):Bool:=match l with
 |[]=>true
 |_::_=>false
theorem none?_inv{α:Type}{l:List α}(h:none? l=true):l=[]:=by
 induction l with
 |nil=>rfl
 |cons _ _=>exact zaF h
noncomputable def zwp(v:Value):Option String:=match v with
 |.type n=>some n
 |_=>none
theorem zrf{v:Value}{n:String}(h:zwp v=some n):v=.type n:=by
 induction v<;>(first|exact zae h|obtain rfl:=yj h);rfl
noncomputable def zAJ(d:Data):Option zdv:=match d with
 |.set es ep t=>some (es,ep,t)
 |_=>none
theorem zst{v:Data}{d:zdv}(h:zAJ v=some d):v=.set d.1 d.2.1 d.2.2:=by
 induction v<;>(first|exact zae h|obtain rfl:=yj h);rfl
noncomputable def zvW(d:zdv):Bool:=(none? d.1.toList&&none? d.2.2.place.toList)&&none? d.2.2.dummies.toList
noncomputable def zo8(o:Obj):Option zdv:=bd (zwp o.cls) λn=>bd (zAJ o.data) λd=>gd (n == "frozenset") (gd (zvW d) (gd (none? o.slots.toList&&o.dict.isNone) (some d)))
noncomputable def zi9(b:BS)(S:Addr):Option (List Str):=match zqm b.at_ S with
 |some k=>b.log[k]?
 |none=>gd (Nat.blt S b.n) (bd (b.tree.get S) λo=>bd (zo8 o) λ_=>some [])
noncomputable def zxl(S:Addr)(v:Value)(b:BS):Option (zdv->BS):=
 bd (zt8 v) λk=>bd (zi9 b S) λl=>gd (Nat.blt l.length 200)
  (some λd=>{b with tree:=b.tree.set S (λ_=>zar d),toks:=b.toks+1,log:=b.log++[zwT l k],at_:=(S,b.log.length)::b.at_})
noncomputable def ziM(c:Code):Option (Addr×Value):=match c with
 |.builtin id a=>bd2 (zyi a) λS it=>bd (zve S) λS=>gd (id == "set.update.loop") (some (S,it))
 |_=>none
noncomputable def maskOf(n:Nat):Option Nat:=match Nat.beq n 2 with
 |true=>some 7
 |false=>match Nat.beq n 32 with
  |true=>some 127
  |false=>match Nat.beq n 33 with
   |true=>some 127
   |false=>none
theorem zqn{n m:Nat}(h:maskOf n=some m):zeK n m∧0<n:=by
 unfold maskOf at h;cases h2:Nat.beq n 2 with
 |true=>rw[h2]at h;obtain rfl:=yj h;have:=Nat.eq_of_beq_eq_true h2;subst this;exact⟨zv8,by decide⟩
 |false=>
  rw[h2]at h;cases h3:Nat.beq n 32 with
  |true=>rw[h3]at h;obtain rfl:=yj h;have:=Nat.eq_of_beq_eq_true h3;subst this;exact⟨zro,by decide⟩
  |false=>
   rw[h3]at h;cases h4:Nat.beq n 33 with
   |true=>rw[h4]at h;obtain rfl:=yj h;have:=Nat.eq_of_beq_eq_true h4;subst this;exact⟨ztQ,by decide⟩
   |false=>rw[h4]at h;exact zae h
noncomputable def zdD(b:BS)(l:List Str):zdv->BS:=λd=>{b with tree:=b.tree.ins b.n (zar d),n:=b.n+1,log:=b.log++[l],at_:=(b.n,b.log.length)::b.at_}
noncomputable def one?(l:List Str):Option Str:=match l with
 |[]=>none
 |c::l=>match l with
  |[]=>some c
  |_::_=>none
theorem one?_inv{l:List Str}{c:Str}(h:one? l=some c):l=[c]:=by
 rcases l with _|⟨x,_|⟨y,l⟩⟩<;>(first|exact zae h|cases h)
 rfl
noncomputable def zwL(x y:Addr)(l:List Str)(m:Nat)(c:Str):Option (List Str):=
 gd (Nat.blt ((l.length+1)*5) (m*3)) (gd (!Nat.beq x y) (some (zwT l c)))
noncomputable def zs0(l r:List Str)(m:Nat):Option (List Str):=
 gd (Nat.ble r.length 2) (gd (Nat.blt 2 (l.length/4)) (gd (Nat.ble 2 (m/4)) (gd (zpo l) (some (zea l r)))))
noncomputable def zB9(id:String):Option Bool:=match id == "frozenset.__or__" with
 |true=>some true
 |false=>gd (id == "frozenset.__sub__") (some false)
theorem zuJ{id:String}{k:Bool}(h:zB9 id=some k):(k=true∧id="frozenset.__or__")∨(k=false∧id="frozenset.__sub__"):=by
 unfold zB9 at h;cases e:id == "frozenset.__or__" with
 |true=>rw[e]at h;obtain rfl:=yj h;exact .inl ⟨rfl,beq_iff_eq.mp e⟩
 |false=>
  rw[e]at h;refine zb0 (zch h) λe h=>?_;obtain rfl:=yj h;exact .inr ⟨rfl,beq_iff_eq.mp e⟩
noncomputable def zp8(b:BS)(k:Bool)(x y:Addr):Option (List Str):=
 bd (zqm b.at_ x) λi=>bd (zqm b.at_ y) λj=>bd b.log[i]? λl=>bd b.log[j]? λr=>bd (maskOf l.length) λm=>gd ((b.tree.ins b.n default).get b.n).isSome
  (match k with
  |true=>bd (one? r) (zwL x y l m)
  |false=>zs0 l r m)
noncomputable def zuj(c:Code)(b:BS):Option (List Str):=match c with
 |.builtin id a=>bd2 (zyi a) λx y=>bd (zve x) λx=>bd (zve y) λy=>bd (zB9 id) λk=>zp8 b k x y
 |_=>none
noncomputable abbrev SD:=zdv×Pos
inductive Nxt(α:Type) where
 |mk (t:Sem α) (p:Pos) (b:BS)
set_option genInjectivity false in
inductive Mv(α:Type) where
 |pure (a:α)
 |raise (e:Value)
 |call (c:Code) (h:Option Value) (k:Result->Sem α)
 |resume (g:Nat) (r:Resume) (k:GenResult->Sem α)
 |susp (v:Value) (g:Bool) (l:List Value) (k:Resume->Sem α)
 |go (o:Option (Nxt α))
noncomputable def mv(prog:Program)(w:World){α:Type}(Γ:Ctx)(t:Sem α)(p:Pos)(b:BS):Mv α:=match t with
 |.pure a=>.pure a
 |.raise e=>.raise e
 |.rule _ k=>.go (some ⟨k (),p,b⟩)
 |.at q k=>.go (some ⟨k (),q,b⟩)
 |.point _ k=>.go (some ⟨k (),p,b⟩)
 |.ask k=>.go (some ⟨k ⟨prog,w.params⟩,p,b⟩)
 |.load a _ k=>.go (gd (Nat.blt a b.n) (bd (b.tree.get a) λo=>bd (alive o) λo'=>some ⟨k o',p,b⟩))
 |.loadIfAlive a k=>.go (match Nat.blt a b.n with
  |true=>bd (b.tree.get a) λo=>some ⟨k (alive o),p,b⟩
  |false=>some ⟨k none,p,b⟩)
 |.update a _ f k=>.go (gd (Nat.blt a b.n) (match zqm b.at_ a with
  |some _=>none
  |none=>bd (b.tree.get a) λo=>bd (alive o) λ_=>some ⟨k (),p,{b with tree:=b.tree.set a f}⟩))
 |.alloc o k=>.go (gd ((b.tree.ins b.n o).get b.n).isSome (some ⟨k b.n,p,{b with tree:=b.tree.ins b.n o,n:=b.n+1}⟩))
 |.fresh k=>.go (some ⟨k b.toks,p,{b with toks:=b.toks+1}⟩)
 |.handled own k=>.go (some ⟨k (if own then Γ.own else Γ.handled),p,b⟩)
 |.stack k=>.go (some ⟨k ((Γ.code,p)::Γ.below),p,b⟩)
 |.newGen c k=>.go (some ⟨k b.gens.length,p,{b with gens:=b.gens++[.fresh c]}⟩)
 |.genState g k=>.go (bd b.gens[g]? λgs=>some ⟨k gs.seen,p,b⟩)
 |.call c h _ _ k=>.call c h k
 |.resume g r _ k=>.resume g r k
 |.yield v g l k=>.susp v g l k
 |_=>.go none
noncomputable def zpB(r:Resume):Bool:=match r with
 |.send v=>match v with
  |.none=>true
  |_=>false
 |.throw _=>false
theorem znw{r:Resume}(h:zpB r=true):r=.send .none:=by
 induction r with
 |send v=>induction v<;>(first|exact zaF h|cases h);rfl
 |throw _=>exact zaF h
structure Wk where
 Γ:Ctx
 t:Sem Fin
 p:Pos
noncomputable def wk(den:Code->Sem Fin)(Γ:Ctx)(p:Pos)(r:Resume)(o:Option GenState):Option Wk:=match o with
 |none=>none
 |some gs=>match gs with
  |.fresh c=>gd (zpB r) (some ⟨Γ.wake c p,den c,p⟩)
  |.suspended k0 _ c₀ p0 fs _=>gd (none? fs) (some ⟨Γ.wake c₀ p,k0 r,p0⟩)
  |_=>none
noncomputable def zku{α β:Type}(o:Option (Out α))(f:α->Pos->BS->Option β)(g:Value->BS->Option β):Option β:=match o with
 |none=>none
 |some o=>match o with
  |.ok a p b=>f a p b
  |.err e _ b=>g e b
theorem zsZ{α β:Type}{o:Option (Out α)}{f:α->Pos->BS->Option β}{g:Value->BS->Option β}{y:β}(h:zku o f g=some y) :
  (∃a p b,o=some (.ok a p b)∧f a p b=some y)∨∃e p b,o=some (.err e p b)∧g e b=some y:=by
 rcases o with _|⟨a,p,b⟩|⟨e,p,b⟩
 ·exact zae h
 ·exact .inl (zw4 a p b rfl h)
 ·exact .inr (zw4 e p b rfl h)
theorem zl3{α β:Type}{o:Option (Out α)}{f:α->Pos->BS->Option β}{g:Value->BS->Option β}{a:α}{p:Pos}{b:BS}(h:o=some (.ok a p b)):zku o f g=f a p b:=by subst h;rfl
theorem zjs{α β:Type}{o:Option (Out α)}{f:α->Pos->BS->Option β}{g:Value->BS->Option β}{e:Value}{p:Pos}{b:BS}(h:o=some (.err e p b)):zku o f g=g e b:=by subst h;rfl
structure Ev where
 big:(α:Type)->Ctx->Sem α->Pos->BS->Option (Out α)
 code:Ctx->Pos->BS->Option (Result×BS)
 gen:Ctx->Sem Fin->Pos->BS->Option (End×BS)
section
variable(den:Code->Sem Fin)(nxt:Value->Sem (Option Value))(prog:Program)(w:World)(x:Nat->SD)
noncomputable def ziu(E:Ev)(α:Type)(Γ:Ctx)(p:Pos)(b:BS)(m:Mv α):Option (Out α):=match m with
 |.pure a=>some (.ok a p b)
 |.raise e=>some (.err e p b)
 |.call c h k=>bd2 (E.code (Γ.enter c h p) p b) λr b'=>E.big α Γ (k r) p b'
 |.resume g r k=>bd (wk den Γ p r b.gens[g]?) λv=>bd2 (E.gen v.Γ v.t v.p {b with gens:=b.gens.set g .running}) λe b'=>gd e.quiet (E.big α Γ (k e.result) p {b' with gens:=b'.gens.set g e.genState})
 |.susp ..=>none
 |.go o=>match o with
  |some ⟨t',p',b'⟩=>E.big α Γ t' p' b'
  |none=>none
noncomputable def zgj(E:Ev)(Γ:Ctx)(S:Addr)(v:Option Value)(p:Pos)(b:BS):Option (Result×BS):=match v with
 |none=>some (.ok (.ret .none),b)
 |some v=>bd (zxl S v b) λf=>E.code Γ (x b.cnt).2 (f (x b.cnt).1)
noncomputable def zh5(E:Ev)(Γ:Ctx)(fin:Fin)(p:Pos)(b:BS):Option (Result×BS):=match fin with
 |.done f=>some (.ok f,b)
 |.again c=>gd c.quiet (E.code (Γ.goto c) p b)
noncomputable def zce(E:Ev)(Γ:Ctx)(p:Pos)(b:BS):Option (Result×BS):=match zuj Γ.code b with
 |some L=>some (.ok (.ret (.ref b.n)),zdD b L (x b.cnt).1)
 |none=>match ziM Γ.code with
  |some (S,it)=>zku (E.big (Option Value) Γ (nxt it) p b) (λv p b=>zgj x E Γ S v p b) λe b=>some (.error e,b)
  |none=>zku (E.big Fin Γ (den Γ.code) p b) (λf p b=>zh5 E Γ f p b) λe b=>some (.error e,b)
noncomputable def zzx(E:Ev)(Γ:Ctx)(p:Pos)(b:BS)(fin:Fin):Option (End×BS):=match fin with
 |.done f=>some (.ret (.ok f),b)
 |.again c=>gd c.quiet (E.gen (Γ.goto c) (den c) p b)
noncomputable def zh2(E:Ev)(Γ:Ctx)(p:Pos)(b:BS)(m:Mv Fin):Option (End×BS):=match m with
 |.pure fin=>zzx den E Γ p b fin
 |.raise e=>some (.ret (.error e),b)
 |.call c h k=>bd2 (E.code (Γ.enter c h p) p b) λr b'=>E.gen Γ (k r) p b'
 |.resume ..=>none
 |.susp v g l k=>some (.susp v g l k Γ.code p [],b)
 |.go o=>match o with
  |some ⟨t',p',b'⟩=>E.gen Γ t' p' b'
  |none=>none
noncomputable def ev0:Ev:=⟨λ_ _ _ _ _=>none,λ_ _ _=>none,λ_ _ _ _=>none⟩
noncomputable def evS(E:Ev):Ev:=⟨λα Γ t p b=>ziu den E α Γ p b (mv prog w Γ t p b),zce den nxt x E,λΓ t p b=>zh2 den E Γ p b (mv prog w Γ t p b)⟩
noncomputable def ev(n:Nat):Ev:=match n with
 |0=>ev0
 |n+1=>evS den nxt prog w x (ev n)
noncomputable def big(n:Nat):(α:Type)->Ctx->Sem α->Pos->BS->Option (Out α):=(ev den nxt prog w x n).big
end
noncomputable def Agree(x y:Nat->SD)(k:Nat):Prop:=∀i,i<k->x i=y i
theorem Agree.refl(x:Nat->SD)(k:Nat):Agree x x k:=λ_ _=>rfl
theorem Agree.trans{x y z:Nat->SD}{k l:Nat}(a:Agree x y k)(b:Agree y z l)(h:k≤l):Agree x z k:=λi hi=>(a i hi).trans (b i (yA hi h))
theorem Agree.le{x y:Nat->SD}{k l:Nat}(a:Agree x y l)(h:k≤l):Agree x y k:=λi hi=>a i (yA hi h)
noncomputable def upd(x:Nat->SD)(k:Nat)(d:SD):Nat->SD:=λi=>if i=k then d else x i
theorem zi3(x:Nat->SD)(k:Nat)(d:SD):upd x k d k=d:=if_pos rfl
theorem zfZ(x:Nat->SD)(k:Nat)(d:SD):Agree x (upd x k d) k:=λi hi=>(if_neg (Nat.ne_of_lt hi)).symm
theorem ztL(p:Addr×Nat)(r:List (Addr×Nat))(a:Addr):zqm (p::r) a=if p.1=a then some p.2 else zqm r a:=by
 show(match Nat.beq p.1 a with|true=>some p.2|false=>zqm r a)=_;by_cases h:p.1=a
 ·rw[if_pos h,h,Nat.beq_refl]
 ·rw[if_neg h]
  cases q:Nat.beq p.1 a with
  |true=>exact absurd (Nat.eq_of_beq_eq_true q) h
  |false=>rfl
theorem zlL(o o':Obj):∀(t:BT)(a i:Nat),((t.ins a o).get i).isSome=((t.ins a o').get i).isSome
 |.nil,a,i=>by
  show((BT.node o .nil .nil).get i).isSome=((BT.node o' .nil .nil).get i).isSome;rw[BT.get_node,BT.get_node]
  split<;>rfl
 |.node v l r,a,i=>by
  rw[BT.ins_node,BT.ins_node];by_cases h0:a=0
  ·rw[if_pos h0,if_pos h0,BT.get_node,BT.get_node]
   split<;>rfl
  ·rw[if_neg h0,if_neg h0]
   by_cases h1:a%2=1
   ·rw[if_pos h1,if_pos h1,BT.get_node,BT.get_node]
    split
    ·rfl
    ·split
     ·exact zlL o o' l _ _
     ·rfl
   ·rw[if_neg h1,if_neg h1,BT.get_node,BT.get_node]
    split
    ·rfl
    ·split
     ·rfl
     ·exact zlL o o' r _ _
structure zbr(prog:Program)(w:World)(x:Nat->SD)(b:BS):Prop where
 log:∀i l,b.log[i]?=some l->zat prog w (x i).1 l
 at_:∀S k,zqm b.at_ S=some k->k<b.log.length∧S<b.n∧b.tree.get S=some (zar (x k).1)
section
variable{prog:Program}{w:World}{x y:Nat->SD}{b:BS}
theorem zbr.toks(F:zbr prog w x b)(k:Nat):zbr prog w x {b with toks:=k}:=⟨F.log,F.at_⟩
theorem zbr.gens(F:zbr prog w x b)(g:List GenState):zbr prog w x {b with gens:=g}:=⟨F.log,F.at_⟩
theorem zbr.update(F:zbr prog w x b){a:Addr}(f:Obj->Obj)(h:zqm b.at_ a=none):zbr prog w x {b with tree:=b.tree.set a f}:=
 ⟨F.log,λS k hk=>let ⟨p,q,r⟩:=F.at_ S k hk;⟨p,q,by
  have:S≠a:=by rintro rfl;have:zqm b.at_ S=some k:=hk;exact zae (h.symm.trans this)
  show(b.tree.set a f).get S=_;rw[BT.get_set,if_neg this];exact r⟩⟩
theorem zbr.alloc(F:zbr prog w x b){o:Obj}(h:((b.tree.ins b.n o).get b.n).isSome=true):zbr prog w x {b with tree:=b.tree.ins b.n o,n:=b.n+1}:=
 ⟨F.log,λS k hk=>let ⟨p,q,r⟩:=F.at_ S k hk;⟨p,Nat.lt_succ_of_lt q,by
  show(b.tree.ins b.n o).get S=_;rw[BT.get_ins o _ _ h,if_neg (Nat.ne_of_lt q)];exact r⟩⟩
theorem BS.get{a:Addr}{o o':Obj}(h:Nat.blt a b.n=true)(g:b.tree.get a=some o)(e:alive o=some o'):b.abs.heap.get? a=some o':=by
 show(absHeap _ _ _).get? a=_;rw[abs_get (PySem.W.X.blt_true h) g,e]
theorem BS.getSet{a:Addr}{d:zdv}(h:a<b.n)(g:b.tree.get a=some (zar d)):b.abs.heap.get? a=some (zar d):=by
 show(absHeap _ _ _).get? a=_;rw[abs_get h g];rfl
theorem BS.upd{a:Addr}{f:Obj->Obj}{o:Obj}(g:b.tree.get a=some o):({b.abs with heap:=b.abs.heap.update a f}:Shared)=BS.abs {b with tree:=b.tree.set a f}:=by
 show Shared.mk _ _ _ _ _=Shared.mk _ _ _ _ _
 congr 1
 exact(absHeap_set g).symm
theorem BS.push{o:Obj}(g:((b.tree.ins b.n o).get b.n).isSome=true):({b.abs with heap:=b.abs.heap.push o}:Shared)=BS.abs {b with tree:=b.tree.ins b.n o,n:=b.n+1}:=by
 show Shared.mk _ _ _ _ _=Shared.mk _ _ _ _ _
 congr 1
 exact(absHeap_ins g).symm
theorem BS.size:b.abs.heap.objs.size=b.n:=absHeap_size ..
theorem BS.setGen{g:Nat}{s:GenState}:b.abs.setGen g s=BS.abs {b with gens:=b.gens.set g s}:=PySem.W.X.set_gens ..
theorem zoY{o:Obj}{d:zdv}(h:zo8 o=some d):o=zar d∧zat prog w d []:=by
 refine zaO (zb1 h) λn hc h=>?_;refine zaO (zb1 h) λd' hd h=>?_;refine zb0 (zch h) λh1 h=>?_;refine zb0 (zch h) λh2 h=>?_;refine zb0 (zch h) λh5 h=>?_;obtain rfl:=(yj h).symm;have hc:=zrf hc;have hd:=zst hd;clear h;obtain⟨h2,h4⟩:=yw.mp h2;clear h;obtain⟨h2,h3⟩:=yw.mp h2;clear h;obtain⟨h5,h6⟩:=yw.mp h5;have h1:n="frozenset":=beq_iff_eq.mp h1;clear h;obtain⟨es,ep,t⟩:=d;have e2:es=#[]:=Array.ext' (none?_inv h2);have e3:t.place=#[]:=Array.ext' (none?_inv h3);have e4:t.dummies=#[]:=Array.ext' (none?_inv h4);refine⟨?_,λe he=>?_,λk=>?_,ya _ e2,yb _,SetTable.fits_of ((ya Array.size e3).trans (ya Array.size e2).symm) e4 (yk (yJ (ya Array.size e2)) (yb _))⟩
 ·clear h
  obtain⟨c,dc,dt,sl⟩:=o;have e5:sl=#[]:=Array.ext' (none?_inv h5);have e6:dc=none:=Option.isNone_iff_eq_none.mp h6;have hc:c=.type n:=hc;have hd:dt=.set es ep t:=hd;rw[hc,h1,hd,e5,e6];rfl
 ·rw[e2]at he;exact zcx he
 ·rw[e2];simp
theorem zj5(F:zbr prog w x b){S:Addr}{l:List Str}(h:zi9 b S=some l):∃d,S<b.n∧b.tree.get S=some (zar d)∧zat prog w d l:=by
 unfold zi9 at h;cases e:zqm b.at_ S with
 |some k=>
  rw[e]at h;refine zn2 (F.at_ S k e) λa c d=>?_;exact zga ((x k).1) c d (F.log k l h)
 |none=>
  rw[e]at h;refine zb0 (zch h) λe1 h=>?_;left;refine zaO (zb1 h) λo e2 h=>?_;refine zaO (zb1 h) λd e3 h=>?_;obtain rfl:=yj h;refine zb0 (zoY (prog:=prog) (w:=w) e3) λhzz F=>?_;subst hzz;exact zga d (PySem.W.X.blt_true e1) e2 F
theorem zkI(F:zbr prog w x b){b':BS}{d:SD}{l:List Str}{S:Addr}(hlog:b'.log=b.log++[l])(hat:b'.at_=(S,b.log.length)::b.at_)(hd:zat prog w d.1 l)(hn:b.n≤b'.n)(hS:S<b'.n)
  (hg:b'.tree.get S=some (zar d.1))(hk:∀T,T≠S->T<b.n->b'.tree.get T=b.tree.get T):zbr prog w (upd x b.cnt d) b':=by
 refine⟨λi l' hi=>?_,λT k h=>?_⟩
 ·rw[hlog]at hi
  by_cases q:i=b.log.length
  ·subst q
   rw[List.getElem?_append_right (Nat.le_refl _),Nat.sub_self]at hi;obtain rfl:=yj hi;show zat prog w (upd x b.log.length d b.log.length).1 _;rw[zi3];exact hd
  ·have hlt:i<b.log.length:=by
    have:=(yp.mp hi).1;simp only[List.length_append,List.length_singleton]at this;lia
   rw[List.getElem?_append_left hlt]at hi;rw[←zfZ x b.cnt d i hlt];exact F.log i l' hi
 ·rw[hat,ztL]at h
  rw[hlog,List.length_append,List.length_singleton];by_cases q:S=T
  ·subst q
   rw[if_pos rfl]at h;obtain rfl:=yj h;refine⟨yS _,hS,?_⟩;show _=some (zar (upd x b.log.length d b.log.length).1);rw[zi3];exact hg
  ·rw[if_neg q]at h
   refine zn2 (F.at_ T k h) λa c e=>?_;exact⟨Nat.lt_succ_of_lt a,yA c hn,by rw[hk T (Ne.symm q) c,e,←zfZ x b.cnt d k a]⟩
noncomputable def zCv(Γ:Ctx):Around:={handled:=Γ.handled,depth:=frameCount Γ.below+Γ.code.weight,frames:=none,guards:=none,units:=Γ.units}
theorem zxf(Γ:Ctx):Γ.In (zCv Γ):=⟨rfl,yr _,λ_ h=>(zae h),λ_ h=>(zae h),yr _⟩
noncomputable def zCM(Γ:Ctx):Around:={handled:=Γ.handled,depth:=frameCount Γ.below,frames:=none,guards:=none,units:=unitsOf Γ.below}
theorem zle(Γ:Ctx):Γ.Below (zCM Γ):=⟨rfl,yr _,λ_ h=>(zae h),λ_ h=>(zae h),yr _⟩
theorem zsz{Γ:Ctx}{p:Pos}{S:Addr}{v:Value}{f:zdv->BS}(F:zbr prog w x b)(h:zxl S v b=some f) :
  Sem.wp (model prog w) Γ (holding [v] (setAdd S v)) (λ_ _ s'=>∃d,s'=(f d).abs∧∀q,zbr prog w (upd x b.cnt (d,q)) (f d)) (λ_ _ _=>False) p b.abs:=by
 left;refine zaO (zb1 (o:=zt8 v) h) λk hk g=>?_;clear h;refine zfc (zqg hk) λt hzz=>?_;clear hk;subst hzz;refine zaO (zb1 g) λl e g=>?_;refine zb0 (zch g) λe1 g=>?_;obtain rfl:=yj g;refine zcM (zj5 F e) λd h1 h2 F1=>?_;refine(yH (zxO (A:=zCv Γ) (E:=λ_ _=>False) (Q:=λ_ s'=>∃d,s'=BS.abs {b with tree:=b.tree.set S (λ_=>zar d),toks:=b.toks+1,log:=b.log++[zwT l k],at_:=(S,b.log.length)::b.at_} ∧
  ∀q,zbr prog w (upd x b.cnt (d,q)) {b with tree:=b.tree.set S (λ_=>zar d),toks:=b.toks+1,log:=b.log++[zwT l k],at_:=(S,b.log.length)::b.at_}) (BS.getSet h1 h2) F1 (PySem.W.X.blt_true e1) λ_ d' F'=>(zbB d' ?_ (λq=>?_)))) Γ p (zxf Γ)
 ·have:=BS.upd (f:=λ_=>zar d') h2
  show Shared.mk _ _ _ _ _=Shared.mk _ _ _ _ _;have e:=ya Shared.heap this;dsimp only at e;rw[e];rfl
 ·refine zkI F rfl rfl (by rw[zr9];exact F') (yr _) h1 ?_ λT hT _=>?_
  ·show(b.tree.set S _).get S=_
   rw[BT.get_set,if_pos rfl,h2];rfl
  ·show(b.tree.set S _).get T=_
   rw[BT.get_set,if_neg hT]
theorem zsj{S:Addr}{v:Value}{f:zdv->BS}(h:zxl S v b=some f)(d:zdv):(f d).cnt=b.cnt+1:=by
 refine zaO (zb1 h) λk _ h=>?_;refine zaO (zb1 h) λl _ h=>?_;refine zb0 (zch h) λ_ h=>?_;obtain rfl:=yj h;exact yP
theorem zgA(F:zbr prog w x b){l:List Str}{d:zdv}(hd:zat prog w d l)(h:((b.tree.ins b.n (default:Obj)).get b.n).isSome=true) :
  ({b.abs with heap:=b.abs.heap.push (zar d)}:Shared)=(zdD b l d).abs∧∀q,zbr prog w (upd x b.cnt (d,q)) (zdD b l d):=by
 have h':((b.tree.ins b.n (zar d)).get b.n).isSome=true:=by rw[zlL _ default];exact h
 refine⟨BS.push h',λq=>zkI F rfl rfl hd (yi _) (yS _) ?_ λT hT hlt=>?_⟩
 ·show(b.tree.ins b.n _).get b.n=_
  rw[BT.get_ins _ _ _ h',if_pos rfl]
 ·show(b.tree.ins b.n _).get T=_
  rw[BT.get_ins _ _ _ h',if_neg hT]
theorem zvD:entryFor table "frozenset.__or__"=some Builtin.«frozenset.__or__»:=entryFor_of_tree (by kernel_rfl)
theorem entry_sub:entryFor table "frozenset.__sub__"=some Builtin.«frozenset.__sub__»:=entryFor_of_tree (by kernel_rfl)
theorem zv4{c:Code}{q:List Str}(h:zuj c b=some q):∃x y k,c=.builtin (match k with|true=>"frozenset.__or__"|false=>"frozenset.__sub__") ⟨[.ref x,.ref y],[]⟩∧zp8 b k x y=some q:=by
 induction c with
 |builtin id a=>
  refine zfw (zjI h) λvx vy ha h=>?_;refine zaO (zb1 h) λx hx h=>?_;refine zaO (zb1 h) λy hy h=>?_;refine zaO (zb1 h) λk hk h=>?_;obtain rfl:=zmP ha;clear ha;obtain rfl:=zjR hx;obtain rfl:=zjR hy;rcases zuJ hk with⟨rfl,rfl⟩|⟨rfl,rfl⟩
  ·exact zw4 x y true rfl h
  ·exact zw4 x y false rfl h
 |_=>exact zae h
theorem zua{x y:Addr}{l:List Str}{m:Nat}{c:Str}{q:List Str}(h:zwL x y l m c=some q) :
  (l.length+1)*5<m*3∧x≠y∧q=zwT l c:=by
 refine zb0 (zch h) λh1 h=>?_;refine zb0 (zch h) λh2 h=>?_;obtain rfl:=yj h;exact⟨PySem.W.X.blt_true h1,λe=>(by rw[e,Nat.beq_refl]at h2;exact zaF h2),rfl⟩
theorem zqt{l r:List Str}{m:Nat}{q:List Str}(h:zs0 l r m=some q) :
  r.length≤2∧2<l.length/4∧2≤m/4∧l.Nodup∧q=zea l r:=by
 left;refine zb0 (zch h) λh1 h=>?_;refine zb0 (zch h) λh2 h=>?_;refine zb0 (zch h) λh3 h=>?_;refine zb0 (zch h) λh4 h=>?_;obtain rfl:=yj h;exact⟨yK h1,PySem.W.X.blt_true h2,yK h3,zpV h4,rfl⟩
theorem zqj(l:List Str)(d:zdv):(zdD b l d).cnt=b.cnt+1:=yP
theorem zrh{n m:Nat}(h:maskOf n=some m):m=7∨m=127:=by
 unfold maskOf at h;cases h2:Nat.beq n 2 with
 |true=>rw[h2]at h;obtain rfl:=yj h;exact .inl rfl
 |false=>
  rw[h2]at h;cases h3:Nat.beq n 32 with
  |true=>rw[h3]at h;obtain rfl:=yj h;exact .inr rfl
  |false=>
   rw[h3]at h;cases h4:Nat.beq n 33 with
   |true=>rw[h4]at h;obtain rfl:=yj h;exact .inr rfl
   |false=>rw[h4]at h;exact zae h
theorem zA1{A:Around}{a c:Addr}{da dc:zdv}{l:List Str}{ch:Str}{m:Nat}{R:Result->Shared->Prop}{s:Shared}(K:zeK l.length m)(hm:m=7∨m=127)(hpos:0<l.length)(h1:(l.length+1)*5<m*3)(hne:a≠c)
  (ga:s.heap.get? a=some (zar da))(Fa:zat prog w da l)(gc:s.heap.get? c=some (zar dc))(Fc:zat prog w dc [ch])
  (hR:∀d,zat prog w d (ins l ch)->R (.ok (.ret (.ref s.heap.objs.size))) {s with heap:=s.heap.push (zar d)}):codeAny (model prog w) A (.builtin "frozenset.__or__" ⟨[.ref a,.ref c],[]⟩) R s:=
 codeAny_builtin zvD (zyN K h1 hne (by have:=K.le;lia) ga Fa (λq=>by rw[q]at hpos;exact absurd hpos (by decide)) gc Fc λd' F'=>hR d' F')
theorem zqV{Γ:Ctx}{p:Pos}{L:List Str}(F:zbr prog w x b)(h:zuj Γ.code b=some L) :
  wpCode (model prog w) Γ (λr' s'=>r'=.ok (.ret (.ref b.n))∧∃d,s'=(zdD b L d).abs∧∀q,zbr prog w (upd x b.cnt (d,q)) (zdD b L d)) p b.abs:=by
 left;refine zBq (zv4 h) λa c k hc h=>?_;refine zaO (zb1 h) λi hi h=>?_;refine zaO (zb1 h) λj hj h=>?_;refine zaO (zb1 h) λl hl h=>?_;refine zaO (zb1 h) λrr hc' h=>?_;refine zaO (zb1 h) λm hm h=>?_;refine zb0 (zch h) λh3 h=>?_;refine zb0 (zqn hm) λK hpos=>?_;refine zn2 (F.at_ _ _ hi) λ_ a1 a2=>?_;refine zn2 (F.at_ _ _ hj) λ_ c1 c2=>?_;have Fa:=F.log _ _ hl;have Fc:=F.log _ _ hc';clear hc'
 induction k with
 |true=>
  refine zaO (zb1 h) λch h1 h=>?_;obtain rfl:=one?_inv h1;refine zn2 (zua h) λh1 hne h=>?_;subst h;exact zA1 K (zrh hm) hpos h1 hne (BS.getSet a1 a2) Fa (BS.getSet c1 c2) Fc (λd' F'=>(let ⟨e1,e2⟩:=zgA F (l:=zwT l ch) (d:=d') (by rw[zr9];exact F') h3;BS.size.symm▸(⟨rfl,d',e1,e2⟩))) Γ p hc (zle Γ)
 |false=>
  refine zCs (zqt h) λh1 h2 h4 h5 h=>?_;subst h;exact(codeAny_builtin (R:=λr' s'=>r'=.ok (.ret (.ref b.n))∧∃d,s'=(zdD b (zea l rr) d).abs∧∀q,zbr prog w (upd x b.cnt (d,q)) (zdD b (zea l rr) d)) entry_sub (zvh K h5 (BS.getSet a1 a2) Fa (λq=>by rw[q]at hpos;exact absurd hpos (by decide)) (BS.getSet c1 c2) Fc h1 h2 h4 λd' F'=>
   let ⟨e1,e2⟩:=zgA F (l:=zea l rr) (d:=d') (by rw[zg3];exact F') h3
   BS.size▸(⟨rfl,d',e1,e2⟩))) Γ p hc (zle Γ)
theorem zsg{c:Code}{S:Addr}{it:Value}(h:ziM c=some (S,it)):c=.builtin "set.update.loop" ⟨[.ref S,it],[]⟩:=by
 induction c with
 |builtin id a=>
  refine zfw (zjI h) λvx vy ha h=>?_;refine zaO (zb1 h) λx hx h=>?_;refine zb0 (zch h) λhid h=>?_;cases h;obtain rfl:=zmP ha;clear ha h;obtain rfl:=zjR hx;rw[beq_iff_eq.mp hid]
 |_=>exact zae h
theorem zox{id:String}{args:Args}{f:Builtin}(h:entryFor table id=some f):(model prog w).den (.builtin id args)=f args:=by
 unfold model denote;dsimp only;rw[h]
theorem zwb(S:Addr)(it:Value):(model prog w).den (.builtin "set.update.loop" ⟨[.ref S,it],[]⟩)=(do
  let some v ←pyNext it|ret .none
  let _ ←holding [v] (setAdd S v)
  again (.builtin "set.update.loop" ⟨[.ref S,it],[]⟩)):=by
 exact zox F.entry_set_update_loop
theorem zqG(S:Addr)(it:Value):(Code.builtin "set.update.loop" ⟨[.ref S,it],[]⟩).quiet=true:=plainId_quiet F.plain_set_update_loop _
end
noncomputable def zCF(prog:Program)(w:World){α:Type}(Γ:Ctx)(t:Sem α)(p:Pos)(b:BS):Mv α->Prop
 |.pure a=>t=.pure a
 |.raise e=>t=.raise e
 |.call c h k=>∃g l,t=.call c h g l k
 |.resume g r k=>∃l,t=.resume g r l k
 |.susp v g l k=>t=.yield v g l k
 |.go _=>True
noncomputable def zCz(prog:Program)(w:World){α:Type}(Γ:Ctx)(t:Sem α)(p:Pos)(b:BS)(t':Sem α)(p':Pos)(b':BS):Prop:=
 b'.cnt=b.cnt∧(∀x,zbr prog w x b->zbr prog w x b')∧∀Q E,Sem.wp (model prog w) Γ t' Q E p' b'.abs->Sem.wp (model prog w) Γ t Q E p b.abs
noncomputable def zBJ(prog:Program)(w:World)(Γ:Ctx)(t:Sem Fin)(p:Pos)(b:BS)(t':Sem Fin)(p':Pos)(b':BS):Prop:=
 ∀e s',Runs (model prog w) Γ p' t' [] b'.abs e s'->Runs (model prog w) Γ p t [] b.abs e s'
theorem zAr(prog:Program)(w:World){α:Type}(Γ:Ctx)(t:Sem α)(p:Pos)(b:BS):zCF prog w Γ t p b (mv prog w Γ t p b):=by
 induction t<;>first|exact trivial|exact rfl|exact⟨_,rfl⟩|exact zAv _ _ rfl
section
variable{prog:Program}{w:World}{α:Type}{Γ:Ctx}{p:Pos}{b:BS}
theorem znk{b:BS}(c:Code):({b.abs with gens:=b.abs.gens.push (.fresh c)}:Shared)=BS.abs {b with gens:=b.gens++[.fresh c]}:=by
 show Shared.mk _ ((⟨b.gens⟩:Array GenState).push _) _ _ _=Shared.mk _ _ _ _ _;rw[PySem.W.X.push_gens];rfl
inductive Gos(prog:Program)(w:World)(Γ:Ctx)(p:Pos)(b:BS):Sem α->Sem α->Pos->BS->Prop
 |rule (tag k):Gos prog w Γ p b (.rule tag k) (k ()) p b
 |at (q k):Gos prog w Γ p b (.at q k) (k ()) q b
 |point (l k):Gos prog w Γ p b (.point l k) (k ()) p b
 |ask (k):Gos prog w Γ p b (.ask k) (k ⟨prog,w.params⟩) p b
 |load {a q k o} (h:b.abs.heap.get? a=some o):Gos prog w Γ p b (.load a q k) (k o) p b
 |alive {a k o} (h:b.abs.heap.get? a=o):Gos prog w Γ p b (.loadIfAlive a k) (k o) p b
 |update {a q f k b'} (h:(b.abs.heap.get? a).isSome=true) (e:{b.abs with heap:=b.abs.heap.update a f}=BS.abs b') (hc:b'.cnt=b.cnt) (hF:∀x,zbr prog w x b->zbr prog w x b'):Gos prog w Γ p b (.update a q f k) (k ()) p b'
 |alloc {o k b'} (e:{b.abs with heap:=b.abs.heap.push o}=BS.abs b') (hs:b.abs.heap.objs.size=b.n) (hc:b'.cnt=b.cnt) (hF:∀x,zbr prog w x b->zbr prog w x b'):Gos prog w Γ p b (.alloc o k) (k b.n) p b'
 |fresh (k):Gos prog w Γ p b (.fresh k) (k b.toks) p {b with toks:=b.toks+1}
 |handled (own k):Gos prog w Γ p b (.handled own k) (k (if own then Γ.own else Γ.handled)) p b
 |stack (k):Gos prog w Γ p b (.stack k) (k ((Γ.code,p)::Γ.below)) p b
 |newGen (c k):Gos prog w Γ p b (.newGen c k) (k b.gens.length) p {b with gens:=b.gens++[.fresh c]}
 |genState {g k gs} (h:b.abs.gens[g]?=some gs):Gos prog w Γ p b (.genState g k) (k gs.seen) p b
theorem go_inj{o:Option (Nxt α)}{x:Nxt α}(h:Mv.go o=.go (some x)):o=some x:=by cases h;rfl
theorem zoF{t t':Sem α}{p p':Pos}{b b':BS}(h:some (Nxt.mk t p b)=some (Nxt.mk t' p' b')):t'=t∧p'=p∧b'=b:=by cases h;exact⟨rfl,rfl,rfl⟩
theorem Gos.cast{t t₀ t':Sem α}{p0 p':Pos}{b0 b':BS}(h:some (Nxt.mk t₀ p0 b0)=some (Nxt.mk t' p' b'))(g:Gos prog w Γ p b t t₀ p0 b0):Gos prog w Γ p b t t' p' b':=by
 obtain⟨rfl,rfl,rfl⟩:=zoF h;exact g
theorem zol{t t':Sem α}{p':Pos}{b':BS}(h:mv prog w Γ t p b=.go (some ⟨t',p',b'⟩)):Gos prog w Γ p b t t' p' b':=by
 induction t with
 |rule tag k=>exact .cast (go_inj h) (.rule ..)
 |«at» q k=>exact .cast (go_inj h) (.at ..)
 |point l k=>exact .cast (go_inj h) (.point ..)
 |ask k=>exact .cast (go_inj h) (.ask ..)
 |fresh k=>exact .cast (go_inj h) (.fresh ..)
 |handled own k=>exact .cast (go_inj h) (.handled ..)
 |stack k=>exact .cast (go_inj h) (.stack ..)
 |newGen c k=>exact .cast (go_inj h) (.newGen ..)
 |genState g k=>
  refine zaO (zb1 (go_inj h)) λgs e h=>?_;exact .cast h (.genState ((PySem.W.X.get_gens _ g).trans e))
 |load a q k=>
  refine zb0 (zch (go_inj h)) λe1 h=>?_;refine zaO (zb1 h) λo e2 h=>?_;refine zaO (zb1 h) λo' e3 h=>?_;exact .cast h (.load (BS.get e1 e2 e3))
 |loadIfAlive a k=>
  have h:=go_inj h;cases e1:Nat.blt a b.n with
  |false=>
   rw[e1]at h;exact .cast h (.alive (abs_get_none (yg.mpr (PySem.W.X.blt_false e1))))
  |true=>
   rw[e1]at h;refine zaO (zb1 h) λo e2 h=>?_;exact .cast h (.alive (abs_get (PySem.W.X.blt_true e1) e2))
 |update a q f k=>
  refine zb0 (zch (go_inj h)) λe1 h=>?_;cases e0:zqm b.at_ a with
  |some _=>rw[e0]at h;exact zae h
  |none=>
   rw[e0]at h;refine zaO (zb1 h) λo e2 h=>?_;refine zaO (zb1 h) λo' e3 h=>?_;exact .cast h (.update (by rw[BS.get e1 e2 e3];rfl) (BS.upd e2) rfl λx hF=>hF.update f e0)
 |alloc o k=>
  refine zb0 (zch (go_inj h)) λe1 h=>?_;exact .cast h (.alloc (BS.push e1) BS.size rfl λx hF=>hF.alloc e1)
 |_=>cases h
theorem Gos.ok{t t':Sem α}{p':Pos}{b':BS}(h:Gos prog w Γ p b t t' p' b'):zCz prog w Γ t p b t' p' b':=by
 induction h with
 |rule tag k=>exact⟨rfl,λ_ h=>h,λQ E h=>(Sem.wp_rule ..).mpr h⟩
 |«at» q k=>exact⟨rfl,λ_ h=>h,λQ E h=>(Sem.wp_at ..).mpr h⟩
 |point l k=>exact⟨rfl,λ_ h=>h,λQ E h=>(Sem.wp_point ..).mpr h⟩
 |ask k=>exact⟨rfl,λ_ h=>h,λQ E h=>(Sem.wp_ask ..).mpr h⟩
 |load e=>exact⟨rfl,λ_ h=>h,λQ E h=>(Sem.wp_load ..).mpr (zbB _ e h)⟩
 |alive e=>exact⟨rfl,λ_ h=>h,λQ E h=>(Sem.wp_loadIfAlive ..).mpr (e▸h)⟩
 |update h e hc hF=>exact⟨hc,hF,λQ E q=>(Sem.wp_update ..).mpr ⟨h,e▸q⟩⟩
 |alloc e hs hc hF=>exact⟨hc,hF,λQ E q=>(Sem.wp_alloc ..).mpr (by rw[hs,e];exact q)⟩
 |fresh k=>exact⟨rfl,λ_ h=>h.toks _,λQ E h=>(Sem.wp_fresh ..).mpr h⟩
 |handled own k=>exact⟨rfl,λ_ h=>h,λQ E h=>(Sem.wp_handled ..).mpr h⟩
 |stack k=>exact⟨rfl,λ_ h=>h,λQ E h=>(Sem.wp_stack ..).mpr h⟩
 |newGen c k=>exact⟨rfl,λ_ h=>h.gens _,λQ E h=>(Sem.wp_newGen ..).mpr (by rw[znk];exact h)⟩
 |genState e=>exact⟨rfl,λ_ h=>h,λQ E h=>(Sem.wp_genState ..).mpr (zbB _ e h)⟩
theorem Gos.run{t t':Sem Fin}{p':Pos}{b':BS}(h:Gos prog w Γ p b t t' p' b'):zBJ prog w Γ t p b t' p' b':=by
 intro e s' q
 induction h with
 |rule tag k=>exact .rule q
 |«at» q' k=>exact .at q
 |point l k=>exact .point q
 |ask k=>exact .ask q
 |load e=>exact .load e q
 |alive e=>exact .loadIfAlive (e▸q)
 |update h e hc hF=>exact .update h (e▸q)
 |alloc e hs hc hF=>exact .alloc (by rw[hs,e];exact q)
 |fresh k=>exact .fresh q
 |handled own k=>exact .handled q
 |stack k=>exact .stack q
 |newGen c k=>exact .newGen (by rw[znk];exact q)
 |genState e=>exact .genState e q
theorem zuN{g:Nat}{r:Resume}{v:Wk}(h:wk (denote table) Γ p r b.gens[g]?=some v){e:End}{s₁:Shared}
  (hr:Runs (model prog w) v.Γ v.p v.t [] (b.abs.setGen g .running) e s₁)(hq:e.quiet=true):Wakes (model prog w) Γ p g r b.abs e.result (s₁.setGen g e.genState):=by
 cases hg:b.gens[g]? with
 |none=>rw[hg]at h;exact zae h
 |some gs=>
  rw[hg]at h;have hg':b.abs.gens[g]?=some gs:=(PySem.W.X.get_gens b.gens g).trans hg;unfold Wakes;rw[hg'];clear hg' hg
  induction gs with
  |fresh c=>
   left;refine zb0 (zch h) λh1 h=>?_;obtain rfl:=znw h1;obtain rfl:=yj h;exact zkD e s₁ hr hq rfl rfl
  |suspended k0 l0 c₀ p0 fs cl=>
   left;refine zb0 (zch h) λh1 h=>?_;obtain rfl:=none?_inv h1;obtain rfl:=yj h;exact zkD e s₁ hr hq rfl rfl
  |_=>exact zae h
end
structure zxn(E:(Nat->SD)->Ev):Prop where
 big:∀x α Γ t p b o,(E x).big α Γ t p b=some o->b.cnt≤o.b.cnt∧∀y,Agree x y o.b.cnt->(E y).big α Γ t p b=some o
 code:∀x Γ p b r b',(E x).code Γ p b=some (r,b')->b.cnt≤b'.cnt∧∀y,Agree x y b'.cnt->(E y).code Γ p b=some (r,b')
 gen:∀x Γ t p b e b',(E x).gen Γ t p b=some (e,b')->b.cnt≤b'.cnt∧∀y,Agree x y b'.cnt->(E y).gen Γ t p b=some (e,b')
section
variable{prog:Program}{w:World}{den:Code->Sem Fin}{nxt:Value->Sem (Option Value)}{E:(Nat->SD)->Ev}
theorem zw1{α:Type}{Γ:Ctx}{t t':Sem α}{p p':Pos}{b b':BS}(h:mv prog w Γ t p b=.go (some ⟨t',p',b'⟩)):b'.cnt=b.cnt:=(zol h).ok.1
theorem zz6(H:zxn E){x:Nat->SD}{α:Type}{Γ:Ctx}{p:Pos}{b:BS}{m:Mv α}(hm:∀t' p' b',m=.go (some ⟨t',p',b'⟩)->b'.cnt=b.cnt){o:Out α}(h:ziu den (E x) α Γ p b m=some o) :
  b.cnt≤o.b.cnt∧∀y,Agree x y o.b.cnt->ziu den (E y) α Γ p b m=some o:=by
 induction m with
 |pure a=>obtain rfl:=yj h;exact⟨yr _,λ_ _=>rfl⟩
 |raise a=>obtain rfl:=yj h;exact⟨yr _,λ_ _=>rfl⟩
 |call c hd k=>
  refine zfw (zjI h) λr b1 e1 h=>?_;have q1:=H.code _ _ _ _ _ _ e1;have q2:=H.big _ _ _ _ _ _ _ h;refine⟨yk q1.1 q2.1,λy hy=>?_⟩;exact(zlg (q1.2 y (hy.le q2.1))).trans (q2.2 y hy)
 |resume g r k=>
  refine zaO (zb1 h) λv e0 h=>?_;refine zfw (zjI h) λe b1 e1 h=>?_;left;refine zb0 (zch h) λe2 h=>?_;have q1:=H.gen _ _ _ _ _ _ _ e1;have q2:=H.big _ _ _ _ _ _ _ h;exact⟨yk q1.1 q2.1,λy hy=>(zvB e0).trans ((zlg (q1.2 y (hy.le q2.1))).trans ((zqY e2).trans (q2.2 y hy)))⟩
 |susp v g l k=>exact zae h
 |go o=>
  induction o with
  |none=>exact zae h
  |some s=>
   obtain⟨t',p',b'⟩:=s;have q:=H.big _ _ _ _ _ _ _ h;exact⟨hm _ _ _ rfl▸q.1,q.2⟩
theorem zyS(H:zxn E){x:Nat->SD}{Γ:Ctx}{p:Pos}{b:BS}{S:Addr}{v:Option Value}{r:Result}{b':BS}(h:zgj x (E x) Γ S v p b=some (r,b')) :
  b.cnt≤b'.cnt∧∀y,Agree x y b'.cnt->zgj y (E y) Γ S v p b=some (r,b'):=by
 induction v with
 |none=>cases h;exact⟨yr _,λ_ _=>rfl⟩
 |some v=>
  refine zaO (zb1 h) λf hf h=>?_;have q:=H.code _ _ _ _ _ _ h;have hn:=zsj hf (x b.cnt).1;have hlt:b.cnt<b'.cnt:=yA (yA (yS _) (yJ hn.symm)) q.1;refine⟨yc hlt,λy hy=>(zvB hf).trans ?_⟩;rw[←hy b.cnt hlt];exact q.2 y hy
theorem zAA(H:zxn E){x:Nat->SD}{Γ:Ctx}{p:Pos}{b:BS}{f:Fin}{r:Result}{b':BS}(h:zh5 (E x) Γ f p b=some (r,b')) :
  b.cnt≤b'.cnt∧∀y,Agree x y b'.cnt->zh5 (E y) Γ f p b=some (r,b'):=by
 induction f with
 |done f=>cases h;exact⟨yr _,λ_ _=>rfl⟩
 |again c=>
  obtain⟨hq,h⟩:=zch h;have q:=H.code _ _ _ _ _ _ h;exact⟨q.1,λy hy=>(zqY hq).trans (q.2 y hy)⟩
theorem zAM(H:zxn E){x:Nat->SD}{α:Type}{Γ:Ctx}{t:Sem α}{p:Pos}{b:BS}{r:Result}{b':BS}{f:(Nat->SD)->α->Pos->BS->Option (Result×BS)}
  (hf:∀a p b,f x a p b=some (r,b')->b.cnt≤b'.cnt∧∀y,Agree x y b'.cnt->f y a p b=some (r,b'))
  (h:zku ((E x).big α Γ t p b) (f x) (λe b=>some (.error e,b))=some (r,b')) :
  b.cnt≤b'.cnt∧∀y,Agree x y b'.cnt->zku ((E y).big α Γ t p b) (f y) (λe b=>some (.error e,b))=some (r,b'):=by
 left;rcases zsZ h with⟨a,p1,b1,e,h⟩|⟨e1,p1,b1,e,h⟩
 ·have q1:=H.big _ _ _ _ _ _ _ e
  have q2:=hf _ _ _ h;exact⟨yk q1.1 q2.1,λy hy=>(zl3 (q1.2 y (hy.le q2.1))).trans (q2.2 y hy)⟩
 ·clear hf
  cases h;have q1:=H.big _ _ _ _ _ _ _ e;exact⟨q1.1,λy hy=>zjs (q1.2 y hy)⟩
theorem zjp{x:Nat->SD}{F:Ev}{Γ:Ctx}{p:Pos}{b:BS}{L:List Str}(e:zuj Γ.code b=some L):zce den nxt x F Γ p b=some (.ok (.ret (.ref b.n)),zdD b L (x b.cnt).1):=by
 unfold zce;rw[e]
theorem zjH{x:Nat->SD}{F:Ev}{Γ:Ctx}{p:Pos}{b:BS}{S:Addr}{it:Value}(e1:zuj Γ.code b=none)(e2:ziM Γ.code=some (S,it)) :
  zce den nxt x F Γ p b=zku (F.big (Option Value) Γ (nxt it) p b) (zgj x F Γ S) λe b=>some (.error e,b):=by
 unfold zce;rw[e1];dsimp only;rw[e2]
theorem zmf{x:Nat->SD}{F:Ev}{Γ:Ctx}{p:Pos}{b:BS}(e1:zuj Γ.code b=none)(e2:ziM Γ.code=none) :
  zce den nxt x F Γ p b=zku (F.big Fin Γ (den Γ.code) p b) (zh5 F Γ) λe b=>some (.error e,b):=by
 unfold zce;rw[e1];dsimp only;rw[e2]
theorem zyA(H:zxn E){x:Nat->SD}{Γ:Ctx}{p:Pos}{b:BS}{r:Result}{b':BS}(h:zce den nxt x (E x) Γ p b=some (r,b')) :
  b.cnt≤b'.cnt∧∀y,Agree x y b'.cnt->zce den nxt y (E y) Γ p b=some (r,b'):=by
 cases e1:zuj Γ.code b with
 |some L=>
  rw[zjp e1]at h;cases h;have hn:=zqj (b:=b) L (x b.cnt).1;refine⟨hn▸yi _,λy hy=>?_⟩;rw[zjp e1,←hy b.cnt (hn▸Nat.lt_succ_self _)]
 |none=>
  cases e2:ziM Γ.code with
  |some Si=>
   obtain⟨S,it⟩:=Si;rw[zjH e1 e2]at h;have q:=zAM H (f:=λy=>zgj y (E y) Γ S) (λa p b h=>zyS H h) h;exact⟨q.1,λy hy=>(zjH e1 e2).trans (q.2 y hy)⟩
  |none=>
   rw[zmf e1 e2]at h;have q:=zAM H (f:=λy=>zh5 (E y) Γ) (λa p b h=>zAA H h) h;exact⟨q.1,λy hy=>(zmf e1 e2).trans (q.2 y hy)⟩
theorem zzy(H:zxn E){x:Nat->SD}{Γ:Ctx}{p:Pos}{b:BS}{m:Mv Fin}(hm:∀t' p' b',m=.go (some ⟨t',p',b'⟩)->b'.cnt=b.cnt){e:End}{b':BS}(h:zh2 den (E x) Γ p b m=some (e,b')) :
  b.cnt≤b'.cnt∧∀y,Agree x y b'.cnt->zh2 den (E y) Γ p b m=some (e,b'):=by
 induction m with
 |pure a=>
  clear hm
  induction a with
  |done f=>cases h;exact⟨yr _,λ_ _=>rfl⟩
  |again c=>
   obtain⟨hq,h⟩:=zch h;have q:=H.gen _ _ _ _ _ _ _ h;exact⟨q.1,λy hy=>(zqY hq).trans (q.2 y hy)⟩
 |raise a=>cases h;exact⟨yr _,λ_ _=>rfl⟩
 |call c hd k=>
  refine zfw (zjI h) λr b1 e1 h=>?_;have q1:=H.code _ _ _ _ _ _ e1;have q2:=H.gen _ _ _ _ _ _ _ h;refine⟨yk q1.1 q2.1,λy hy=>?_⟩;exact(zlg (q1.2 y (hy.le q2.1))).trans (q2.2 y hy)
 |resume g r k=>exact zae h
 |susp v g l k=>cases h;exact⟨yr _,λ_ _=>rfl⟩
 |go o=>
  induction o with
  |none=>exact zae h
  |some s=>
   obtain⟨t',p',b'⟩:=s;have q:=H.gen _ _ _ _ _ _ _ h;exact⟨hm _ _ _ rfl▸q.1,q.2⟩
theorem zvQ(n:Nat):zxn (λx=>ev den nxt prog w x n):=by
 induction n with
 |zero=>exact⟨λx α Γ t p b o h=>(by exact zae h),λx Γ p b r b' h=>(by exact zae h),λx Γ t p b e b' h=>(by exact zae h)⟩
 |succ n ih=>exact⟨λx α Γ t p b o h=>zz6 ih (λ_ _ _ e=>zw1 e) h,λx Γ p b r b' h=>zyA ih h,λx Γ t p b e b' h=>zzy ih (λ_ _ _ e=>zw1 e) h⟩
end
section
variable{prog:Program}{w:World}
noncomputable abbrev EvP(prog:Program)(w:World)(y:Nat->SD)(n:Nat):Ev:=ev (denote table) pyNext prog w y n
theorem zcF{α:Type}{a b:Option α}(e:a=b)(h:a.isSome=true):b.isSome=true:=e▸h
noncomputable def zvP(prog:Program)(w:World)(F:(Nat->SD)->Option (Out α))(x:Nat->SD)(b:BS)(Γ:Ctx)(t:Sem α)(p:Pos):Prop:=
 (∀y,Agree x y b.cnt->(F y).isSome=true)->Sem.wp (model prog w) Γ t (λa p' s'=>∃y b',Agree x y b.cnt∧F y=some (.ok a p' b')∧s'=b'.abs∧zbr prog w y b')
  (λe p' s'=>∃y b',Agree x y b.cnt∧F y=some (.err e p' b')∧s'=b'.abs∧zbr prog w y b') p b.abs
noncomputable def zk3(prog:Program)(w:World)(F:(Nat->SD)->Option (Result×BS))(x:Nat->SD)(b:BS)(Γ:Ctx)(p:Pos):Prop:=
 (∀y,Agree x y b.cnt->(F y).isSome=true)->wpCode (model prog w) Γ (λr s'=>∃y b',Agree x y b.cnt∧F y=some (r,b')∧s'=b'.abs∧zbr prog w y b') p b.abs
noncomputable def zAi(prog:Program)(w:World)(F:(Nat->SD)->Option (End×BS))(x:Nat->SD)(b:BS)(Γ:Ctx)(t:Sem Fin)(p:Pos):Prop:=
 (∀y,Agree x y b.cnt->(F y).isSome=true)->∃y b' e,Agree x y b.cnt∧F y=some (e,b')∧Runs (model prog w) Γ p t [] b.abs e b'.abs∧zbr prog w y b'
structure zqU(prog:Program)(w:World)(n:Nat):Prop where
 big:∀x (α:Type) Γ (t:Sem α) p b,zbr prog w x b->zvP prog w (λy=>(EvP prog w y n).big α Γ t p b) x b Γ t p
 code:∀x Γ p b,zbr prog w x b->zk3 prog w (λy=>(EvP prog w y n).code Γ p b) x b Γ p
 gen:∀x Γ t p b,zbr prog w x b->zAi prog w (λy=>(EvP prog w y n).gen Γ t p b) x b Γ t p
theorem zsU{x y:Nat->SD}{k:Nat}{d:SD}(h:Agree (upd x k d) y (k+1)):Agree x y k∧y k=d:=
 ⟨(zfZ x k d).trans (h.le (yi k)) (yr _),(h k (yS k)).symm.trans (zi3 ..)⟩
theorem zvP.after{α:Type}{F F':(Nat->SD)->Option (Out α)}{x y:Nat->SD}{b b':BS}{Γ:Ctx}{t:Sem α}{p:Pos}{Q:α->Pos->Shared->Prop}{E:Value->Pos->Shared->Prop}
  (h:zvP prog w F' y b' Γ t p)(hF:∀z,Agree x z b.cnt->(F z).isSome=true)(hxy:Agree x y b.cnt)(hle:b.cnt≤b'.cnt)(key:∀z,Agree y z b'.cnt->F z=F' z)
  (hQ:∀a p' s',(∃z b'',Agree x z b.cnt∧F z=some (.ok a p' b'')∧s'=b''.abs∧zbr prog w z b'')->Q a p' s')
  (hE:∀a p' s',(∃z b'',Agree x z b.cnt∧F z=some (.err a p' b'')∧s'=b''.abs∧zbr prog w z b'')->E a p' s'):Sem.wp (model prog w) Γ t Q E p b'.abs:=
 Sem.wp_mono _ _ _ (λa p' s' ⟨z,b'',h1,h2,h3⟩=>hQ a p' s' (zlH z b'' (hxy.trans h1 hle) ((key z h1).trans h2) h3))
  (λa p' s' ⟨z,b'',h1,h2,h3⟩=>hE a p' s' (zlH z b'' (hxy.trans h1 hle) ((key z h1).trans h2) h3)) _ _ (h λz hz=>zcF (key z hz) (hF z (hxy.trans hz hle)))
theorem zk3.after{F F':(Nat->SD)->Option (Result×BS)}{x y:Nat->SD}{b b':BS}{Γ:Ctx}{p:Pos}{R:Result->Shared->Prop}
  (h:zk3 prog w F' y b' Γ p)(hF:∀z,Agree x z b.cnt->(F z).isSome=true)(hxy:Agree x y b.cnt)(hle:b.cnt≤b'.cnt)(key:∀z,Agree y z b'.cnt->F z=F' z)
  (hR:∀r s',(∃z b'',Agree x z b.cnt∧F z=some (r,b'')∧s'=b''.abs∧zbr prog w z b'')->R r s'):wpCode (model prog w) Γ R p b'.abs:=
 wpCode_mono (λr s' ⟨z,b'',h1,h2,h3⟩=>hR r s' (zlH z b'' (hxy.trans h1 hle) ((key z h1).trans h2) h3)) (h λz hz=>zcF (key z hz) (hF z (hxy.trans hz hle)))
theorem zlT{α β γ:Type}{o:Option (α×β)}{f:α->β->Option γ}(h:(bd2 o f).isSome=true):o.isSome=true:=by
 induction o with
 |none=>exact zaF h
 |some _=>rfl
theorem zkL{α β:Type}{o:Option (Out α)}{f:α->Pos->BS->Option β}{g:Value->BS->Option β}(h:(zku o f g).isSome=true):o.isSome=true:=by
 induction o with
 |none=>exact zaF h
 |some _=>rfl
theorem zoC{α:Type}{c:Bool}{o:Option α}(h:(gd c o).isSome=true):c=true:=by cases c with
 |true=>rfl
 |false=>exact zaF h
theorem zsH{α β:Type}{o:Option α}{f:α->Option β}(h:(bd o f).isSome=true):∃a,o=some a:=by
 induction o with
 |none=>exact zaF h
 |some a=>exact⟨a,rfl⟩
theorem zuf{n:Nat}(ih:zqU prog w n)(x:Nat->SD)(α:Type)(Γ:Ctx)(t:Sem α)(p:Pos)(b:BS)(hF:zbr prog w x b) :
  zvP prog w (λy=>ziu (denote table) (EvP prog w y n) α Γ p b (mv prog w Γ t p b)) x b Γ t p:=by
 intro h;have H:=zvQ (den:=denote table) (nxt:=pyNext) (prog:=prog) (w:=w) n;have hm:=zAr prog w Γ t p b;have hgo:=λt' p' b'=>zol (prog:=prog) (w:=w) (Γ:=Γ) (p:=p) (b:=b) (t:=t) (t':=t') (p':=p') (b':=b');revert h hm hgo;generalize mv prog w Γ t p b=m;intro h hm hgo
 induction m with
 |pure a=>obtain rfl:=hm;exact(Sem.wp_pure ..).mpr (zkD x b (.refl _ _) rfl rfl hF)
 |raise e=>obtain rfl:=hm;exact(Sem.wp_raise ..).mpr (zkD x b (.refl _ _) rfl rfl hF)
 |call c hd k=>
  clear hgo;refine zBj hm λg l hzz=>?_;subst hzz;refine(Sem.wp_call ..).mpr (wpCode_mono ?_ (ih.code x (Γ.enter c hd p) p b hF λy hy=>zlT (h y hy)));rintro r s'' ⟨y,b1,a1,a2,rfl,a4⟩;have q:=H.code _ _ _ _ _ _ a2;exact(ih.big y α Γ (k r) p b1 a4).after h a1 q.1 (λz hz=>zlg (q.2 z hz)) (λ_ _ _ h=>h) λ_ _ _ h=>h
 |resume g r k=>
  clear hgo;obtain⟨l,rfl⟩:=hm;obtain⟨v,e0⟩:=zsH (h x (.refl _ _));have key0:∀z,ziu (denote table) (EvP prog w z n) α Γ p b (.resume g r k)=bd2 _ _:=λz=>zvB e0;refine zuk (ih.gen x v.Γ v.t v.p {b with gens:=b.gens.set g .running} (hF.gens _) λy hy=>zlT (zcF (key0 y) (h y hy))) λy b1 e a1 a2 a3 a4=>?_;have q:=H.gen _ _ _ _ _ _ _ a2;have key:∀z,Agree y z b1.cnt->ziu (denote table) (EvP prog w z n) α Γ p b (.resume g r k)=gd e.quiet ((EvP prog w z n).big α Γ (k e.result) p {b1 with gens:=b1.gens.set g e.genState}):=λz hz=>(key0 z).trans (zlg (q.2 z hz));have hqe:e.quiet=true:=zoC (zcF (key y (.refl _ _)) (h y a1));rw[←BS.setGen]at a3;refine(Sem.wp_resume ..).mpr (zny e.result (b1.abs.setGen g e.genState) (zuN e0 a3 hqe) ?_);rw[BS.setGen];exact(ih.big y α Γ (k e.result) p {b1 with gens:=b1.gens.set g e.genState} (a4.gens _)).after h a1 q.1 (λz hz=>(key z hz).trans (zqY hqe)) (λ_ _ _ h=>h) λ_ _ _ h=>h
 |susp v g l k=>cases h x (.refl _ _)
 |go o=>
  clear hm
  induction o with
  |none=>cases h x (.refl _ _)
  |some s=>
   obtain⟨t',p',b'⟩:=s;refine zn2 ((hgo t' p' b' rfl).ok) λh1 h2 h3=>?_;exact h3 _ _ ((ih.big x α Γ t' p' b' (h2 x hF)).after h (.refl _ _) (yJ h1.symm) (λ_ _=>rfl) (λ_ _ _ h=>h) λ_ _ _ h=>h)
theorem zrg{n:Nat}(ih:zqU prog w n)(x:Nat->SD)(Γ:Ctx)(p:Pos)(b:BS)(hF:zbr prog w x b){S:Addr}{it:Value}(e1:zuj Γ.code b=none)(e2:ziM Γ.code=some (S,it)) :
  zk3 prog w (λy=>zce (denote table) pyNext y (EvP prog w y n) Γ p b) x b Γ p:=by
 intro h;have H:=zvQ (den:=denote table) (nxt:=pyNext) (prog:=prog) (w:=w) n;have hc:=zsg e2;have key:=λy=>zjH (den:=denote table) (nxt:=pyNext) (x:=y) (F:=EvP prog w y n) (p:=p) e1 e2;rw[wpCode_iff_wp,hc,zwb];rw[Sem.wp_bind'];refine Sem.wp_mono _ _ _ ?_ ?_ _ _ (ih.big x (Option Value) Γ (pyNext it) p b hF λy hy=>zkL (zcF (key y) (h y hy)))
 ·rintro o p' s' ⟨y,b1,a1,a2,rfl,a4⟩
  have q:=H.big _ _ _ _ _ _ _ a2;have hle:b.cnt≤b1.cnt:=q.1;have key2:∀z,Agree y z b1.cnt->zce (denote table) pyNext z (EvP prog w z n) Γ p b=zgj z (EvP prog w z n) Γ S o p' b1:=λz hz=>(key z).trans (zl3 (q.2 z hz));clear a2
  induction o with
  |none=>exact zkD y b1 a1 (key2 y (.refl _ _)) rfl a4
  |some v=>
   refine zfc (zsH (zcF (key2 y (.refl _ _)) (h y a1))) λf e3=>?_;show Sem.wp _ _ (holding [v] (setAdd S v) >>= λ_=>again (.builtin "set.update.loop" ⟨[.ref S,it],[]⟩)) _ _ _ _;rw[Sem.wp_bind'];refine Sem.wp_mono _ _ _ ?_ (λ_ _ _ q=>q.elim) _ _ (zsz (Γ:=Γ) (p:=p') a4 e3);rintro _ p'' s'' ⟨d,rfl,F'⟩;have hcn:(f d).cnt=b1.cnt+1:=zsj e3 d;refine⟨zqG S it,?_⟩;have hΓ:Γ.goto (.builtin "set.update.loop" ⟨[.ref S,it],[]⟩)=Γ:=ya _ hc.symm;rw[hΓ];refine(ih.code (upd y b1.cnt (d,p'')) Γ p'' (f d) (F' p'')).after h (a1.trans (zfZ y b1.cnt (d,p'')) hle) (hcn▸xg hle) (λz hz=>?_) λ_ _ h=>h;refine zb0 (zsU (hcn▸hz)) λq1 q2=>?_;refine(key2 z q1).trans ((zvB e3).trans ?_);rw[q2]
 ·rintro e p' s' ⟨y,b1,a1,a2,rfl,a4⟩
  exact zkD y b1 a1 ((key y).trans (zjs a2)) rfl a4
theorem zsf{n:Nat}(ih:zqU prog w n)(x:Nat->SD)(Γ:Ctx)(p:Pos)(b:BS)(hF:zbr prog w x b)(e1:zuj Γ.code b=none)(e2:ziM Γ.code=none) :
  zk3 prog w (λy=>zce (denote table) pyNext y (EvP prog w y n) Γ p b) x b Γ p:=by
 intro h;have H:=zvQ (den:=denote table) (nxt:=pyNext) (prog:=prog) (w:=w) n;have key:=λy=>zmf (den:=denote table) (nxt:=pyNext) (x:=y) (F:=EvP prog w y n) (p:=p) e1 e2;rw[wpCode_iff_wp];refine Sem.wp_mono _ _ _ ?_ ?_ _ _ (ih.big x Fin Γ (denote table Γ.code) p b hF λy hy=>zkL (zcF (key y) (h y hy)))
 ·left
  rintro fin p' s' ⟨y,b1,a1,a2,rfl,a4⟩;have q:=H.big _ _ _ _ _ _ _ a2;have hle:b.cnt≤b1.cnt:=q.1;have key2:∀z,Agree y z b1.cnt->zce (denote table) pyNext z (EvP prog w z n) Γ p b=zh5 (EvP prog w z n) Γ fin p' b1:=λz hz=>(key z).trans (zl3 (q.2 z hz));clear q a2
  induction fin with
  |done f=>exact zkD y b1 a1 (key2 y (.refl _ _)) rfl a4
  |again c=>
   have hq:=zoC (zcF (key2 y (.refl _ _)) (h y a1));exact⟨hq,(ih.code y (Γ.goto c) p' b1 a4).after h a1 hle (λz hz=>(key2 z hz).trans (zqY hq)) λ_ _ h=>h⟩
 ·rintro e p' s' ⟨y,b1,a1,a2,rfl,a4⟩
  exact zkD y b1 a1 ((key y).trans (zjs a2)) rfl a4
theorem zqC{n:Nat}(ih:zqU prog w n)(x:Nat->SD)(Γ:Ctx)(p:Pos)(b:BS)(hF:zbr prog w x b):zk3 prog w (λy=>zce (denote table) pyNext y (EvP prog w y n) Γ p b) x b Γ p:=by
 left;cases e1:zuj Γ.code b with
 |some L=>
  intro h;refine wpCode_mono ?_ (zqV hF e1);rintro r' s' ⟨rfl,d,rfl,F'⟩;refine zkD (upd x b.cnt (d,p)) (zdD b L d) (zfZ x b.cnt (d,p)) ((zjp e1).trans ?_) rfl (F' p);rw[zi3]
 |none=>
  cases e2:ziM Γ.code with
  |some Si=>exact zrg ih x Γ p b hF e1 (S:=Si.1) (it:=Si.2) e2
  |none=>exact zsf ih x Γ p b hF e1 e2
theorem zsV{n:Nat}(ih:zqU prog w n)(x:Nat->SD)(Γ:Ctx)(t:Sem Fin)(p:Pos)(b:BS)(hF:zbr prog w x b) :
  zAi prog w (λy=>zh2 (denote table) (EvP prog w y n) Γ p b (mv prog w Γ t p b)) x b Γ t p:=by
 intro h;have H:=zvQ (den:=denote table) (nxt:=pyNext) (prog:=prog) (w:=w) n;have hm:=zAr prog w Γ t p b;have hgo:=λt' p' b'=>zol (prog:=prog) (w:=w) (Γ:=Γ) (p:=p) (b:=b) (t:=t) (t':=t') (p':=p') (b':=b');revert h hm hgo;generalize mv prog w Γ t p b=m;intro h hm hgo
 induction m with
 |pure a=>
  clear hgo;obtain rfl:=hm
  induction a with
  |done f=>exact zuh x b _ (.refl _ _) rfl .done hF
  |again c=>
   have hq:=zoC (h x (.refl _ _));have key:∀F:Ev,zh2 (denote table) F Γ p b (.pure (.again c))=F.gen (Γ.goto c) (denote table c) p b:=λF=>zqY hq;refine zuk (ih.gen x (Γ.goto c) (denote table c) p b hF λy hy=>zcF (key (EvP prog w y n)) (h y hy)) λy b1 e a1 a2 a3 a4=>?_;exact zuh y b1 e a1 ((key _).trans a2) (.again hq a3) a4
 |raise e=>obtain rfl:=hm;exact zuh x b _ (.refl _ _) rfl .raise hF
 |call c hd k=>
  clear hgo;left;refine zBj hm λg l hzz=>?_;subst hzz;obtain⟨r,s'',hret,y,b1,a1,a2,rfl,a4⟩:=ih.code x (Γ.enter c hd p) p b hF λy hy=>zlT (h y hy);have q:=H.code _ _ _ _ _ _ a2;have hle:b.cnt≤b1.cnt:=q.1;have key:∀z,Agree y z b1.cnt->zh2 (denote table) (EvP prog w z n) Γ p b (.call c hd k)=(EvP prog w z n).gen Γ (k r) p b1:=λz hz=>zlg (q.2 z hz);refine zuk (ih.gen y Γ (k r) p b1 a4 λz hz=>zcF (key z hz) (h z (a1.trans hz hle))) λz b2 e g1 g2 g3 g4=>?_;exact zuh z b2 e (a1.trans g1 hle) ((key z g1).trans g2) (.call hret g3) g4
 |resume g r k=>cases h x (.refl _ _)
 |susp v g l k=>obtain rfl:=hm;exact zuh x b _ (.refl _ _) rfl .yield hF
 |go o=>
  clear hm
  induction o with
  |none=>cases h x (.refl _ _)
  |some s=>
   left;obtain⟨t',p',b'⟩:=s;have G:=hgo t' p' b' rfl;refine zn2 G.ok λh1 h2 _=>?_;refine zuk (ih.gen x Γ t' p' b' (h2 x hF) λy hy=>h y (h1▸hy)) λy b1 e a1 a2 a3 a4=>?_;exact zuh y b1 e (h1▸a1) a2 (G.run _ _ a3) a4
theorem zsq(n:Nat):zqU prog w n:=by
 induction n with
 |zero=>exact⟨λx α Γ t p b _ h=>(by cases h x (.refl _ _)),λx Γ p b _ h=>(by cases h x (.refl _ _)),λx Γ t p b _ h=>(by cases h x (.refl _ _))⟩
 |succ n ih=>exact⟨zuf ih,zqC ih,zsV ih⟩
theorem zvi(n:Nat)(x:Nat->SD)(α:Type)(Γ:Ctx)(t:Sem α)(p:Pos)(b:BS)(F:zbr prog w x b)(h:∀y,Agree x y b.cnt->(big (denote table) pyNext prog w y n α Γ t p b).isSome=true) :
  Sem.wp (model prog w) Γ t (λa p' s'=>∃y b',Agree x y b.cnt∧big (denote table) pyNext prog w y n α Γ t p b=some (.ok a p' b')∧s'=b'.abs∧zbr prog w y b')
   (λe p' s'=>∃y b',Agree x y b.cnt∧big (denote table) pyNext prog w y n α Γ t p b=some (.err e p' b')∧s'=b'.abs∧zbr prog w y b') p b.abs:=(zsq n).big x α Γ t p b F h
end
noncomputable def zcd:Step->Prop
 |.halt (.done _) _=>False
 |_=>True
theorem zcd.no{x:Step}{f:Flow}{s:Shared}(h:x=.halt (.done f) s)(n:zcd x):False:=by subst h;exact n
theorem zti{den:Code->Sem Fin}{p:Program}{w:World}{s s':Shared}{t:Thread}{f:Flow}(h:step den p w s t=.halt (.done f) s'):through t=true:=by
 obtain⟨heap,gens,drawn,toks,os⟩:=s;obtain⟨cur,code,pos,stack⟩:=t
 induction cur with
 |pure fin=>
  induction fin with
  |again c=>exact(zcd.no h trivial).elim
  |done g=>
   induction stack with
   |nil=>rfl
   |cons F r=>induction F<;>exact(zcd.no h trivial).elim
 |raise e=>
  induction stack with
  |nil=>
   refine(zcd.no h ?_).elim;show zcd (finish (.uncaught e) _);unfold finish
   split<;>exact trivial
  |cons F r=>induction F<;>exact(zcd.no h trivial).elim
 |finish e=>
  refine(zcd.no h ?_).elim;show zcd (if leftWithCleanup gens=true then _ else _)
  split<;>exact trivial
 |load a q k=>
  refine(zcd.no h ?_).elim;clear h;unfold step;dsimp only;cases heap.get? a<;>exact trivial
 |update a q g k=>
  refine(zcd.no h ?_).elim;show zcd (if(heap.get? a).isSome=true then _ else _)
  split<;>exact trivial
 |choose src n k=>
  refine(zcd.no h ?_).elim;show zcd (if n=0 then _ else _)
  split<;>exact trivial
 |genState g k=>
  refine(zcd.no h ?_).elim;clear h;unfold step;dsimp only;cases gens[g]?<;>exact trivial
 |resume g r l k=>
  refine(zcd.no h ?_).elim;clear h;unfold step;dsimp only;cases gens[g]? with
  |none=>exact trivial
  |some gs=>
   induction gs with
   |fresh c=>
    induction r with
    |send v=>induction v<;>exact trivial
    |throw e=>exact trivial
   |_=>exact trivial
 |«yield» v g l k=>
  refine(zcd.no h ?_).elim;clear h;unfold step;dsimp only;cases splitAtGen stack with
  |none=>exact trivial
  |some q=>exact trivial
 |_=>exact(zcd.no h trivial).elim
theorem ztB{den:Code->Sem Fin}{p:Program}{w:World}:∀(n:Nat)(s s':Shared)(t:Thread)(f:Flow),runN den p w n s t=.halted (.done f) s' ->
  ∃m t1a,runN den p w m s t=.running s' t1a∧through t1a=true
 |0,_,_,_,_,h=>by cases h
 |n+1,s,s',t,f,h=>by
  simp only[runN]at h;cases e:step den p w s t with
  |go s₂ t2=>
   rw[e]at h;refine zfw (ztB n s₂ s' t2 f h) λm t1a a b=>?_;refine zny (m+1) t1a ?_ b;simp only[runN,e];exact a
  |halt o s₂=>
   rw[e]at h;injection h with h1 h2;subst h1 h2;have:=step_halt_same _ _ _ _ _ _ _ e;subst this;exact zny 0 t rfl (zti e)
noncomputable def zta:SetTable:=(SetTable.mk 7 #[] #[] 0 default default default)
noncomputable def zjj(P:Params):BT:=((boot_heap P).objs.toList.foldl (λ(t:BT×Nat) o=>(t.1.ins t.2 o,t.2+1)) (BT.nil,0)).1
noncomputable def b0(w:World)(os:OsState):BS:={tree:=zjj w.params,n:=11,life:=(boot_heap w.params).life,gens:=[],drawn:=boot_drawn,toks:=boot_toks,os:=os,log:=[],at_:=[]}
theorem zzH(w:World)(os:OsState):(b0 w os).abs=⟨boot_heap w.params,#[],boot_drawn,boot_toks,os⟩:=by kernel_rfl
theorem zvU{prog:Program}{w:World}{os:OsState}{x:Nat->SD}:zbr prog w x (b0 w os):=⟨λi l h=>(zae (show none=some l from h)),λS k h=>zae (show none=some k from h)⟩
noncomputable def zl2:Code:=.builtin "claim.caller" {}
noncomputable def zrp:Ctx:=⟨zl2,none,none,[],none⟩
noncomputable def zAp(t:BT):List (Option Obj):=(List.range 11).map λi=>if i==mainNs||i==cStatics then none else t.get i
noncomputable def zvt(p:Program)(P:Params)(h:Heap)(gens:List GenState):Bool:=
 staticsOk (importedModules p.main.body) (boot_heap P) h&&namesBound p h&&gens.all (λg=>match g with|.finished=>true|_=>false)&&laidKept (boot_heap P) h&&(boot_heap P).isNs mainGlobals&&Nat.ble 11 h.objs.size
noncomputable def zsv(b:BS)(names:List Str):List (Option (List Str)):=names.map λn=>match b.heap.nsMap mainGlobals n with
 |some (.ref S)=>zi9 b S
 |_=>none
section
variable(p q:Program)(loose:List Str)(Xt:Shared->Bool)(sets:List (Str×List Str)){β:Type}(ext:BS->β)(extV:World->β)
noncomputable abbrev zuw:=Seen×(Option Str×List (Str×Value))×Bool×Bool×(List (Option FnShape)×Bool)×List (Option PlainShape)×List (Option (PlainShape×Bool))×(List (Option FnShape)×Bool)×List (Option (List (Option FnShape)×Bool)×Option (PlainShape×Bool))
noncomputable def zAG(sn:Program->List Str->List Str->(Shared->Bool)->Bool->Shared->zuw)(P:Params):Option (Out Fin)->Option (zuw×Bool×List (Option Obj)×List (Option (List Str))×OsState×Life×β)
 |some (.ok (.done _) _ b)=>some (sn q loose (importedModules p.main.body) Xt false b.abs,zvt p P b.heap b.gens,zAp b.tree,zsv b (sets.map (·.1)),b.os,b.life,ext b)
 |_=>none
noncomputable def zzX(w:World)(os:OsState):Option (zuw×Bool×List (Option Obj)×List (Option (List Str))×OsState×Life×β):=
 some (openGood q loose,true,zAp (zjj w.params),sets.map (λs=>some s.2),os,(boot_heap w.params).life,extV w)
noncomputable def ziN(den:Code->Sem Fin)(nxt:Value->Sem (Option Value))(sn:Program->List Str->List Str->(Shared->Bool)->Bool->Shared->zuw)(N:Nat)(w:World):Prop:=
 ∀(y:Nat->SD)(os:OsState),zAG p q loose Xt sets ext sn w.params (big den nxt p w y N Fin zrp (topStub p).cur default (b0 w os))=zzX q loose sets extV w os
end
noncomputable def zej(prog:Program)(w:World)(sets:List (Str×List Str))(mg:Str->Option Value)(h:Heap):Prop:=
 ∀n l,(n,l)∈sets->∃S d,mg n=some (.ref S)∧h.get? S=some (zar d)∧zat prog w d l
theorem zuY{t t':BT}(e:zAp t=zAp t'){i:Nat}(hi:i<11)(h1:i≠mainNs)(h2:i≠cStatics):t.get i=t'.get i:=by
 have:=ya (·[i]?) e;unfold zAp at this;simp only[List.getElem?_map,List.getElem?_range hi,Option.map_some,Option.some.injEq]at this;have q:(i==mainNs||i==cStatics)=false:=by simp[h1,h2]
 rw[q]at this;exact this
set_option tactic.hygienic true in
theorem zxE{prog:Program}{w:World}{x:Nat->SD}{b:BS}{sets:List (Str×List Str)}(F:zbr prog w x b)(e:zsv b (sets.map (·.1))=sets.map (λs=>some s.2)) :
  zej prog w sets (b.heap.nsMap mainGlobals) b.heap:=by
 intro n l hm;left;obtain⟨i,hi,he⟩:=List.getElem_of_mem hm;have:=ya (·[i]?) e;unfold zsv at this;simp only[List.getElem?_map,List.getElem?_eq_getElem hi,Option.map_some,Option.some.injEq,he]at this
 split at this
 ·rename_i S hS
  refine zcM (zj5 F this) λd h1 h2 h3=>?_;exact zlH S d hS (BS.getSet h1 h2) h3
 ·exact zae this
theorem zej.keeps{prog:Program}{w:World}{sets:List (Str×List Str)}{mg:Str->Option Value}{h h':Heap}(S:zej prog w sets mg h)(k:∀b o,h.get? b=some o->h'.get? b=some o):zej prog w sets mg h':=
 λn l hm=>let ⟨a,d,h1,h2,h3⟩:=S n l hm;(zlH a d h1 (k _ _ h2) h3)
inductive zyC(p q:Program)(loose:List Str)(XP:(Str->Option Value)->Heap->Prop)(sets:List (Str×List Str)){β:Type}(ext:BS->β)(extV:World->β)(w:World)(s s₀ s₁:Shared):Prop
 |mk (qa:fenceModules? p s=some s₀) (qb:s₀.gens=#[]) (qc:TopRan p w s₀ s₁) (qd:s₁.asleep) (qe:leftWithCleanup s₁.gens=false) (qf:s₁.heap.isNs mainGlobals=true) (qg:Ground q loose [] XP w s₁ (s₁.heap.nsMap mainGlobals) (s₁.heap.nsMap builtinsNs) s₁.heap) (qh:zej p w sets (s₁.heap.nsMap mainGlobals) s₁.heap) (qi:∃b,s₁=b.abs∧ext b=extV w)
theorem zwX{p q:Program}{loose:List Str}{Xt:Shared->Bool}{XP:(Str->Option Value)->Heap->Prop}{sets:List (Str×List Str)}{β:Type}{ext:BS->β}{extV:World->β}{N M:Nat}{w:World}
  (hB:∀w:World,(fencedOpening treeTable p w M).map (λs=>(s.heap,s.gens,s.drawn,s.toks))=some (boot_heap w.params,Array.mk [],boot_drawn,boot_toks))
  (left:ziN p q loose Xt sets ext extV (denote table) pyNext openSeen N w)
  (hX:∀s,Xt s=true->XP (s.heap.nsMap mainGlobals) s.heap)(hch:chainsOk q=true) :
  (∃s,AfterRun (opening p) w s)∧∀s,AfterRun (opening p) w s->∃s₀ s₁,zyC p q loose XP sets ext extV w s s₀ s₁:=by
 left;refine zaO (Option.map_eq_some_iff.mp (hB w)) λs₀ h2 hv=>?_;rw[←table_eq_tree]at h2;refine zaO (Option.bind_eq_some_iff.mp h2) λs h4 h5=>?_;have A:=AfterImport.of_importEnds h4;refine⟨⟨s,A⟩,λs' hs'=>?_⟩;clear h4 h2;obtain rfl:s'=s:=AfterImport.unique hs' A;have z:s₀.asleep:=Shared.asleep_of_life (fence_lifeW h5) A.life;left;obtain⟨hp0,g0,d0,k0,os⟩:=s₀;simp only[Prod.mk.injEq]at hv;obtain⟨rfl,rfl,rfl,rfl⟩:=hv;have e0:=zzH w os;have S:=zvi (prog:=p) (w:=w) N (λ_=>((#[],0,zta),default)) Fin zrp (topStub p).cur default (b0 w os) zvU λy _=>by
  have:=left y os;cases e:big (denote table) pyNext p w y N Fin zrp (topStub p).cur default (b0 w os)with
  |none=>rw[e]at this;exact zae this
  |some o=>rfl
 rw[e0]at S;have S':=(wp_iff_halts (M:=model p w) (c:=zl2) (topStub p).cur (λr s'=>∃b y f,r=.ok f∧s'=b.abs∧zbr p w y b∧zAG p q loose Xt sets ext openSeen w.params (some (.ok (.done f) default b))=zzX q loose sets extV w os) default _).mp (Sem.wp_mono _ _ _ (by
   rintro fin p' s' ⟨y,b,_,h1,rfl,F⟩;have hl:=left y os;rw[h1]at hl
   induction fin with
   |again c=>exact zae hl
   |done f=>
    refine⟨(zuh b y f rfl rfl F hl),?_⟩;have hg:zvt p w.params b.heap b.gens=true:=ya (λx=>(x.map (·.2.1)).getD false) hl;unfold zvt at hg;simp only[Bool.and_eq_true]at hg;obtain⟨⟨⟨⟨⟨_,_⟩,hg⟩,_⟩,_⟩,_⟩:=hg;rw[List.all_eq_true]at hg;unfold leftWithCleanup;rw[Array.any_eq_false'];intro g hgm;have:=hg g (by simpa[BS.abs]using hgm)
    induction g<;>simp_all) (by
   rintro e p' s' ⟨y,b,_,h1,rfl,F⟩;have hl:=left y os;rw[h1]at hl;exact zae hl) _ _ S)
 obtain⟨n,r,s',hn,b,y,f,rfl,rfl,F,hl⟩:=S';obtain⟨s'',hr,hf,hc⟩:=runNI_real _ _ _ hn (outcomeOf_ends _);have hl:=yj hl;simp only[Prod.mk.injEq]at hl;obtain⟨l1,l2,l3,l4,l5,l6,l7⟩:=hl;unfold zvt at l2;simp only[Bool.and_eq_true]at l2;obtain⟨⟨⟨⟨⟨t1,t2⟩,t3⟩,t4⟩,t5⟩,t7⟩:=l2;rw[List.all_eq_true]at t3;have hgm:∀g∈b.abs.gens,match g with|.finished=>True|_=>False:=λg hg=>by
  have:=t3 g (by simpa[BS.abs]using hg)
  induction g<;>simp_all
 have hns:b.abs.NoSusp:=λg hg=>by
  have:=hgm g hg
  induction g<;>simp_all [GenState.isSuspended]
 obtain rfl:=Shared.eq_of_forget_eq' hf hns;obtain⟨m,t1a,hm,ht⟩:=ztB _ _ _ _ _ hr;have hne:∀k s₂,runN (denote table) p w k (b0 w os).abs ⟨(topStub p).cur,zl2,default,[]⟩≠.halted (.unsupported "lifetime:generator-with-cleanup-left-suspended") s₂:=by
  intro k s₂ hk;have a:=runN_mono (denote table) p w n k _ _ _ _ hr;have c:=runN_mono (denote table) p w k n _ _ _ _ hk;rw[Nat.add_comm]at a;rw[e0]at c;rw[a]at c;injection c with c1 _;cases c1
 have hsch:=(schedN_eq_runN (denote table) p w _ ⟨(topStub p).cur,zl2,default,[]⟩ z ⟨hc,by rw[←e0];exact hne⟩ m).trans (ya Run.lift hm);obtain⟨G,g0,g1,g2,g3,g4,g5⟩:=ground_of_open (w:=w) hX hch l1;have hz:b.abs.heap.life=(boot_heap w.params).life:=l6;refine⟨_,b.abs,h5,rfl,⟨(zny m t1a hsch ht),hz,Shared.rest_eq l5,λa o ha hn=>?_,g2,statics_of_ok t1,g3,g4,g5,hgm,names_of_bound t2,laid_of_kept t4⟩,Shared.asleep_of_life hz z,by simpa using g0,g1,G,zxE F l4,b,rfl,l7⟩;have eh:boot_heap w.params=absHeap (zjj w.params) 11 (boot_heap w.params).life:=(ya Shared.heap e0).symm;have hsz:(boot_heap w.params).objs.size=11:=(ya (λh:Heap=>h.objs.size) eh).trans (absHeap_size ..);have h11:a<11:=hsz▸Heap.lt_size ha;have hn11:11≤b.n:=by
  have:=yK t7;rwa[show b.heap.objs.size=b.n from absHeap_size ..]at this
 have hget:=zuY l3 h11 (λq=>hn (.inl q)) λq=>hn (.inr (.inl q));refine Eq.trans ?_ ((ya (λh:Heap=>h.get? a) eh).symm.trans ha);show(absHeap b.tree b.n b.life).get? a=(absHeap (zjj w.params) 11 (boot_heap w.params).life).get? a;unfold Heap.get?;rw[absHeap_at,absHeap_at,hget,if_pos h11,if_pos (Nat.lt_of_lt_of_le h11 hn11)]
noncomputable def zAa:List Value->List Int->Prop
 |[],[]=>True
 |.int i _::vs,x::xs=>i=x∧zAa vs xs
 |_,_=>False
theorem zyc{R:WRecords}{t:WTm}{e:WCtx}{b:Bool}(h:WTm.value R t e=some (.bool b)):WTm.value R (.not t) e=some (.bool (!b)):=by
 show(match WTm.value R t e with|some (.bool b)=>some (.bool (!b))|_=>none:Option WData)=_;rw[h]
theorem holds_and{R:WRecords}{t u:WTm}{e:WCtx}{b:Bool}(h:WTm.value R t e=some (.bool b))(k:WTm.holds R (.and t u) e=true):b=true:=by
 cases b with
 |true=>rfl
 |false=>
  have:WTm.value R (.and t u) e=some (.bool false):=by
   show(match WTm.value R t e with|some (.bool false)=>some (.bool false)|some (.bool true)=>(match WTm.value R u e with|some (.bool x)=>some (.bool x)|_=>none:Option WData)|_=>none:Option WData)=_;rw[h]
  unfold WTm.holds at k;rw[this]at k;exact k
theorem zyQ{l:OpenLaw}{xs:List WData}(hm:l.most=some 63)(hb:l.bound=none)(h:l.pre.holds [] {args:=[.list xs]}=true):xs.length≤63:=by
 unfold OpenLaw.pre at h;rw[hm,hb]at h;have v:WTm.value [] (.lt (.lit (.int ((63:Nat):Int))) (.len (.arg 0))) {args:=[.list xs]}=some (.bool (decide ((63:Int)<(xs.length:Int)))):=rfl;have k:=holds_and (zyc v) h;by_cases q:(63:Int)<xs.length
 ·rw[decide_eq_true q]at k;exact zaF k
 ·omega
theorem zwc{e:WCtx}(h:e.res=some (.bool true)):(WShape.has [] (.bool true) .bool&&WTm.holds [] (.eq .res (.lit (.bool true))) e)=true:=by
 refine yw.mpr ⟨rfl,?_⟩;have e1:same (.bool true) (.bool true)=true:=by right
 have v:WTm.value [] (.eq .res (.lit (.bool true))) e=some (.bool (same (.bool true) (.bool true))):=by
  show(match e.res,some (WData.bool true)with|some x,some y=>some (.bool (same x y))|_,_=>none:Option WData)=_;rw[h]
 unfold WTm.holds;rw[v,e1]
theorem zAO{P:Params}{h:Heap}{v:Value}{d:WData}(a:Well P h v d)(hs:WShape.has [] d .int=true):∃i t,d=.int i∧v=.int i t:=by
 cases d with
 |int i=>
  cases a with
  |int _ t=>exact⟨i,t,rfl,rfl⟩
 |_=>exact zaF (show false=true from hs)
theorem zyw{P:Params}{h:Heap}:∀{ds:List WData}{vs:List Value},WellAll P h vs ds->WShape.hasItems [] ds .int=true->∃xs,ds=xs.map WData.int∧zAa vs xs:=by
 intro ds
 induction ds with
 |nil=>
  intro vs w _;cases w;exact⟨[],rfl,trivial⟩
 |cons d ds ih=>
  intro vs w hs;obtain⟨h1,h2⟩:=yw.mp (show(WShape.has [] d .int&&WShape.hasItems [] ds .int)=true from hs);cases w with
  |cons a b=>
   obtain⟨xs,e,hi⟩:=ih b h2;obtain⟨i,t,e1,e2⟩:=zAO a h1;rw[e,e1,e2];exact⟨i::xs,rfl,rfl,hi⟩
noncomputable def zah(p:Program)(i:Nat):List Stmt:=match p.main.body[i]? with
 |some (.FunctionDef _ _ body _ _ _ _ _ _ _)=>body
 |_=>[]
noncomputable def zap(p:Program)(i:Nat):Scope:=match p.main.body[i]? with
 |some (.FunctionDef _ _ _ _ _ _ scope _ _ _)=>scope
 |_=>default
noncomputable def zaH(p:Program)(i:Nat):Arguments:=match p.main.body[i]? with
 |some (.FunctionDef _ args _ _ _ _ _ _ _ _)=>args
 |_=>default
noncomputable def zpZ(p:Program)(i:Nat):List Stmt:=match (List.head? (zah p i):Option Stmt)with
 |some (.FunctionDef _ _ body _ _ _ _ _ _ _)=>body
 |_=>[]
noncomputable def zka(p:Program)(i:Nat):Scope:=match (List.head? (zah p i):Option Stmt)with
 |some (.FunctionDef _ _ _ _ _ _ scope _ _ _)=>scope
 |_=>default
noncomputable def zwV(p:Program)(i:Nat):Arguments:=match (List.head? (zah p i):Option Stmt)with
 |some (.FunctionDef _ args _ _ _ _ _ _ _ _)=>args
 |_=>default
noncomputable def zrs(e:DictEntry):Option (Int×List Nat×List Nat):=match e.key,e.val with
 |.str k _,.str v _=>some (e.hash,k.cps.toList,v.cps.toList)
 |_,_=>none
noncomputable def zou(h:Heap):Option (List (Option (Int×List Nat×List Nat))):=match h.nsMap mainGlobals "BASIC_STR_ESCAPE_REPLACEMENTS" with
 |some (.ref M)=>match h.get? M with
  |some oM=>if oM.cls == .type "mappingproxy" then match oM.data with
   |.fields vs=>match (vs[0]?:Option Value)with
    |some (.ref D)=>if D==sysModules then none else match h.get? D with
     |some oD=>if oD.cls == .type "dict" && oD.dict.isNone&&oD.slots.isEmpty then match oD.data with
      |.dict es _=>some (es.toList.map zrs)
      |_=>none
      else none
     |none=>none
    |_=>none
   |_=>none
   else none
  |none=>none
 |_=>none
noncomputable def zff:List (List Nat×List Nat):=[([92,98],[8]),([92,116],[9]),([92,110],[10]),([92,102],[12]),([92,114],[13]),([92,34],[34]),([92,92],[92])]
noncomputable def zrM(w:World):Option (List (Option (Int×List Nat×List Nat))):=some (zff.map λp=>some (hashStr w ⟨p.1.toArray⟩,p.1,p.2))
inductive zCH(prog:Program)(w:World)(mg:Str->Option Value)(h:Heap)(M D:Addr)(oM:Obj)(vs:Array Value)(f:Str->Option Value):Prop
 |mk (qa:mg "BASIC_STR_ESCAPE_REPLACEMENTS"=some (.ref M)) (qb:h.get? M=some oM) (qc:oM.cls=.type "mappingproxy") (qd:oM.data=.fields vs) (qe:vs[0]?=some (.ref D)) (qf:(D==sysModules)=false) (qg:h.MapOf (PySem.strKind prog w) D f) (qh:∀p∈zff,∃t,f ⟨p.1.toArray⟩=some (.str ⟨p.2.toArray⟩ t)) (qi:∀k:List Nat,(∀p∈zff,p.1≠k)->f ⟨k.toArray⟩=none)
noncomputable def zkC(prog:Program)(w:World)(mg:Str->Option Value)(h:Heap):Prop:=∃M D oM vs f,zCH prog w mg h M D oM vs f
set_option tactic.hygienic true in
theorem znh{w:World}:∀{es:List DictEntry}{ps:List (List Nat×List Nat)},es.map zrs=ps.map (λp=>some (hashStr w ⟨p.1.toArray⟩,p.1,p.2))->(ps.map (·.1)).Nodup ->
  (∀e∈es,∃k:Str,Value.isStrOf k e.key=true∧e.hash=hashStr w k)∧(∀p∈ps,∃t,((es.find? λe=>Value.isStrOf ⟨p.1.toArray⟩ e.key).map (·.val))=some (.str ⟨p.2.toArray⟩ t)) ∧
  (∀k:List Nat,(∀p∈ps,p.1≠k)->(es.find? λe=>Value.isStrOf ⟨k.toArray⟩ e.key)=none)
 |[],[],_,_=>⟨λe h=>(zcx h),λp h=>(zcx h),λ_ _=>rfl⟩
 |e::es,p::ps,h,hn=>by
  simp only[List.map_cons,List.map_cons,List.cons.injEq]at h;rw[List.map_cons,List.nodup_cons]at hn;left;refine zn2 (znh (w:=w) h.2 hn.2) λh1 h2 h3=>?_;have hr:=h.1;clear h;obtain⟨eh,ek,ev⟩:=e;unfold zrs at hr
  split at hr
  ·rename_i k tk v tv hk hv
   dsimp only at hk hv;subst hk hv;simp only[Option.some.injEq,Prod.mk.injEq]at hr;obtain⟨r1,r2,r3⟩:=hr;have ek:(⟨p.1.toArray⟩:Str)=k:=by rw[←r2]
   have evv:(⟨p.2.toArray⟩:Str)=v:=by rw[←r3]
   have keyIs:∀x:List Nat,Value.isStrOf ⟨x.toArray⟩ (.str k tk)=decide (x=p.1):=λx=>by
    rw[←ek];by_cases q:x=p.1
    ·subst q;simp[Value.isStrOf]
    ·have q':¬p.1=x:=λz=>q z.symm
     simp[Value.isStrOf,q,q']
   refine⟨λe he=>?_,λp' hp'=>?_,λk' hk'=>?_⟩
   ·rcases yz.mp he with rfl|he
    ·exact zbB k (by simp[Value.isStrOf]) (ek.symm▸r1)
    ·exact h1 e he
   ·clear r3 r2 r1 ek G
    rcases yz.mp hp' with rfl|hp'
    ·rw[List.find?_cons,keyIs,decide_eq_true rfl]
     exact⟨tv,by rw[evv];rfl⟩
    ·simp only[List.find?_cons,keyIs,decide_eq_false (λz:p'.1=p.1=>hn.1 (List.mem_map.mpr (zbB p' hp' z)))]
     exact h2 p' hp'
   ·simp only[List.find?_cons,keyIs,decide_eq_false (λz:k'=p.1=>hk' p List.mem_cons_self z.symm)]
    exact h3 k' λp' hp'=>hk' p' (yn _ hp')
  ·exact zae hr
 |[],_::_,h,_=>by simp at h
 |_::_,[],h,_=>by simp at h
set_option tactic.hygienic true in
theorem zuW{prog:Program}{w:World}{h:Heap}(e:zou h=zrM w):zkC prog w (h.nsMap mainGlobals) h:=by
 unfold zou at e;left
 split at e
 ·rename_i M hM
  split at e
  ·rename_i oM hoM
   split at e
   ·rename_i hc
    split at e
    ·rename_i vs hd
     split at e
     ·rename_i D hD
      split at e
      ·exact zae e
      ·rename_i hs
       split at e
       ·rename_i oD hoD
        split at e
        ·rename_i hx
         split at e
         ·rename_i es ep hde
          have e:=yj e;refine zn2 (znh e (by decide)) λr1 r2 r3=>?_;simp only[Bool.and_eq_true,beq_iff_eq]at hx;obtain⟨⟨x1,x2⟩,x3⟩:=hx;refine⟨M,D,oM,vs,findBy Value.isStrOf es,hM,hoM,by exact yF hc,hd,hD,by simpa using hs,(zCh oD es ep hoD ⟨x1,by simpa using x2,by simpa using x3⟩ hde (λe he=>?_) (λk=>rfl)),λp hp=>?_,λk hk=>?_⟩
          ·exact r1 e (by simpa using he)
          ·obtain⟨t,ht⟩:=r2 p hp
           refine⟨t,?_⟩;unfold findBy;rw[←Array.find?_toList];exact ht
          ·unfold findBy
           rw[←Array.find?_toList,r3 k hk];rfl
         ·exact zae e
        ·exact zae e
       ·exact zae e
     ·exact zae e
    ·exact zae e
   ·exact zae e
  ·exact zae e
 ·exact zae e
theorem zkC.keeps{prog:Program}{w:World}{mg:Str->Option Value}{h h':Heap}(x:zkC prog w mg h)(k:∀b o,h.get? b=some o->h'.get? b=some o):zkC prog w mg h':=by
 left;obtain⟨M,D,oM,vs,f,e1,e2,e3,e4,e5,e6,⟨o,es,ep,m1,m2⟩,e8,e9⟩:=x;exact⟨M,D,oM,vs,f,e1,k _ _ e2,e3,e4,e5,e6,(zw4 o es ep (k _ _ m1) m2),e8,e9⟩
inductive KwA(d:DefRec×List (Str×Expr))(mg:Str->Option Value)(h:Heap)(a:Addr)(o:Obj)(pm cd doc dV kV:Value):Prop
 |mk (qa:mg d.1.name=some (.ref a)) (qb:h.get? a=some o) (qc:o.data=.func {docDef d.1.name d.1.params d.1.body d.1.scope pm cd doc with defaults:=dV,kwdefaults:=kV}) (qd:h.CodeRec cd d.1.name) (qe:Dflts mg h d.1.params d.2 dV kV)
noncomputable def zwI(d:DefRec×List (Str×Expr))(mg:Str->Option Value)(h:Heap):Prop:=∃a o pm cd doc dV kV,KwA d mg h a o pm cd doc dV kV
theorem zwI.keeps{d:DefRec×List (Str×Expr)}{mg:Str->Option Value}{h h':Heap}(x:zwI d mg h)(k:∀b o,h.get? b=some o->h'.get? b=some o):zwI d mg h':=by
 left;obtain⟨a,o,pm,cd,doc,dV,kV,h1,h2,h3,h4,h5⟩:=x;exact⟨a,o,pm,cd,doc,dV,kV,h1,k _ _ h2,h3,h4.keeps k,h5.keeps k⟩
set_option tactic.hygienic true in
theorem zyo{d:DefRec×List (Str×Expr)}{h:Heap}(e:shapeAtK h d.1.name=some d.1.shape)(q:dfltAt h d=true):zwI d (h.nsMap mainGlobals) h:=by
 left;obtain⟨a,o,pm,code,doc,dV,kV,hb,ho,hdat,hc⟩:=hasFn_of_shapeK e;unfold dfltAt at q
 split at q
 ·rename_i f o' fd hf
  refine zn2 (Heap.fnAt_spec hf) λhb' ho' hdat'=>?_;clear hf;obtain rfl:f=a:=by rw[hb]at hb';injection hb' with q;injection q with q;exact q.symm
  obtain rfl:o'=o:=by rw[ho]at ho';exact(yj ho').symm
  rw[hdat]at hdat';obtain rfl:=Data.func.inj hdat';obtain⟨q1,q2⟩:=yw.mp q;exact⟨_,_,pm,code,doc,dV,kV,hb,ho,hdat,hc,dflts_of_at q1 q2⟩
 ·exact zaF q
inductive EC where
 |toml|index|value|key|recur
 deriving DecidableEq
inductive D where
 |none
 |bool (b:Bool)
 |int (i:Int)
 |str (l:List Nat)
 |tup (l:List D)
 |lst (l:List D)
 |fset (l:List (List Nat))
 |fn (n:Str)
 |lfn
 |rng (l:List D)
 |exc (c:EC) (m:List Nat)
 |err (c:EC) (m:List Nat)
 |dct (l:List (List Nat×(List Nat ⊕ Int)))
 |tstr (l:List Nat) (b:Nat)
noncomputable def ztE(x k:Int):Nat->List D
 |0=>[]
 |n+1=>.int x::ztE (x+k) k n
theorem zmQ(x:Int):∀n:Nat,ztE x 1 n=(List.range n).map λj:Nat=>.int (x+(j:Int))
 |0=>rfl
 |n+1=>by
  rw[List.range_succ_eq_map,List.map_cons,List.map_map];show D.int x::ztE (x+1) 1 n=_;rw[zmQ (x+1) n,Int.natCast_zero,Int.add_zero]
  congr 1
  refine List.map_congr_left λj _=>?_;show D.int (x+1+(j:Int))=D.int (x+((j+1:Nat):Int));rw[Int.natCast_succ,Int.add_assoc,Int.add_comm 1]
noncomputable def D.isExc:D->Bool
 |.exc ..=>true
 |_=>false
noncomputable def New(hs:Heap)(v:Value)(d:D):Prop:=d.isExc=true->∃e,v=.ref e∧hs.get? e=none
structure zrn where
 get?:Addr->Option Obj
noncomputable def zCS(hs:zrn)(v:Value)(d:D):Prop:=d.isExc=true->∃e,v=.ref e∧hs.get? e=none
noncomputable def mk(l:List Nat):Str:=⟨l.toArray⟩
theorem ze6(x:Str):mk x.cps.toList=x:=by cases x;simp[mk]
theorem zm8{a b:List Nat}(h:mk a=mk b):a=b:=by
 have:=ya (λx:Str=>x.cps.toList) h;simpa[mk]using this
noncomputable def Q0:Str:="suffixed_err.<locals>.coord_repr"
inductive zAT(h:Heap)(c:Addr)(o:Obj)(vs:Array Value)(t:Tok):Prop
 |mk (qa:h.get? c=some o) (qb:o.cls=.type "code") (qc:o.data=.fields vs) (qd:vs[1]?=some (.str Q0 t))
noncomputable def zdx(h:Heap)(c:Addr):Prop:=∃o vs t,zAT h c o vs t
structure LF where
 name:Str
 params:Arguments
 body:List Stmt
 scope:Scope
 pm:Value
noncomputable def LF.fd(l:LF)(c:Addr):FuncData:={name:=l.name,qualname:=Q0,params:=l.params,body:=.stmts l.body,scope:=l.scope,globals:=mainGlobals,closure:=[],defaults:=.none,kwdefaults:=.none,pyModule:=l.pm,code:=.ref c,builtins:=builtinsNs}
structure St0 where
 prog:Program
 w:World
 mg:Str->Option Value
 mb:Str->Option Value
 base:Heap
 tab:Addr
 lf:LF
noncomputable def St0.cls(S:St0):EC->Value
 |.toml=>match S.mg "TOMLDecodeError" with
  |some (.ref C)=>.ref C
  |_=>.type "ValueError"
 |.index=>.type "IndexError"
 |.value=>.type "ValueError"
 |.key=>.type "KeyError"
 |.recur=>.type "RecursionError"
theorem St0.cls_toml{S:St0}{C:Addr}(h:S.mg "TOMLDecodeError"=some (.ref C)):S.cls .toml=.ref C:=by
 unfold St0.cls;dsimp only;rw[h]
theorem St0.cls_ne(S:St0)(c:EC):S.cls c≠.none∧S.cls c≠.type "code":=by
 cases c
 case toml=>
  unfold St0.cls;dsimp only
  split<;>exact⟨by simp,by simp⟩
 all_goals exact⟨by simp[St0.cls],by simp[St0.cls]⟩
inductive zll:List (Str×Value)->List (List Nat×(List Nat ⊕ Int))->Prop
 |nil:zll [] []
 |str {k x t vs l}:zll vs l->zll ((mk k,.str (mk x) t)::vs) ((k,.inl x)::l)
 |int {k i t vs l}:zll vs l->zll ((mk k,.int i t)::vs) ((k,.inr i)::l)
mutual
inductive zcN(S:St0)(h:Heap)(P:Addr->Prop):Value->D->Prop
 |none:zcN S h P .none .none
 |bool (b):zcN S h P (.bool b) (.bool b)
 |int (i t):zcN S h P (.int i t) (.int i)
 |str (l t):zcN S h P (.str (mk l) t) (.str l)
 |tup {a o vs n ds}:h.get? a=some o->o.cls=.type "tuple"->o.data=.seq vs n->zaN S h P vs.toList ds->zcN S h P (.ref a) (.tup ds)
 |lst {a o vs n ds}:h.get? a=some o->¬P a->o.cls=.type "list"->o.data=.seq vs n->zaN S h P vs.toList ds->zcN S h P (.ref a) (.lst ds)
 |fset {a l d}:h.get? a=some (zar d)->S.base.get? a=some (zar d)->zat S.prog S.w d (l.map mk)->zcN S h P (.ref a) (.fset l)
 |fn {n v}:S.mg n=some v->zcN S h P v (.fn n)
 |lfn {a o c}:h.get? a=some o->o.data=.func (S.lf.fd c)->zdx h c->zcN S h P (.ref a) .lfn
 |rng {r x b k t u v ds} {n:Nat}:h.get? r=some {cls:=.type "range",dict:=none,data:=.fields #[.int x t,.int b u,.int k v],slots:=#[]}->¬P r->(n:Int)=Builtin.Range.rangeSize x b k->Builtin.Range.small x b k=true->ds=ztE x k n->zcN S h P (.ref r) (.rng ds)
 |exc {e t c m o tk}:h.get? e=some {cls:=S.cls c,data:=.fields #[.ref t,.none,.none,.none,.bool false,.none]}->¬P e->h.get? t=some o->o.cls=.type "tuple"->(∃n,o.data=.seq #[.str (mk m) tk] n)->zcN S h P (.ref e) (.exc c m)
 |err {e t c m o oe vs tk}:h.get? e=some oe->oe.cls=S.cls c->oe.data=.fields vs->vs[0]?=some (.ref t)->¬P e->h.get? t=some o->o.cls=.type "tuple"->(∃n,o.data=.seq #[.str (mk m) tk] n)->zcN S h P (.ref e) (.err c m)
 |dct {a o kvs l}:h.get? a=some o->o.IsDictOf (strKind S.prog S.w) kvs->¬P a->(a==sysModules)=false->zll kvs l->zcN S h P (.ref a) (.dct l)
 |tstr {l t b}:0<t->t<b->zcN S h P (.str (mk l) t) (.tstr l b)
inductive zaN(S:St0)(h:Heap)(P:Addr->Prop):List Value->List D->Prop
 |nil:zaN S h P [] []
 |cons {v d vs ds}:zcN S h P v d->zaN S h P vs ds->zaN S h P (v::vs) (d::ds)
end
inductive zpl(S:St0)(h:Heap)(P:Addr->Prop)(T:String)(v:Value)(ds:List D)(b:Addr)(o:Obj)(vs:Array Value)(n:Nat):Prop
 |mk (qa:v=.ref b) (qb:h.get? b=some o) (qc:o.cls=.type T) (qd:o.data=.seq vs n) (qe:zaN S h P vs.toList ds)
inductive zzC(S:St0)(h:Heap)(l:List (List Nat))(v:Value)(a:Addr)(d:zdv):Prop
 |mk (qa:v=.ref a) (qb:h.get? a=some (zar d)) (qc:S.base.get? a=some (zar d)) (qd:zat S.prog S.w d (l.map mk))
inductive zzM(S:St0)(h:Heap)(P:Addr->Prop)(c:EC)(m:List Nat)(v:Value)(e t:Addr)(o:Obj)(tk:Tok):Prop
 |mk (qa:v=.ref e) (qb:h.get? e=some {cls:=S.cls c,data:=.fields #[.ref t,.none,.none,.none,.bool false,.none]}) (qc:¬P e) (qd:h.get? t=some o) (qe:o.cls=.type "tuple") (qf:∃n,o.data=.seq #[.str (mk m) tk] n)
noncomputable def zCJ(S:St0)(h:Heap)(P:Addr->Prop)(v:Value):D->Prop
 |.none=>v=.none
 |.bool b=>v=.bool b
 |.int i=>∃t,v=.int i t
 |.str l=>∃t,v=.str (mk l) t
 |.tup ds=>∃b o vs n,zpl S h P "tuple" v ds b o vs n
 |.lst ds=>∃b o vs n,zpl S h P "list" v ds b o vs n
 |.fset l=>∃a d,zzC S h l v a d
 |.fn n=>S.mg n=some v
 |.exc c m=>∃e t o tk,zzM S h P c m v e t o tk
 |.tstr l b=>∃t,0<t∧t<b∧v=.str (mk l) t
 |_=>True
theorem zcN.inv{S:St0}{h:Heap}{P:Addr->Prop}{v:Value}{d:D}(x:zcN S h P v d):zCJ S h P v d:=by
 cases x with
 |none=>exact rfl
 |bool b=>exact rfl
 |int i t=>exact⟨t,rfl⟩
 |str l t=>exact⟨t,rfl⟩
 |tup h1 h2 h3 h4=>exact⟨_,_,_,_,rfl,h1,h2,h3,h4⟩
 |lst h1 _ h2 h3 h4=>exact⟨_,_,_,_,rfl,h1,h2,h3,h4⟩
 |fset h1 h2 h3=>exact⟨_,_,rfl,h1,h2,h3⟩
 |fn h1=>exact h1
 |lfn _ _ _=>exact trivial
 |rng _ _ _ _ _=>exact trivial
 |exc h1 h2 h3 h4 h5=>exact⟨_,_,_,_,rfl,h1,h2,h3,h4,h5⟩
 |err _ _ _ _ _ _ _ _=>exact trivial
 |dct _ _ _ _ _=>exact trivial
 |tstr h1 h2=>exact⟨_,h1,h2,rfl⟩
noncomputable def zjM(o:Obj):Prop:=o.cls=.none∧∃vs,o.data=.fields vs
theorem zaY{o:Obj}{T:String}(h:o.cls=.type T):¬zjM o:=λq=>by have:=q.1;rw[h]at this;cases this
theorem zdq{o:Obj}(h:∀vs,o.data≠.fields vs):¬zjM o:=λq=>q.2.elim λvs e=>h vs e
theorem zgZ{o:Obj}(h:(o.cls=.type "code"∧∃vs,o.data=.fields vs)∨∃fd,o.data=.func fd):¬zjM o:=by
 rcases h with⟨h,_⟩|⟨fd,h⟩
 ·exact zaY h
 ·exact zdq λvs e=>by rw[h]at e;cases e
inductive zlI(h:Heap):List Value->Prop
 |nil:zlI h []
 |cons {x t y u c rest}:zdx h c->zlI h rest->zlI h (.int x t::.int y u::.ref c::rest)
theorem zlI.mono{h h':Heap}(k:∀c,zdx h c->zdx h' c){l:List Value}(q:zlI h l):zlI h' l:=by
 induction q with
 |nil=>exact .nil
 |cons a _ ih=>exact .cons (k _ a) ih
theorem zlI.append{h:Heap}{m:List Value}(y:zlI h m){l:List Value}(q:zlI h l):zlI h (l++m):=by
 induction q with
 |nil=>exact y
 |cons a _ ih=>exact .cons a ih
theorem zlI.ok{h:Heap}(l:List Value)(q:zlI h l):TriplesOk l:=by
 induction q with
 |nil=>exact trivial
 |cons a _ ih=>exact ih
theorem zlI.among{h:Heap}{pos:Pos}{c:Value}{l:List Value}(q:zlI h l):codeAmong pos l=some c->∃c',c=.ref c'∧zdx h c':=by
 induction q with
 |nil=>intro e;simp[codeAmong]at e
 |cons a _ ih=>
  intro e;unfold codeAmong at e
  split at e
  ·obtain rfl:=yj e;exact⟨_,rfl,a⟩
  ·exact ih e
noncomputable def zqq(h':Heap)(o o':Obj):Prop:=(¬zjM o->∃sl,o'={o with slots:=sl}) ∧
 (∀vs,o.cls=.none->o.data=.fields vs->∃more,o'={o with data:=.fields (vs++more)}∧zlI h' more.toList)
theorem zqq.refl(h':Heap)(o:Obj):zqq h' o o:=⟨λ_=>⟨o.slots,rfl⟩,λvs _ e=>⟨#[],by rw[Array.append_empty,←e],.nil⟩⟩
noncomputable def zb7(F:List Addr)(g:Addr->Option Obj)(h':Heap):Prop:=∀b o,g b=some o->(b∉F->h'.get? b=some o)∧∃o',h'.get? b=some o'∧zqq h' o o'
noncomputable def zdU(F:List Addr)(h h':Heap):Prop:=zb7 F h.get? h'
theorem zb7.weakD{F:List Addr}{g:Addr->Option Obj}{h':Heap}(x:zb7 F g h'){b:Addr}{o:Obj}(e:g b=some o)(n:¬zjM o):∃o',h'.get? b=some o'∧o'.cls=o.cls∧o'.data=o.data∧o'.dict=o.dict:=by
 refine zcM ((x b o e).2) λo' q s _=>?_;left;obtain⟨sl,rfl⟩:=s n;exact⟨_,q,rfl,rfl,rfl⟩
theorem zb7.weak{F:List Addr}{g:Addr->Option Obj}{h':Heap}(x:zb7 F g h'){b:Addr}{o:Obj}(e:g b=some o)(n:¬zjM o):∃o',h'.get? b=some o'∧o'.cls=o.cls∧o'.data=o.data:=let ⟨o',a,b,c,_⟩:=x.weakD e n;⟨o',a,b,c⟩
theorem zdx.keep{F:List Addr}{h h':Heap}{c:Addr}(q:zdx h c)(x:zdU F h h'):zdx h' c:=by
 obtain⟨o,vs,t,h1,h2,h3,h4⟩:=q;obtain⟨o',k1,k2,k3⟩:=zb7.weak x h1 (zaY h2);exact⟨o',vs,t,k1,k2.trans h2,k3.trans h3,h4⟩
theorem zqq.trans{F:List Addr}{h2 h3:Heap}{o1 o2 o3:Obj}(y:zdU F h2 h3)(s:zqq h2 o1 o2)(t:zqq h3 o2 o3):zqq h3 o1 o3:=by
 refine⟨λn=>?_,λvs hc hd=>?_⟩
 ·refine zfc (s.1 n) λsl hzz=>?_
  subst hzz;obtain⟨sl',rfl⟩:=t.1 λq=>n q;exact⟨sl',rfl⟩
 ·refine zaO (s.2 vs hc hd) λm1 hzz a1=>?_
  subst hzz;refine zaO (t.2 (vs++m1) hc rfl) λm2 hzz a2=>?_;subst hzz;exact⟨m1++m2,by rw[Array.append_assoc],by rw[Array.toList_append];exact zlI.append a2 (a1.mono λc q=>q.keep y)⟩
theorem zb7.transL{F:List Addr}{L:Addr}{g:Addr->Option Obj}{h2 h3:Heap}(x:zb7 F g h2)(y:zdU (L::F) h2 h3)(n:g L=none):zb7 F g h3:=λb o e=>by
 left;obtain⟨x1,o',x2,s⟩:=x b o e;obtain⟨_,o'',y2,t⟩:=y b _ x2;refine⟨λhb=>(y b o (x1 hb)).1 λq=>?_,o'',y2,s.trans y t⟩;rcases yz.mp q with q|q
 ·rw[q,n]at e;exact zae e
 ·exact hb q
theorem zb7.trans{F:List Addr}{g:Addr->Option Obj}{h2 h3:Heap}(x:zb7 F g h2)(y:zdU F h2 h3):zb7 F g h3:=λb o e=>by
 left;obtain⟨x1,o',x2,s⟩:=x b o e;obtain⟨_,o'',y2,t⟩:=y b _ x2;exact⟨λhb=>(y b o (x1 hb)).1 hb,o'',y2,s.trans y t⟩
theorem zb7.of_keeps{F:List Addr}{g:Addr->Option Obj}{h':Heap}(k:∀b o,g b=some o->h'.get? b=some o):zb7 F g h':=λb o e=>⟨λ_=>k b o e,o,k b o e,.refl _ _⟩
theorem zb7.there{F:List Addr}{g:Addr->Option Obj}{h':Heap}(x:zb7 F g h'){b:Addr}{o:Obj}(e:g b=some o):(h'.get? b).isSome=true:=by
 obtain⟨o',q,_⟩:=(x b o e).2;rw[q];rfl
theorem zb7.new{F:List Addr}{g:Addr->Option Obj}{h':Heap}(x:zb7 F g h'){b:Addr}(e:h'.get? b=none):g b=none:=by
 cases q:g b with
 |none=>rfl
 |some o=>have:=x.there q;rw[e]at this;exact zaF this
theorem zb7.mono{F G:List Addr}{g:Addr->Option Obj}{h':Heap}(x:zb7 F g h')(s:∀b,b∈F->b∈G):zb7 G g h':=λb o e=>⟨λhb=>(x b o e).1 λq=>hb (s b q),(x b o e).2⟩
theorem zdU.refl(F:List Addr)(h:Heap):zdU F h h:=zb7.of_keeps λ_ _ e=>e
theorem zdU.trans{F:List Addr}{h1 h2 h3:Heap}(x:zdU F h1 h2)(y:zdU F h2 h3):zdU F h1 h3:=zb7.trans x y
theorem zdU.mono{F G:List Addr}{h h':Heap}(x:zdU F h h')(s:∀b,b∈F->b∈G):zdU G h h':=zb7.mono x s
theorem zdU.of_keeps{F:List Addr}{h h':Heap}(k:∀b o,h.get? b=some o->h'.get? b=some o):zdU F h h':=zb7.of_keeps k
theorem zdU.weak{F:List Addr}{h h':Heap}(x:zdU F h h'){b:Addr}{o:Obj}(e:h.get? b=some o)(n:¬zjM o):∃o',h'.get? b=some o'∧o'.cls=o.cls∧o'.data=o.data:=zb7.weak x e n
theorem zdU.weakD{F:List Addr}{h h':Heap}(x:zdU F h h'){b:Addr}{o:Obj}(e:h.get? b=some o)(n:¬zjM o):∃o',h'.get? b=some o'∧o'.cls=o.cls∧o'.data=o.data∧o'.dict=o.dict:=zb7.weakD x e n
theorem zdU.push{F:List Addr}(h:Heap)(o:Obj):zdU F h (h.push o):=.of_keeps λ_ _ e=>yE _ e
theorem zdU.new{F:List Addr}{h h':Heap}(x:zdU F h h'){b:Addr}(e:h'.get? b=none):h.get? b=none:=zb7.new x e
theorem zdU.there{F:List Addr}{h h':Heap}(x:zdU F h h'){b:Addr}{o:Obj}(e:h.get? b=some o):(h'.get? b).isSome=true:=zb7.there x e
theorem zdU.ns{F:List Addr}{h h':Heap}(x:zdU F h h'){a:Addr}{m}(n:h.Ns a m):h'.Ns a m:=by
 refine zrm n λo es ep ho hd r=>?_;obtain⟨o',h1,_,h2⟩:=x.weak ho (zdq λvs e=>by cases hd.symm.trans e);exact⟨o',es,ep,h1,h2.trans hd,r⟩
theorem zge{h h' base:Heap}{l:List Env}(f:h.FunFrames base l)(k:∀b∈l.filterMap (·.frame),∀o,h.get? b=some o->(∀vs,o.data≠.fields vs)->∃o',h'.get? b=some o'∧∀vs,o'.data≠.fields vs):h'.FunFrames base l:=by
 induction l with
 |nil=>exact trivial
 |cons env rest ih=>
  left;obtain⟨hk,⟨L,o,hf,hn,ho,hd⟩,hr⟩:=f;rw[List.filterMap_cons,hf]at k;refine zaO (k L yq o ho hd) λo' q1 q2=>?_;exact⟨hk,⟨L,o',hf,hn,q1,q2⟩,ih hr λb hb=>k b (yn _ hb)⟩
theorem zdU.funFrames{F:List Addr}{h h' base:Heap}(x:zdU F h h'){l:List Env}(f:h.FunFrames base l):h'.FunFrames base l:=
 f.of_keeps λb o e hd=>let ⟨o',h1,_,h2⟩:=x.weak e (zdq hd);⟨o',h1,h2⟩
theorem zdU.stays{F:List Addr}{h h' base:Heap}(x:zdU F h h')(f:∀b∈F,base.get? b=none)(s:base.StaysIn h):base.StaysIn h':=λb o e=>
 (x b o (s b o e)).1 λq=>by rw[f b q]at e;exact zae e
noncomputable def zeL(F:List Addr)(p:zrn)(h':Heap):Prop:=zb7 F p.get? h'
theorem zeL.trans{F:List Addr}{p:zrn}{h2 h3:Heap}(x:zeL F p h2)(y:zdU F h2 h3):zeL F p h3:=zb7.trans x y
theorem zeL.transL{F:List Addr}{L:Addr}{p:zrn}{h2 h3:Heap}(x:zeL F p h2)(y:zdU (L::F) h2 h3)(n:p.get? L=none):zeL F p h3:=zb7.transL x y n
theorem zeL.new{F:List Addr}{p:zrn}{h':Heap}(x:zeL F p h'){b:Addr}(e:h'.get? b=none):p.get? b=none:=zb7.new x e
theorem zeL.there{F:List Addr}{p:zrn}{h':Heap}(x:zeL F p h'){b:Addr}{o:Obj}(e:p.get? b=some o):(h'.get? b).isSome=true:=zb7.there x e
theorem zeL.stays{F:List Addr}{p:zrn}{h' base:Heap}(x:zeL F p h')(f:∀b∈F,base.get? b=none)(s:∀b o,base.get? b=some o->p.get? b=some o):base.StaysIn h':=λb o e=>
 (x b o (s b o e)).1 λq=>by rw[f b q]at e;exact zae e
theorem zeL.of_keeps{F:List Addr}{p:zrn}{h':Heap}(k:∀b o,p.get? b=some o->h'.get? b=some o):zeL F p h':=zb7.of_keeps k
noncomputable def TabAt(S:St0)(h:Heap):Prop:=∃ps,h.get? S.tab=some {cls:=.none,data:=.fields ps}∧zlI h ps.toList
theorem TabAt.keep{S:St0}{F:List Addr}{h h':Heap}(t:TabAt S h)(x:zdU F h h'):TabAt S h':=by
 refine zaO t λps h1 h2=>?_;obtain⟨_,o',k1,_,k2⟩:=x _ _ h1;refine zaO (k2 ps rfl rfl) λmore hzz k3=>?_;subst hzz;exact⟨ps++more,k1,by rw[Array.toList_append];exact zlI.append k3 (h2.mono λc q=>q.keep x)⟩
theorem TabAt.same{S:St0}{h h':Heap}(t:TabAt S h)(e:h'.get? S.tab=h.get? S.tab)(k:∀c o,h.get? c=some o->o.cls=.type "code"->(∃vs,o.data=.fields vs)->∃o',h'.get? c=some o'∧o'.cls=o.cls∧o'.data=o.data):TabAt S h':=by
 refine zaO t λps h1 h2=>?_;refine⟨ps,e.trans h1,h2.mono λc q=>?_⟩;obtain⟨o,vs,t,q1,q2,q3,q4⟩:=q;refine zcM (k c o q1 q2 ⟨vs,q3⟩) λo' k1 k2 k3=>?_;exact⟨o',vs,t,k1,k2.trans q2,k3.trans q3,q4⟩
structure zeY(S:St0)(h h':Heap)(P P':Addr->Prop):Prop where
 obj:∀b o,h.get? b=some o->¬P b->h'.get? b=some o
 sets:∀b o,S.base.get? b=some o->h.get? b=some o->h'.get? b=some o
 tup:∀b o vs n,h.get? b=some o->o.cls=.type "tuple"->o.data=.seq vs n->∃o',h'.get? b=some o'∧o'.cls=o.cls∧o'.data=o.data
 no:∀b,(h.get? b).isSome=true->P' b->P b
 code:∀b o,h.get? b=some o->((o.cls=.type "code"∧∃vs,o.data=.fields vs)∨∃fd,o.data=.func fd)->∃o',h'.get? b=some o'∧o'.cls=o.cls∧o'.data=o.data
theorem zeY.codeQ{S:St0}{h h':Heap}{P P':Addr->Prop}(k:zeY S h h' P P'){c:Addr}(q:zdx h c):zdx h' c:=by
 obtain⟨o,vs,t,q1,q2,q3,q4⟩:=q;obtain⟨o',k1,k2,k3⟩:=k.code c o q1 (.inl ⟨q2,vs,q3⟩);exact⟨o',vs,t,k1,k2.trans q2,k3.trans q3,q4⟩
theorem zeY.obj'{S:St0}{h h':Heap}{P P':Addr->Prop}(k:zeY S h h' P P'){b:Addr}{o:Obj}(e:h.get? b=some o)(n:¬P b):∃o',h'.get? b=some o'∧o'.cls=o.cls∧o'.data=o.data:=⟨o,k.obj b o e n,rfl,rfl⟩
theorem zeY.fields{S:St0}{h h':Heap}{P P':Addr->Prop}(k:zeY S h h' P P'){b:Addr}{o:Obj}{vs}(e:h.get? b=some o)(n:¬P b)(d:o.data=.fields vs):h'.get? b=some o:=k.obj b o e n
section
variable{S:St0}{h h':Heap}{P P':Addr->Prop}
theorem zcN.goes(k:zeY S h h' P P'){v:Value}{d:D}(x:zcN S h P v d):zcN S h' P' v d:=by
 refine zcN.rec (motive_1:=λv d _=>zcN S h' P' v d) (motive_2:=λvs ds _=>zaN S h' P' vs ds) ?_ ?_ ?_ ?_ ?_ ?_ ?_ ?_ ?_ ?_ ?_ ?_ ?_ ?_ ?_ ?_ x
 ·exact .none
 ·exact λb=>.bool b
 ·exact λi t=>.int i t
 ·exact λl t=>.str l t
 ·exact λa b c _ r=>let ⟨_,e,f,g⟩:=k.tup _ _ _ _ a b c;.tup e (f.trans b) (g.trans c) r
 ·exact λa n b c _ r=>let ⟨_,e,f,g⟩:=k.obj' a n;.lst e (λq=>n (k.no _ (ya _ a) q)) (f.trans b) (g.trans c) r
 ·exact λa b c=>.fset (k.sets _ _ b a) b c
 ·exact λa=>.fn a
 ·exact λa b c=>let ⟨_,e,_,g⟩:=k.code _ _ a (.inr ⟨_,b⟩);.lfn e (g.trans b) (k.codeQ c)
 ·exact λa n b c e=>.rng (k.fields a n rfl) (λq=>n (k.no _ (ya _ a) q)) b c e
 ·exact λa n b c d=>let ⟨_,d⟩:=d;let ⟨_,e,f,g⟩:=k.tup _ _ _ _ b c d;.exc (k.fields a n rfl) (λq=>n (k.no _ (ya _ a) q)) e (f.trans c) ⟨_,g.trans d⟩
 ·exact λa b c d n x y z=>let ⟨_,z⟩:=z;let ⟨_,e,f,g⟩:=k.tup _ _ _ _ x y z;.err (k.fields a n c) b c d (λq=>n (k.no _ (ya _ a) q)) e (f.trans y) ⟨_,g.trans z⟩
 ·exact λa b n c d=>.dct (k.obj _ _ a n) b (λq=>n (k.no _ (ya _ a) q)) c d
 ·exact λa b=>.tstr a b
 ·exact .nil
 ·exact λ_ _ a b=>.cons a b
theorem zaN.goes(k:zeY S h h' P P'):∀{vs ds},zaN S h P vs ds->zaN S h' P' vs ds
 |_,_,.nil=>.nil
 |_,_,.cons a b=>.cons (a.goes k) (b.goes k)
end
theorem zeY.less{S:St0}{h:Heap}{P P':Addr->Prop}(p:∀b,(h.get? b).isSome=true->P' b->P b):zeY S h h P P':=⟨λ_ _ e _=>e,λ_ _ _ e=>e,λ_ o _ _ e _ _=>⟨o,e,rfl,rfl⟩,p,λ_ o e _=>⟨o,e,rfl,rfl⟩⟩
theorem zeY.keep{S:St0}{F:List Addr}{h h':Heap}{P P':Addr->Prop}(x:zdU F h h')(f:∀b∈F,S.base.get? b=none)(g:∀b∈F,P b)(p:∀b,(h.get? b).isSome=true->P' b->P b):zeY S h h' P P':=
 ⟨λb o e n=>(x b o e).1 λq=>n (g b q),λb o e1 e2=>(x b o e2).1 (λq=>(by rw[f b q]at e1;exact zae e1)),λb o _ _ e c _=>x.weak e (zaY c),p,λb o e c=>x.weak e (zgZ c)⟩
theorem zaN.length{S:St0}{h:Heap}{P:Addr->Prop}:∀{vs:List Value}{ds:List D},zaN S h P vs ds->vs.length=ds.length
 |_,_,.nil=>rfl
 |_,_,.cons _ b=>ya Nat.succ b.length
theorem zaN.get{S:St0}{h:Heap}{P:Addr->Prop}:∀{vs:List Value}{ds:List D}{i:Nat}{d:D},zaN S h P vs ds->ds[i]?=some d->∃v,vs[i]?=some v∧zcN S h P v d
 |vs,ds,i,d,x,e=>by
  induction i generalizing vs ds with
  |zero=>
   cases x with
   |nil=>exact zae e
   |cons a b=>exact⟨_,rfl,yj e▸a⟩
  |succ i ih=>
   cases x with
   |nil=>exact zae e
   |cons a b=>exact ih _ _ b e
theorem zaN.append{S:St0}{h:Heap}{P:Addr->Prop}{vs' ds'}(b:zaN S h P vs' ds'):∀{vs:List Value}{ds:List D},zaN S h P vs ds->zaN S h P (vs++vs') (ds++ds')
 |vs,[],x=>by cases x;exact b
 |vs,d::ds,x=>by
  cases x with
  |cons a r=>exact .cons a (zaN.append b r)
inductive Slot where
 |unb
 |val (d:D)
 |own (ds:List D)
 |cel (o:Option D)
noncomputable abbrev Sl:=List Slot
inductive Res where
 |pl (d:D)
 |fr (ds:List D)
 |bo (i:Nat) (ds:List D)
noncomputable def Res.d:Res->D
 |.pl d=>d
 |.fr ds=>.lst ds
 |.bo _ ds=>.lst ds
noncomputable def Res.seal:Res->Sl->Sl
 |.bo i ds,st=>st.set i (.val (.lst ds))
 |_,st=>st
noncomputable abbrev Err:=EC×List Nat
@[reducible]noncomputable def oM{α:Type}(o:Option α)(Q:α->Prop):Prop:=match o with
 |some a=>Q a
 |none=>False
theorem oM_inv{α:Type}{o:Option α}{Q:α->Prop}(h:oM o Q):∃a,o=some a∧Q a:=by
 induction o with
 |none=>exact h.elim
 |some a=>exact⟨a,rfl,h⟩
@[irreducible]noncomputable def ifB(c:Bool)(P Q:Prop):Prop:=match c with
 |true=>P
 |false=>Q
theorem za8{c:Bool}{P Q:Prop}(h:c=true)(k:P):ifB c P Q:=by subst h;unfold ifB;exact k
theorem za7{c:Bool}{P Q:Prop}(h:c=false)(k:Q):ifB c P Q:=by subst h;unfold ifB;exact k
theorem ziG{P Q:Prop}(h:ifB true P Q):P:=by unfold ifB at h;exact h
theorem ziL{P Q:Prop}(h:ifB false P Q):Q:=by unfold ifB at h;exact h
@[reducible]noncomputable def zzS(c:Bool)(P:Prop):Prop:=match c with
 |true=>P
 |false=>False
@[reducible]noncomputable def zwG(c:Bool)(P:Prop):Prop:=match c with
 |true=>False
 |false=>P
theorem zji{c:Bool}{P:Prop}(h:zwG c P):c=false∧P:=by
 cases c with
 |true=>exact h.elim
 |false=>exact⟨rfl,h⟩
theorem zje{c:Bool}{P:Prop}(h:zzS c P):c=true∧P:=by
 cases c with
 |false=>exact h.elim
 |true=>exact⟨rfl,h⟩
noncomputable def D.str?:D->Option (List Nat)
 |.str l=>Option.some l
 |_=>Option.none
noncomputable def D.int?:D->Option Int
 |.int l=>Option.some l
 |_=>Option.none
noncomputable def D.bool?:D->Option Bool
 |.bool l=>Option.some l
 |_=>Option.none
noncomputable def D.tup?:D->Option (List D)
 |.tup l=>Option.some l
 |_=>Option.none
noncomputable def D.fset?:D->Option (List (List Nat))
 |.fset l=>Option.some l
 |_=>Option.none
noncomputable def D.lfn?:D->Option Unit
 |.lfn=>Option.some ()
 |_=>Option.none
noncomputable def D.exc?:D->Option (EC×List Nat)
 |.exc k m=>Option.some (k,m)
 |_=>Option.none
theorem D.str?_inv{d:D}{l}(h:d.str?=some l):d=.str l:=by cases d<;>(first|exact zae h|obtain rfl:=yj h);rfl
theorem D.int?_inv{d:D}{l}(h:d.int?=some l):d=.int l:=by cases d<;>(first|exact zae h|obtain rfl:=yj h);rfl
theorem D.bool?_inv{d:D}{l}(h:d.bool?=some l):d=.bool l:=by cases d<;>(first|exact zae h|obtain rfl:=yj h);rfl
theorem D.tup?_inv{d:D}{l}(h:d.tup?=some l):d=.tup l:=by cases d<;>(first|exact zae h|obtain rfl:=yj h);rfl
theorem D.fset?_inv{d:D}{l}(h:d.fset?=some l):d=.fset l:=by cases d<;>(first|exact zae h|obtain rfl:=yj h);rfl
theorem D.lfn?_inv{d:D}{l}(h:d.lfn?=some l):d=.lfn:=by cases d<;>(first|exact zae h|obtain rfl:=yj h);rfl
theorem D.exc?_inv{d:D}{l}(h:d.exc?=some l):d=.exc l.1 l.2:=by cases d<;>(first|exact zae h|obtain rfl:=yj h);rfl
@[reducible]noncomputable def zyO(d1 d2:D)(k:Int->Int->Prop):Prop:=oM d1.int? λx=>oM d2.int? λy=>k x y
theorem zed{d1 d2:D}{k:Int->Int->Prop}(h:zyO d1 d2 k):∃x y,d1=.int x∧d2=.int y∧k x y:=
 let ⟨x,h1,h⟩:=oM_inv h
 let ⟨y,h2,h⟩:=oM_inv h
 (zlH x y (D.int?_inv h1) (D.int?_inv h2) h)
@[reducible]noncomputable def zy8(l:List D)(P:Prop):Prop:=match l with
 |[]=>P
 |_::_=>False
structure Dc(α:Type) where
 of:D->Option α
 to:α->D
 inv:∀{d x},of d=some x->d=to x
@[reducible]noncomputable def cS:Dc (List Nat):=⟨D.str?,.str,D.str?_inv⟩
@[reducible]noncomputable def cI:Dc Int:=⟨D.int?,.int,D.int?_inv⟩
@[reducible]noncomputable def cB:Dc Bool:=⟨D.bool?,.bool,D.bool?_inv⟩
@[reducible]noncomputable def cF:Dc (List (List Nat)):=⟨D.fset?,.fset,D.fset?_inv⟩
noncomputable def D.lst?:D->Option (List D)
 |.lst l=>Option.some l
 |_=>Option.none
theorem D.lst?_inv{d:D}{l}(h:d.lst?=some l):d=.lst l:=by cases d<;>(first|exact zae h|obtain rfl:=yj h);rfl
@[reducible]noncomputable def cA:Dc (List D):=⟨D.lst?,.lst,D.lst?_inv⟩
@[reducible]noncomputable def zqN{α:Type}(A:Dc α)(l:List D)(k:α->List D->Prop):Prop:=match l with
 |[]=>False
 |d::l=>oM (A.of d) λx=>k x l
theorem zi4{l:List D}{P:Prop}(h:zy8 l P):l=[]∧P:=by
 cases l with
 |nil=>exact⟨rfl,h⟩
 |cons _ _=>exact h.elim
theorem zjX{α:Type}{A:Dc α}{l:List D}{k:α->List D->Prop}(h:zqN A l k):∃x r,l=A.to x::r∧k x r:=by
 induction l with
 |nil=>exact h.elim
 |cons d r=>
  refine zaO (oM_inv h) λx e h=>?_;exact zny x r (by rw[A.inv e]) h
@[reducible]noncomputable def one{α:Type}(A:Dc α)(l:List D)(k:α->Prop):Prop:=zqN A l λx l=>zy8 l (k x)
@[reducible]noncomputable def two{α β:Type}(A:Dc α)(B:Dc β)(l:List D)(k:α->β->Prop):Prop:=zqN A l λx l=>zqN B l λy l=>zy8 l (k x y)
theorem zfs{α:Type}{A:Dc α}{l:List D}{k:α->Prop}(h:one A l k):∃x,l=[A.to x]∧k x:=by
 left;obtain⟨x,r1,e1,h⟩:=zjX h;obtain⟨e2,h⟩:=zi4 h;exact⟨x,by rw[e1,e2],h⟩
@[reducible]noncomputable def zuA{α β:Type}(A:Dc α)(B:Dc β)(l:List D)(k:α->Prop)(k2:α->β->Prop):Prop:=zqN A l λx l=>match l with
 |[]=>k x
 |d::l=>oM (B.of d) λy=>zy8 l (k2 x y)
theorem zkg{α β:Type}{A:Dc α}{B:Dc β}{l:List D}{k:α->Prop}{k2:α->β->Prop}(h:zuA A B l k k2):(∃x,l=[A.to x]∧k x)∨∃x y,l=[A.to x,B.to y]∧k2 x y:=by
 left;refine zfw (zjX h) λx r1 e1 h=>?_
 induction r1 with
 |nil=>exact .inl (zbB x e1 h)
 |cons d r=>
  refine zaO (oM_inv h) λy e2 h=>?_;refine zb0 (zi4 h) λe3 h=>?_;exact .inr (zny x y (by simp only[e1,B.inv e2,e3]) h)
noncomputable def Res.pl?:Res->Option D
 |.pl d=>some d
 |_=>none
theorem Res.pl?_inv{r:Res}{d:D}(h:r.pl?=some d):r=.pl d:=by induction r<;>(first|exact zae h|cases h);rfl
@[reducible]noncomputable def Res.oM{α:Type}(r:Res)(g:D->Option α)(Q:α->Prop):Prop:=Mine.Internal.oM r.pl? λd=>Mine.Internal.oM (g d) Q
theorem Res.oM_inv{α:Type}{r:Res}{g:D->Option α}{Q:α->Prop}(h:r.oM g Q):∃d a,r=.pl d∧g d=some a∧Q a:=
 let ⟨d,h1,h⟩:=Mine.Internal.oM_inv h
 let ⟨a,h2,h⟩:=Mine.Internal.oM_inv h
 (zlH d a (Res.pl?_inv h1) h2 h)
theorem Res.str_inv{r:Res}{Q:List Nat->Prop}(h:r.oM D.str? Q):∃l,r=.pl (.str l)∧Q l:=let ⟨_,l,h1,h2,h⟩:=Res.oM_inv h;(zbB l (h1.trans (ya _ (D.str?_inv h2))) h)
theorem Res.int_inv{r:Res}{Q:Int->Prop}(h:r.oM D.int? Q):∃l,r=.pl (.int l)∧Q l:=let ⟨_,l,h1,h2,h⟩:=Res.oM_inv h;⟨l,h1.trans (ya _ (D.int?_inv h2)),h⟩
theorem Res.bool_inv{r:Res}{Q:Bool->Prop}(h:r.oM D.bool? Q):∃l,r=.pl (.bool l)∧Q l:=let ⟨_,l,h1,h2,h⟩:=Res.oM_inv h;(zbB l (h1.trans (ya _ (D.bool?_inv h2))) h)
theorem Res.tup_inv{r:Res}{Q:List D->Prop}(h:r.oM D.tup? Q):∃l,r=.pl (.tup l)∧Q l:=let ⟨_,l,h1,h2,h⟩:=Res.oM_inv h;(zbB l (h1.trans (ya _ (D.tup?_inv h2))) h)
theorem Res.fset_inv{r:Res}{Q:List (List Nat)->Prop}(h:r.oM D.fset? Q):∃l,r=.pl (.fset l)∧Q l:=let ⟨_,l,h1,h2,h⟩:=Res.oM_inv h;(zbB l (h1.trans (ya _ (D.fset?_inv h2))) h)
theorem Res.lfn_inv{r:Res}{Q:Unit->Prop}(h:r.oM D.lfn? Q):r=.pl .lfn∧Q ():=let ⟨_,_,h1,h2,h⟩:=Res.oM_inv h;⟨h1.trans (ya _ (D.lfn?_inv h2)),h⟩
theorem Res.exc_inv{r:Res}{Q:EC×List Nat->Prop}(h:r.oM D.exc? Q):∃k m,r=.pl (.exc k m)∧Q (k,m):=let ⟨_,l,h1,h2,h⟩:=Res.oM_inv h;(zny l.1 l.2 (h1.trans (ya _ (D.exc?_inv h2))) h)
noncomputable def Slot.val?:Slot->Option D
 |.val d=>some d
 |_=>none
noncomputable def Slot.own?:Slot->Option (List D)
 |.own d=>some d
 |_=>none
theorem Slot.val?_inv{d:Slot}{l}(h:d.val?=some l):d=.val l:=by induction d<;>(first|exact zae h|cases h);rfl
theorem Slot.own?_inv{d:Slot}{l}(h:d.own?=some l):d=.own l:=by induction d<;>(first|exact zae h|cases h);rfl
@[reducible]noncomputable def atV(st:Sl)(i:Nat)(Q:D->Prop):Prop:=oM st[i]? λx=>oM x.val? Q
@[reducible]noncomputable def atO(st:Sl)(i:Nat)(Q:List D->Prop):Prop:=oM st[i]? λx=>oM x.own? Q
theorem zyf{st:Sl}{i:Nat}{Q:D->Prop}(h:atV st i Q):∃d,st[i]?=some (.val d)∧Q d:=
 let ⟨_,h1,h⟩:=oM_inv h
 let ⟨d,h2,h⟩:=oM_inv h
 (zbB d (h1.trans (ya _ (Slot.val?_inv h2))) h)
theorem zs5{st:Sl}{i:Nat}{Q:List D->Prop}(h:atO st i Q):∃d,st[i]?=some (.own d)∧Q d:=
 let ⟨_,h1,h⟩:=oM_inv h
 let ⟨d,h2,h⟩:=oM_inv h
 (zbB d (h1.trans (ya _ (Slot.own?_inv h2))) h)
noncomputable abbrev PE:=(Res->Sl->Prop)->(Err->Sl->Prop)->Sl->Prop
inductive Fl where
 |next
 |brk
 |cont
 |ret (d:D)
noncomputable abbrev PS:=(Fl->Sl->Prop)->(Err->Sl->Prop)->Sl->Prop
structure zak where
 scope:Scope
 names:List Str
 rank:Nat
 calm:Bool
 inner:Bool:=false
 cells:List Str:=[]
noncomputable def zak.all(sh:zak):List Str:=sh.names++sh.cells
theorem zak.all_of{sh:zak}{i:Nat}{x:Str}(h:sh.names[i]?=some x):sh.all[i]?=some x:=(List.getElem?_append_left (yp.mp h).1).trans h
inductive zB6(S:St0)(cd:Value)(c:Addr)(o:Obj)(vs:Array Value)(file:Str)(tf:Tok)(flags:Int)(tg:Tok)(inF:Bool)(text:Int)(tt:Tok):Prop
 |mk (qa:cd=.ref c) (qb:S.base.get? c=some o) (qc:o.cls=.type "code") (qd:o.data=.fields vs) (qe:vs[11]?=some (.ref S.tab)) (qf:vs.getD 18 .none=.str file tf) (qg:vs.getD 7 .none=.int flags tg) (qh:vs.getD 9 .none=.bool inF) (qi:vs.getD 10 .none=.int text tt)
noncomputable def zeT(S:St0)(cd:Value):Prop:=∃c o vs file tf flags tg inF text tt,zB6 S cd c o vs file tf flags tg inF text tt
structure Act where
 A:Around
 env:Env
 outer:List Env
 L:Addr
 h₀:zrn
 P:Addr->Prop
 os:OsState
 hands:List Value
 T:Addr
 fr:List Env
noncomputable def Act.F(a:Act):List Addr:=a.T::a.outer.filterMap (·.frame)
structure Act.Fits(S:St0)(a:Act)(sh:zak):Prop where
 scope:a.env.scope=sh.scope
 kind:sh.scope.kind=.function
 loc:∀x∈sh.names,sh.scope.names.lookup x=some .local
 nodup:sh.all.Nodup
 cellk:∀x∈sh.cells,sh.scope.names.lookup x=some .cell
 celld:∀x∈sh.cells,∃c,a.env.cells.lookup x=some c
 nocell:∀x∈sh.names,a.env.cells.lookup x=none
 glob:a.env.globals=mainGlobals
 blt:a.env.builtins=builtinsNs
 locals:a.env.locals=a.L
 fronts:a.A.frames=some a.fr
 LFsub:∀b∈a.fr.filterMap (·.frame),b∈a.L::a.F
 outs:∀e∈a.outer,e∈a.fr
 FP:∀b∈a.F,a.P b
 nobase:S.base.get? a.L=none
 noh₀:a.h₀.get? a.L=none
 stays:∀b o,S.base.get? b=some o->a.h₀.get? b=some o
 depth:a.A.depth+sh.rank≤900
 units:a.A.units+sh.rank≤9000
 guards:a.A.guards=some []
 hand:a.A.handled=none∨∃b,Value.ref b∈a.hands∧a.A.handled=some (.ref b)
 calm:sh.calm=true->a.A.handled=none∧a.hands=[]
 Pdom:∀b,a.P b->(a.h₀.get? b).isSome=true
 outer:∀b∈a.F,(a.h₀.get? b).isSome=true
 tab:a.T=S.tab
 tabP:a.P a.T
 tabB:S.base.get? a.T=none
 code:sh.inner=true->zeT S a.env.code∧a.env.qual=ofString "suffixed_err.<locals>."
 codeA:sh.calm=true->∃c o vs,a.env.code=.ref c∧S.base.get? c=some o∧o.data=.fields vs
inductive Act.FitsS(S:St0)(a:Act)(sh:zak):Prop
 |mk (qa:a.Fits S sh) (qb:a.env.frame=some a.L) (qc:a.fr=a.env::a.outer)
theorem Act.FitsS.f{S:St0}{a:Act}{sh:zak}(g:a.FitsS S sh):a.Fits S sh:=by cases g;assumption
theorem Act.FitsS.frame{S:St0}{a:Act}{sh:zak}(g:a.FitsS S sh):a.env.frame=some a.L:=by cases g;assumption
theorem Act.FitsS.fr{S:St0}{a:Act}{sh:zak}(g:a.FitsS S sh):a.fr=a.env::a.outer:=by cases g;assumption
theorem Act.FitsS.sub{S:St0}{a:Act}{sh:zak}(g:a.FitsS S sh):∀b∈(a.env::a.outer).filterMap (·.frame),b∈a.L::a.F:=g.fr▸g.f.LFsub
theorem Act.FitsS.frames{S:St0}{a:Act}{sh:zak}(g:a.FitsS S sh):a.A.frames=some (a.env::a.outer):=g.fr▸g.f.fronts
inductive zfL(h:Heap)(X:Addr->Prop):Value->Prop
 |nil:zfL h X .none
 |cons {b o vs c}:h.get? b=some o->¬X b->o.cls≠.none->o.data=.fields vs->vs[2]?=some c->zfL h X c->zfL h X (.ref b)
noncomputable def Pv(a:Act)(X:Addr->Prop)(ow:Nat->Option Addr)(b:Addr):Prop:=a.P b∨b=a.L∨X b∨∃i,ow i=some b
inductive zC1(S:St0)(h:Heap)(P:Addr->Prop)(v:Option Value)(ow:Option Addr)(ds:List D)(b:Addr)(o:Obj)(vs:Array Value)(n:Nat):Prop
 |mk (qa:ow=some b) (qb:v=some (.ref b)) (qc:h.get? b=some o) (qd:o.cls=.type "list") (qe:o.data=.seq vs n) (qf:zaN S h P vs.toList ds) (qg:o.dict=none)
theorem zkn{o:Obj}{w:Option Value}(h:o.data=.cell w):¬zjM o:=zdq λvs e=>nomatch h.symm.trans e
noncomputable def zzI(S:St0)(h:Heap)(P:Addr->Prop)(w:Option Value):Option D->Prop
 |none=>w=none
 |some d=>∃x,w=some x∧zcN S h P x d
theorem zzI.goes{S:St0}{h h':Heap}{P P':Addr->Prop}(k:zeY S h h' P P'){w:Option Value}:∀{o:Option D},zzI S h P w o->zzI S h' P' w o
 |none,q=>q
 |some _,q=>q.elim λx q=>⟨x,q.1,q.2.goes k⟩
inductive zCU(S:St0)(h:Heap)(P:Addr->Prop)(v:Option Value)(ow:Option Addr)(d:Option D)(b:Addr)(o:Obj)(w:Option Value):Prop
 |mk (qa:ow=some b) (qb:v=some (.ref b)) (qc:h.get? b=some o) (qd:o.data=.cell w) (qe:zzI S h P w d)
noncomputable def zh1(S:St0)(h:Heap)(P:Addr->Prop)(v:Option Value)(ow:Option Addr):Slot->Prop
 |.unb=>ow=none
 |.val d=>ow=none∧∃x,v=some x∧zcN S h P x d
 |.own ds=>∃b o vs n,zC1 S h P v ow ds b o vs n
 |.cel d=>∃b o w,zCU S h P v ow d b o w
noncomputable def Act.ov(a:Act)(m:Str->Option Value)(x:Str):Option Value:=match a.env.cells.lookup x with
 |some c=>some (.ref c)
 |none=>m x
theorem Act.Fits.ovn{S:St0}{a:Act}{sh:zak}(f:a.Fits S sh){x:Str}(hx:x∈sh.names)(m:Str->Option Value):a.ov m x=m x:=by
 unfold Act.ov;rw[f.nocell x hx]
theorem zBB{a:Act}{m:Str->Option Value}{x y:Str}{u:Option Value}(h:x≠y):a.ov (λz=>if z=y then u else m z) x=a.ov m x:=by
 unfold Act.ov;cases a.env.cells.lookup x with
 |some c=>rfl
 |none=>exact if_neg h
noncomputable def zBn(S:St0)(sh:zak)(h:Heap)(P:Addr->Prop)(ow:Nat->Option Addr)(m:Str->Option Value)(st:Sl):Prop:=
 st.length=sh.all.length∧∀i x sl,sh.all[i]?=some x->st[i]?=some sl->zh1 S h P (m x) (ow i) sl
structure Rel(S:St0)(sh:zak)(a:Act)(X:Addr->Prop)(ow:Nat->Option Addr)(st:Sl)(s:Shared):Prop where
 slots:∃m,s.heap.Ns a.L m∧zBn S sh s.heap (Pv a X ow) ow (a.ov m) st
 keep:zeL a.F a.h₀ s.heap
 frames:s.heap.FunFrames S.base a.fr
 own:∀i b,ow i=some b->i<sh.all.length∧a.h₀.get? b=none∧¬X b∧b≠a.L
 inj:∀i j b,ow i=some b->ow j=some b->i=j
 gens:s.gens=#[]
 os:s.os=a.os
 hands:∀v∈a.hands,zfL s.heap X v
 tab:TabAt S s.heap
noncomputable def noX:Addr->Prop:=λ_=>False
inductive zCZ(h:Heap)(tp:Value)(m:List Nat)(t:Addr)(tk:Tok)(o:Obj)(n:Nat):Prop
 |mk (qa:tp=.ref t) (qb:h.get? t=some o) (qc:o.cls=.type "tuple") (qd:o.data=.seq #[.str (mk m) tk] n)
noncomputable def zBk(h:Heap)(tp:Value)(x:Err):Prop:=x.1=.toml->∃t tk o n,zCZ h tp x.2 t tk o n
theorem zBk.mono{h h':Heap}{tp:Value}{x:Err}(A:zBk h tp x)(k:∀t o vs n,h.get? t=some o->o.cls=.type "tuple"->o.data=.seq vs n->∃o',h'.get? t=some o'∧o'.cls=o.cls∧o'.data=o.data):zBk h' tp x:=λhx=>
 let ⟨t,tk,o,n,e,h1,h2,h3⟩:=A hx
 let ⟨o',k1,k2,k3⟩:=k t o _ n h1 h2 h3
 ⟨t,tk,o',n,e,k1,k2.trans h2,k3.trans h3⟩
inductive TbA(h:Heap)(L b:Addr)(oT:Obj)(ts:Array Value)(fl:Value):Prop
 |mk (qa:h.get? b=some oT) (qb:oT.cls=.type "traceback") (qc:oT.data=.fields ts) (qd:ts[3]?=some fl) (qe:fl=.none∨fl=rawInt L)
inductive zCV(S:St0)(h:Heap)(L:Addr)(e:Addr)(T:Option Addr)(x:Err)(oe:Obj)(vs:Array Value)(tp c:Value):Prop
 |mk (qa:h.get? e=some oe) (qb:oe.cls=S.cls x.1) (qc:oe.data=.fields vs) (qd:vs[0]?=some tp) (qe:vs[2]?=some c) (qf:zfL h (λb=>b=e∨T=some b) c) (qg:zBk h tp x) (qh:match T with|none=>vs[1]?=some .none|some b=>vs[1]?=some (.ref b)∧b≠e∧∃oT ts fl,TbA h L b oT ts fl)
structure zlk(S:St0)(h:Heap)(L:Addr)(e:Addr)(T:Option Addr)(x:Err):Prop where
 obj:∃oe vs tp c,zCV S h L e T x oe vs tp c
noncomputable def zkw(e:Addr)(T:Option Addr):Addr->Prop:=λb=>b=e∨T=some b
noncomputable def Frz(st st':Sl):Prop:=st'.length=st.length∧∀i:Nat,st'[i]?=st[i]?∨∃ds,st[i]?=some (.own ds)∧st'[i]?=some (.val (.lst ds))
noncomputable def restr(ow:Nat->Option Addr)(st:Sl)(i:Nat):Option Addr:=match st[i]? with
 |some (.own _)=>ow i
 |some (.cel _)=>ow i
 |_=>none
structure Step(a:Act)(st st':Sl)(s s':Shared):Prop where
 frz:Frz st st'
 keep:zdU (a.L::a.F) s.heap s'.heap
 gens:s'.gens=s.gens
 os:s'.os=s.os
inductive FrA(S:St0)(a:Act)(ow:Nat->Option Addr)(hs h:Heap)(v:Value)(ds:List D)(b:Addr)(o:Obj)(vs:Array Value)(n:Nat):Prop
 |mk (qa:v=.ref b) (qb:hs.get? b=none) (qc:h.get? b=some o) (qd:o.cls=.type "list") (qe:o.data=.seq vs n) (qf:zaN S h (Pv a (λc=>c=b) ow) vs.toList ds) (qg:o.dict=none)
inductive BoA(S:St0)(a:Act)(ow:Nat->Option Addr)(st:Sl)(h:Heap)(v:Value)(i:Nat)(ds:List D)(b:Addr)(o:Obj)(vs:Array Value)(n:Nat):Prop
 |mk (qa:v=.ref b) (qb:h.get? b=some o) (qc:o.cls=.type "list") (qd:o.data=.seq vs n) (qe:zaN S h (Pv a noX ow) vs.toList ds) (qf:(ow i=some b∧st[i]?=some (.own ds))∨(¬Pv a noX ow b∧st[i]?=some (.val (.lst ds))))
noncomputable def zhS(S:St0)(a:Act)(ow:Nat->Option Addr)(st:Sl)(hs h:Heap)(v:Value):Res->Prop
 |.pl d=>zcN S h (Pv a noX ow) v d∧New hs v d
 |.fr ds=>∃b o vs n,FrA S a ow hs h v ds b o vs n
 |.bo i ds=>∃b o vs n,BoA S a ow st h v i ds b o vs n
inductive zzN(S:St0)(a:Act)(hs:Heap)(s':Shared)(ev:Value)(x:Err)(e:Addr)(T:Option Addr):Prop
 |mk (qa:ev=.ref e) (qb:hs.get? e=none) (qc:∀b,T=some b->hs.get? b=none) (qd:zlk S s'.heap a.L e T x)
noncomputable def zz5(S:St0)(a:Act)(hs:Heap)(s':Shared)(ev:Value)(x:Err):Prop:=
 ∃e T,zzN S a hs s' ev x e T
inductive zCC(S:St0)(a:Act)(ow:Nat->Option Addr)(st:Sl)(s:Shared)(Q:Res->Sl->Prop)(v:Value)(s':Shared)(r:Res)(st':Sl):Prop
 |mk (qa:Q r st') (qb:Step a st st' s s') (qc:zhS S a (restr ow st') st' s.heap s'.heap v r)
noncomputable def OkE(S:St0)(a:Act)(ow:Nat->Option Addr)(st:Sl)(s:Shared)(Q:Res->Sl->Prop):Value->Shared->Prop:=λv s'=>
 ∃r st',zCC S a ow st s Q v s' r st'
inductive zBz(S:St0)(a:Act)(st:Sl)(s:Shared)(X:Err->Sl->Prop)(ev:Value)(s':Shared)(x:Err)(st':Sl):Prop
 |mk (qa:X x st') (qb:Step a st st' s s') (qc:zz5 S a s.heap s' ev x)
noncomputable def zfA(S:St0)(a:Act)(st:Sl)(s:Shared)(X:Err->Sl->Prop):Value->Shared->Prop:=λev s'=>
 ∃x st',zBz S a st s X ev s' x st'
noncomputable def zau(S:St0)(sh:zak)(e:Expr)(c:PE):Prop:=
 ∀(a:Act)(ow:Nat->Option Addr)(st:Sl)(s:Shared)(Q:Res->Sl->Prop)(X:Err->Sl->Prop),a.Fits S sh->Rel S sh a noX ow st s->c Q X st ->
  wpAny (model S.prog S.w) a.A (eval e a.env) (OkE S a ow st s Q) (zfA S a st s X) s
noncomputable def zdg(S:St0)(sh:zak)(e:Expr)(c:(Bool->Sl->Prop)->(Err->Sl->Prop)->Sl->Prop):Prop:=
 ∀(a:Act)(ow:Nat->Option Addr)(st:Sl)(s:Shared)(Q:Bool->Sl->Prop)(X:Err->Sl->Prop),a.Fits S sh->Rel S sh a noX ow st s->c Q X st ->
  wpAny (model S.prog S.w) a.A (isTrue e a.env (eval e a.env)) (λb s'=>∃st',Q b st'∧Step a st st' s s') (zfA S a st s X) s
noncomputable def zAn(S:St0)(h₀:zrn)(h:Heap)(P:Addr->Prop):Flow->Fl->Prop
 |.next,.next=>True
 |.brk,.brk=>True
 |.cont,.cont=>True
 |.ret v,.ret d=>zcN S h P v d∧zCS h₀ v d
 |_,_=>False
inductive zCE(S:St0)(sh:zak)(a:Act)(Q:Fl->Sl->Prop)(f:Flow)(s':Shared)(fl:Fl)(ow':Nat->Option Addr)(st':Sl):Prop
 |mk (qa:Q fl st') (qb:Rel S sh a noX ow' st' s') (qc:zAn S a.h₀ s'.heap (Pv a noX ow') f fl)
noncomputable def OkS(S:St0)(sh:zak)(a:Act)(Q:Fl->Sl->Prop):Flow->Shared->Prop:=λf s'=>
 ∃fl ow' st',zCE S sh a Q f s' fl ow' st'
inductive zCW(S:St0)(sh:zak)(a:Act)(X:Err->Sl->Prop)(ev:Value)(s':Shared)(x:Err)(ow':Nat->Option Addr)(st':Sl)(e:Addr)(T:Option Addr):Prop
 |mk (qa:X x st') (qb:Rel S sh a (zkw e T) ow' st' s') (qc:ev=.ref e) (qd:a.h₀.get? e=none) (qe:∀b,T=some b->a.h₀.get? b=none) (qf:zlk S s'.heap a.L e T x)
noncomputable def zlv(S:St0)(sh:zak)(a:Act)(X:Err->Sl->Prop):Value->Shared->Prop:=λev s'=>
 ∃x ow' st' e T,zCW S sh a X ev s' x ow' st' e T
noncomputable def zbk(S:St0)(sh:zak)(t:Stmt)(c:PS):Prop:=
 ∀(a:Act)(ow:Nat->Option Addr)(st:Sl)(s:Shared)(Q:Fl->Sl->Prop)(X:Err->Sl->Prop),a.FitsS S sh->Rel S sh a noX ow st s->c Q X st ->
  wpAny (model S.prog S.w) a.A (exec t a.env) (OkS S sh a Q) (zlv S sh a X) s
noncomputable def zaG(S:St0)(sh:zak)(t:List Stmt)(c:PS):Prop:=
 ∀(a:Act)(ow:Nat->Option Addr)(st:Sl)(s:Shared)(Q:Fl->Sl->Prop)(X:Err->Sl->Prop),a.FitsS S sh->Rel S sh a noX ow st s->c Q X st ->
  wpAny (model S.prog S.w) a.A (execs t a.env) (OkS S sh a Q) (zlv S sh a X) s
noncomputable def zeg(n:Nat)(S:St0)(sh:zak)(e:Expr)(c:PE):Prop:=
 ∀(a:Act)(ow:Nat->Option Addr)(st:Sl)(s:Shared)(Q:Res->Sl->Prop)(X:Err->Sl->Prop),n≤s.toks->a.Fits S sh->Rel S sh a noX ow st s->c Q X st ->
  wpAny (model S.prog S.w) a.A (eval e a.env) (OkE S a ow st s Q) (zfA S a st s X) s
noncomputable def zty(n:Nat)(S:St0)(sh:zak)(e:Expr)(c:(Bool->Sl->Prop)->(Err->Sl->Prop)->Sl->Prop):Prop:=
 ∀(a:Act)(ow:Nat->Option Addr)(st:Sl)(s:Shared)(Q:Bool->Sl->Prop)(X:Err->Sl->Prop),n≤s.toks->a.Fits S sh->Rel S sh a noX ow st s->c Q X st ->
  wpAny (model S.prog S.w) a.A (isTrue e a.env (eval e a.env)) (λb s'=>∃st',Q b st'∧Step a st st' s s') (zfA S a st s X) s
noncomputable def zix(n:Nat)(S:St0)(sh:zak)(t:Stmt)(c:PS):Prop:=
 ∀(a:Act)(ow:Nat->Option Addr)(st:Sl)(s:Shared)(Q:Fl->Sl->Prop)(X:Err->Sl->Prop),n≤s.toks->a.FitsS S sh->Rel S sh a noX ow st s->c Q X st ->
  wpAny (model S.prog S.w) a.A (exec t a.env) (OkS S sh a Q) (zlv S sh a X) s
noncomputable def zdj(n:Nat)(S:St0)(sh:zak)(t:List Stmt)(c:PS):Prop:=
 ∀(a:Act)(ow:Nat->Option Addr)(st:Sl)(s:Shared)(Q:Fl->Sl->Prop)(X:Err->Sl->Prop),n≤s.toks->a.FitsS S sh->Rel S sh a noX ow st s->c Q X st ->
  wpAny (model S.prog S.w) a.A (execs t a.env) (OkS S sh a Q) (zlv S sh a X) s
section
variable{S:St0}{sh:zak}{n:Nat}
theorem zau.t{e:Expr}{c:PE}(H:zau S sh e c):zeg n S sh e c:=λa ow st s Q X _ f R q=>H a ow st s Q X f R q
theorem zeg.s{e:Expr}{c:PE}(H:zeg 0 S sh e c):zau S sh e c:=λa ow st s Q X f R q=>H a ow st s Q X (yb _) f R q
theorem zdg.t{e:Expr}{c}(H:zdg S sh e c):zty n S sh e c:=λa ow st s Q X _ f R q=>H a ow st s Q X f R q
theorem zty.s{e:Expr}{c}(H:zty 0 S sh e c):zdg S sh e c:=λa ow st s Q X f R q=>H a ow st s Q X (yb _) f R q
theorem zbk.t{e:Stmt}{c:PS}(H:zbk S sh e c):zix n S sh e c:=λa ow st s Q X _ f R q=>H a ow st s Q X f R q
theorem zix.s{e:Stmt}{c:PS}(H:zix 0 S sh e c):zbk S sh e c:=λa ow st s Q X f R q=>H a ow st s Q X (yb _) f R q
theorem zaG.t{e:List Stmt}{c:PS}(H:zaG S sh e c):zdj n S sh e c:=λa ow st s Q X _ f R q=>H a ow st s Q X f R q
theorem zdj.s{e:List Stmt}{c:PS}(H:zdj 0 S sh e c):zaG S sh e c:=λa ow st s Q X f R q=>H a ow st s Q X (yb _) f R q
end
section
theorem Frz.refl(st:Sl):Frz st st:=⟨rfl,λ_=>.inl rfl⟩
theorem Frz.trans{a b c:Sl}(x:Frz a b)(y:Frz b c):Frz a c:=⟨y.1.trans x.1,λi=>by
 left;rcases x.2 i with p|⟨ds,p,p'⟩
 ·rcases y.2 i with q|⟨ds,q,q'⟩
  ·exact .inl (q.trans p)
  ·exact .inr (zbB ds (p▸q) q')
 ·rcases y.2 i with q|⟨ds',q,q'⟩
  ·exact .inr (zbB ds p (q.trans p'))
  ·cases p'.symm.trans q⟩
theorem Frz.own{st st':Sl}(x:Frz st st'){i:Nat}{ds}(e:st'[i]?=some (.own ds)):st[i]?=some (.own ds):=by
 rcases x.2 i with p|⟨_,_,p⟩
 ·exact p▸e
 ·rw[p]at e;cases e
theorem Frz.cel{st st':Sl}(x:Frz st st'){i:Nat}{o}(e:st'[i]?=some (.cel o)):st[i]?=some (.cel o):=by
 rcases x.2 i with p|⟨_,_,p⟩
 ·exact p▸e
 ·rw[p]at e;cases e
theorem zax{ow:Nat->Option Addr}{st st':Sl}(x:Frz st st'):restr (restr ow st) st'=restr ow st':=by
 funext i
 unfold restr;rcases e:st'[i]? with _|sl
 ·rfl
 ·induction sl with
  |own ds=>simp[x.own e]
  |cel o=>simp[x.cel e]
  |_=>rfl
theorem zca{ow:Nat->Option Addr}{st:Sl}{i:Nat}{b:Addr}(h:restr ow st i=some b):ow i=some b:=by
 unfold restr at h
 split at h
 ·exact h
 ·exact h
 ·exact zae h
theorem Pv.restr{a:Act}{X:Addr->Prop}{ow:Nat->Option Addr}{st:Sl}{b:Addr}(h:Pv a X (restr ow st) b):Pv a X ow b:=by
 rcases h with h|h|h|⟨i,h⟩
 ·exact .inl h
 ·exact .inr (.inl h)
 ·exact .inr (.inr (.inl h))
 ·exact .inr (.inr (.inr ⟨i,zca h⟩))
theorem Step.refl(a:Act)(st:Sl)(s:Shared):Step a st st s s:=⟨.refl _,.refl _ _,rfl,rfl⟩
theorem Step.trans{a:Act}{st st₁ st₂:Sl}{s s₁ s₂:Shared}(x:Step a st st₁ s s₁)(y:Step a st₁ st₂ s₁ s₂):Step a st st₂ s s₂:=
 ⟨x.frz.trans y.frz,x.keep.trans y.keep,y.gens.trans x.gens,y.os.trans x.os⟩
theorem zft{h base:Heap}:∀{l:List Env},h.FunFrames base l->∀b∈l.filterMap (·.frame),base.get? b=none∧∀o vs,h.get? b=some o->o.data≠.fields vs:=λf b hb=>by
 left;obtain⟨h1,o,h2,h3⟩:=f.mem hb;exact⟨h1,λo' vs e=>by rw[h2]at e;obtain rfl:=yj e;exact h3 vs⟩
theorem Act.Fits.inP{S:St0}{a:Act}{sh:zak}(f:a.Fits S sh){X:Addr->Prop}{ow:Nat->Option Addr}:∀b∈a.L::a.F,Pv a X ow b:=λb hb=>by
 rcases yz.mp hb with q|q
 ·exact .inr (.inl q)
 ·exact .inl (f.FP b q)
theorem Act.Fits.inF{S:St0}{a:Act}{sh:zak}(f:a.Fits S sh){b:Addr}(h:b∈a.outer.filterMap (·.frame)):b∈a.fr.filterMap (·.frame):=by
 obtain⟨e,h1,h2⟩:=List.mem_filterMap.mp h;exact List.mem_filterMap.mpr ⟨e,f.outs e h1,h2⟩
section
variable{S:St0}{sh:zak}{a:Act}{X:Addr->Prop}{ow:Nat->Option Addr}{st:Sl}{s:Shared}
theorem Rel.nobT(f:a.Fits S sh)(r:Rel S sh a X ow st s):∀b∈a.L::a.F,b≠a.T->∀o vs,s.heap.get? b=some o->o.data≠.fields vs:=λb hb hT o vs e=>by
 rcases yz.mp hb with q|q
 ·obtain⟨m,⟨o',es,ep,w1,w2,_⟩,_⟩:=r.slots
  rw[q,w1]at e;obtain rfl:=yj e;rw[w2];nofun
 ·rcases yz.mp q with q|q
  ·exact absurd q hT
  ·exact(zft r.frames b (f.inF q)).2 o vs e
theorem Rel.nob(f:a.Fits S sh)(r:Rel S sh a X ow st s):∀b∈a.L::a.F,S.base.get? b=none∧∀o vs,s.heap.get? b=some o->o.cls≠.none->o.data≠.fields vs:=λb hb=>by
 by_cases hT:b=a.T
 ·refine⟨hT▸f.tabB,λo vs e hc=>absurd ?_ hc⟩
  refine zaO r.tab λps h1 _=>?_;simp only[hT,f.tab,h1]at e;obtain rfl:=yj e;rfl
 ·refine⟨?_,λo vs e _=>r.nobT f b hb hT o vs e⟩
  rcases yz.mp hb with q|q
  ·exact q▸f.nobase
  ·rcases yz.mp q with q|q
   ·exact absurd q hT
   ·exact(zft r.frames b (f.inF q)).1
theorem Rel.goes(f:a.Fits S sh)(r:Rel S sh a X ow st s){h':Heap}{P P':Addr->Prop}(k:zdU (a.L::a.F) s.heap h')(p:∀b,(s.heap.get? b).isSome=true->P' b->P b)(hT:∀b∈a.L::a.F,P b:=by exact f.inP):zeY S s.heap h' P P':=
 .keep k (λb hb=>(r.nob f b hb).1) hT p
theorem zfL.keep{h h':Heap}{F:List Addr}(k:zdU F h h')(g:∀b∈F,∀o vs,h.get? b=some o->o.cls≠.none->o.data≠.fields vs):∀{v},zfL h X v->zfL h' X v
 |v,x=>by
  induction x with
  |nil=>exact .nil
  |cons a n hc b c _ ih=>exact .cons ((k _ _ a).1 λq=>g _ q _ _ a hc b) n hc b c ih
theorem Rel.own_there(R:Rel S sh a X ow st s){i:Nat}{b:Addr}(q:ow i=some b):(s.heap.get? b).isSome=true:=by
 refine zcM R.slots λm _ hl hsl=>?_;left;refine zb0 (R.own i b q) λhi _=>?_;have hi':i<st.length:=hl▸hi;have:=hsl i _ _ (yu hi) (yu hi');revert this;cases st[i]with
 |unb=>intro z;have z:ow i=none:=z;exact zae (z.symm.trans q)
 |val d=>intro z;cases z.1.symm.trans q
 |own ds=>
  rintro⟨b',o,vs,n,z1,_,z3,_⟩;rw[z1]at q;obtain rfl:=yj q;exact ya _ z3
 |cel o=>
  rintro⟨b',o,w,z1,_,z3,_⟩;rw[z1]at q;obtain rfl:=yj q;exact ya _ z3
theorem zfL.less{h:Heap}{X X':Addr->Prop}(k:∀b,(h.get? b).isSome=true->X' b->X b):∀{v},zfL h X v->zfL h X' v
 |v,x=>by
  induction x with
  |nil=>exact .nil
  |cons a n hc b c _ ih=>exact .cons a (λq=>n (k _ (by rw[a];rfl) q)) hc b c ih
theorem Rel.stepX(f:a.Fits S sh)(r:Rel S sh a X ow st s){st':Sl}{s':Shared}(x:Step a st st' s s'){X':Addr->Prop}(hX:∀b,(s.heap.get? b).isSome=true->X' b->X b):Rel S sh a X' (restr ow st') st' s':=by
 refine zcM r.slots λm hn hl hs=>?_;have hP:∀b,(s.heap.get? b).isSome=true->Pv a X' (restr ow st') b->Pv a X ow b:=λb hb q=>by
  rcases q with q|q|q|⟨i,q⟩
  ·exact .inl q
  ·exact .inr (.inl q)
  ·exact .inr (.inr (.inl (hX b hb q)))
  ·exact .inr (.inr (.inr ⟨i,zca q⟩))
 have gs:=r.goes f (P:=Pv a X ow) (P':=Pv a X' (restr ow st')) x.keep hP;refine⟨(zga m (x.keep.ns hn) (x.frz.1.trans hl) (λi y sl hi hsl=>?_)),?_,x.keep.funFrames r.frames,λi b h=>?_,λi j b h1 h2=>r.inj i j b (zca h1) (zca h2),x.gens.trans r.gens,x.os.trans r.os,
  λv hv=>((r.hands v hv).less hX).keep x.keep λb hb o vs e=>(r.nob f b hb).2 o vs e,r.tab.keep x.keep⟩
 ·have hlt:i<st.length:=x.frz.1.symm▸((yp.mp hsl).1)
  have h0:=hs i y _ hi (yu hlt);rcases x.frz.2 i with p|⟨ds,p,p'⟩
  ·simp only[p,List.getElem?_eq_getElem hlt]at hsl
   obtain rfl:=yj hsl;have hr:restr ow st' i=match st[i]with|.own _=>ow i|.cel _=>ow i|_=>none:=by
    unfold restr;rw[p,List.getElem?_eq_getElem hlt];cases st[i]<;>rfl
   revert h0 hr;cases st[i]with
   |unb=>intro h0 hr;exact hr
   |val d=>intro h0 hr;obtain⟨_,v,h1,h2⟩:=h0;exact⟨hr,v,h1,h2.goes gs⟩
   |own ds=>
    intro h0 hr;left;obtain⟨b,o,vs,n,h1,h2,h3,h4,h5,h6,h7⟩:=h0;refine zzi (x.keep.weakD h3 (zaY h4)) λo' h3' h4' h5' h7'=>?_;exact⟨b,o',vs,n,hr.trans h1,h2,h3',h4'.trans h4,h5'.trans h5,h6.goes gs,h7'.trans h7⟩
   |cel o=>
    intro h0 hr;left;obtain⟨b,o,w,h1,h2,h3,h5,h6⟩:=h0;refine zcM (x.keep.weak h3 (zkn h5)) λo' h3' _ h5'=>?_;exact⟨b,o',w,hr.trans h1,h2,h3',h5'.trans h5,h6.goes gs⟩
  ·rw[List.getElem?_eq_getElem hlt]at p
   have hp:=yj p;rw[hp]at h0;rw[hsl]at p';obtain rfl:=yj p';obtain⟨b,o,vs,n,h1,h2,h3,h4,h5,h6,_⟩:=h0;refine zcM (x.keep.weak h3 (zaY h4)) λo' h3' h4' h5'=>?_;have hr:restr ow st' i=none:=by unfold restr;rw[hsl]
   refine⟨hr,_,h2,.lst h3' ?_ (h4'.trans h4) (h5'.trans h5) (h6.goes gs)⟩;rintro(q|q|q|⟨j,q⟩)
   ·have:=f.Pdom b q
    rw[(r.own i b h1).2.1]at this;exact zaF this
   ·exact(r.own i b h1).2.2.2 q
   ·exact(r.own i b h1).2.2.1 (hX b (r.own_there h1) q)
   ·have e:=r.inj j i b (zca q) h1
    obtain rfl:=e.symm;cases hr.symm.trans q
 ·exact r.keep.transL x.keep f.noh₀
 ·refine zyh (r.own i b (zca h)) λh1 h2 h3 h4=>?_
  exact⟨h1,h2,λq=>h3 (hX b (r.own_there (zca h)) q),h4⟩
theorem Rel.step(f:a.Fits S sh)(r:Rel S sh a X ow st s){st':Sl}{s':Shared}(x:Step a st st' s s'):Rel S sh a X (restr ow st') st' s':=r.stepX f x λ_ _ q=>q
end
end
section
variable{S:St0}{sh:zak}{a:Act}{X:Addr->Prop}{ow:Nat->Option Addr}{st st' st₁ st₂:Sl}{s s' s₁ s₂:Shared}{hs h h':Heap}{v:Value}{r:Res}
theorem Rel.fresh(f:a.Fits S sh)(R:Rel S sh a X ow st s)(hX:∀b,X b->(s.heap.get? b).isSome=true){b:Addr}(hb:s.heap.get? b=none):¬Pv a X ow b:=by
 rintro(q|q|q|⟨i,q⟩)
 ·have:=f.Pdom b q
  obtain⟨o,ho⟩:=yL.mp this;have k:=R.keep.there ho;rw[hb]at k;exact zaF k
 ·obtain⟨m,⟨o,_,_,ho,_⟩,_⟩:=R.slots
  rw[←q,hb]at ho;exact zae ho
 ·have:=hX b q;rw[hb]at this;exact zaF this
 ·have:=R.own_there q;rw[hb]at this;exact zaF this
theorem Rel.fresh0(f:a.Fits S sh)(R:Rel S sh a noX ow st s){b:Addr}(hb:s.heap.get? b=none):¬Pv a noX ow b:=R.fresh f (λ_ q=>q.elim) hb
inductive CA(S:St0)(h:Heap)(P:Addr->Prop)(v:Value)(d:D)(b:Addr)(o:Obj)(vs:Array Value)(n:Nat)(ds:List D):Prop
 |mk (qa:v=.ref b) (qb:d=.lst ds) (qc:h.get? b=some o) (qd:o.cls=.type "list") (qe:o.data=.seq vs n) (qf:zaN S h P vs.toList ds)
noncomputable def zes(S:St0)(h:Heap)(P:Addr->Prop)(v:Value)(d:D):Prop:=
 zcN S h P v d∨∃b o vs n ds,CA S h P v d b o vs n ds
theorem Pv.noX_le{a:Act}{X:Addr->Prop}{ow:Nat->Option Addr}{b:Addr}(q:Pv a noX ow b):Pv a X ow b:=by
 rcases q with q|q|q|q
 ·exact .inl q
 ·exact .inr (.inl q)
 ·exact q.elim
 ·exact .inr (.inr (.inr q))
theorem Pv.step{a:Act}{X:Addr->Prop}{ow:Nat->Option Addr}{st:Sl}{b:Addr}(q:Pv a X (Mine.Internal.restr ow st) b):Pv a X ow b:=q.restr
theorem zhS.c(x:zhS S a ow st hs h v r):zes S h (Pv a noX ow) v r.d:=by
 left
 induction r with
 |pl d=>exact .inl x.1
 |fr ds=>obtain⟨b,o,vs,n,e,_,h1,h2,h3,h4,_⟩:=x;exact .inr ⟨b,o,vs,n,ds,e,rfl,h1,h2,h3,h4.goes (.less λ_ _ q=>q.noX_le)⟩
 |bo i ds=>obtain⟨b,o,vs,n,e,h1,h2,h3,h4,_⟩:=x;exact .inr ⟨b,o,vs,n,ds,e,rfl,h1,h2,h3,h4⟩
theorem zhS.step(f:a.Fits S sh)(R:Rel S sh a noX ow st s)(K:Step a st st' s s')(x:zhS S a ow st hs s.heap v r):zhS S a (restr ow st') st' hs s'.heap v r:=by
 have g:=R.goes f (P:=Pv a noX ow) (P':=Pv a noX (restr ow st')) K.keep λb _ q=>q.restr
 induction r with
 |pl d=>exact⟨x.1.goes g,x.2⟩
 |fr ds=>
  left;obtain⟨b,o,vs,n,e,h0,h1,h2,h3,h4,h5⟩:=x;refine zzi (K.keep.weakD h1 (zaY h2)) λo' q1 q2 q3 q4=>?_;refine⟨b,o',vs,n,e,h0,q1,q2.trans h2,q3.trans h3,?_,q4.trans h5⟩;exact(h4.goes (R.goes f (P:=Pv a (λc=>c=b) ow) (P':=Pv a (λc=>c=b) (restr ow st')) K.keep λb _ q=>q.restr))
 |bo i ds=>
  left;obtain⟨b,o,vs,n,e,h1,h2,h3,h4,h5⟩:=x;refine zcM (K.keep.weak h1 (zaY h2)) λo' q1 q2 q3=>?_;refine⟨b,o',vs,n,e,q1,q2.trans h2,q3.trans h3,h4.goes g,?_⟩;left;rcases h5 with⟨p1,p2⟩|⟨p1,p2⟩
  ·rcases K.frz.2 i with z|⟨ds',z,z'⟩
   ·refine .inl ?_
    rw[p2]at z;exact⟨by unfold restr;exact z▸p1,z⟩
   ·refine .inr ?_
    rw[p2]at z;cases z;refine⟨?_,z'⟩;rintro(q|q|q|⟨j,q⟩)
    ·have:=f.Pdom b q
     rw[(R.own i b p1).2.1]at this;exact zaF this
    ·exact(R.own i b p1).2.2.2 q
    ·exact q
    ·have:=R.inj j i b (zca q) p1
     obtain rfl:=this.symm;unfold restr at q;rw[z']at q;exact zae q
  ·refine .inr ?_
   refine⟨λq=>p1 q.restr,?_⟩;rcases K.frz.2 i with z|⟨ds',z,_⟩
   ·exact z.trans p2
   ·rw[p2]at z;cases z
theorem zhS.early(k:∀b o,hs.get? b=some o->(h.get? b).isSome=true)(x:zhS S a ow st h h' v r):zhS S a ow st hs h' v r:=by
 induction r with
 |pl d=>
  refine⟨x.1,λq=>?_⟩;refine zaO (x.2 q) λe h1 h2=>?_;refine zbB e h1 ?_;cases q:hs.get? e with
  |none=>rfl
  |some o=>have:=k e o q;rw[h2]at this;exact zaF this
 |fr ds=>
  left;obtain⟨b,o,vs,n,e,h0,r1,r2,r3,r4,r5⟩:=x;refine⟨b,o,vs,n,e,?_,r1,r2,r3,r4,r5⟩;cases q:hs.get? b with
  |none=>rfl
  |some o=>have:=k b o q;rw[h0]at this;exact zaF this
 |bo i ds=>exact x
theorem Step.ext(K:Step a st st' s s'):∀b o,s.heap.get? b=some o->(s'.heap.get? b).isSome=true:=λb o e=>K.keep.there e
theorem zgN(f:a.Fits S sh)(R:Rel S sh a noX ow st s)(K:Step a st st' s s')(x:zhS S a (restr ow st') st' s.heap s'.heap v r) :
  Step a st (r.seal st') s s'∧zcN S s'.heap (Pv a noX (restr ow (r.seal st'))) v r.d:=by
 induction r with
 |pl d=>exact⟨K,x.1⟩
 |fr ds=>
  left;obtain⟨b,o,vs,n,rfl,h0,h1,h2,h3,h4,_⟩:=x;exact⟨K,.lst h1 (λq=>R.fresh0 f h0 q.restr) h2 h3 (h4.goes (.less λ_ _ q=>q.noX_le))⟩
 |bo i ds=>
  left;obtain⟨b,o,vs,n,rfl,h1,h2,h3,h4,h5⟩:=x;have R':=R.step f K;have fz:Frz st' ((Res.bo i ds).seal st'):=by
   refine⟨(show(st'.set i (.val (.lst ds))).length=st'.length from List.length_set),λj=>?_⟩;show(st'.set i _)[j]?=_∨_;by_cases e:i=j
   ·subst e
    rcases h5 with⟨_,p⟩|⟨_,p⟩
    ·have hlt:=(yp.mp p).1
     exact .inr ⟨ds,p,by show(st'.set i _)[i]?=_;rw[List.getElem?_set_self hlt]⟩
    ·have hlt:=(yp.mp p).1
     refine .inl ?_;rw[List.getElem?_set_self hlt,p]
   ·refine .inl ?_;rw[List.getElem?_set_ne e]
  have K2:Step a st' ((Res.bo i ds).seal st') s' s':=⟨fz,.refl _ _,rfl,rfl⟩;have hi:i<st'.length:=by rcases h5 with⟨_,p⟩|⟨_,p⟩<;>exact(yp.mp p).1
  have x':zhS S a (restr (restr ow st') ((Res.bo i ds).seal st')) ((Res.bo i ds).seal st') s.heap s'.heap (.ref b) (.bo i ds):=zhS.step f R' K2 ⟨b,o,vs,n,rfl,h1,h2,h3,h4,h5⟩;rw[zax fz]at x';obtain⟨b',o',vs',n',e,g1,g2,g3,g4,g5⟩:=x';cases e;refine⟨K.trans K2,.lst g1 ?_ g2 g3 g4⟩;rcases g5 with⟨_,p⟩|⟨p,_⟩
  ·have:((Res.bo i ds).seal st')[i]?=some (.val (.lst ds)):=by show(st'.set i _)[i]?=_;rw[List.getElem?_set_self hi]
   exact nomatch (this.symm.trans p)
  ·exact p
theorem zq3{Q:Res->Sl->Prop}{d:D}(K:Step a st st s s')(x:zcN S s'.heap (Pv a noX (restr ow st)) v d)(q:Q (.pl d) st)(hd:d.isExc=false:=by rfl):OkE S a ow st s Q v s':=⟨_,st,q,K,x,λz=>by rw[hd]at z;exact zaF z⟩
theorem zhS.new{a:Act}{ow:Nat->Option Addr}{st:Sl}{hs h:Heap}{v:Value}{r:Res}(x:zhS S a ow st hs h v r):New hs v r.d:=by
 induction r with
 |pl d=>exact x.2
 |_=>exact λz=>zaF z
end
section nodes
variable{S:St0}{sh:zak}
theorem zdr{a:Act}{X:Addr->Prop}{ow:Nat->Option Addr}{st:Sl}{s:Shared}(R:Rel S sh a X ow st s):restr ow st=ow:=by
 funext i
 refine zcM R.slots λm _ hl hs=>?_;unfold restr;cases e:st[i]? with
 |none=>
  cases q:ow i with
  |none=>rfl
  |some b=>
   have:=(R.own i b q).1;rw[List.getElem?_eq_none_iff]at e;lia
 |some sl=>
  have hlt:=(yp.mp e).1;have:=hs i _ _ (yu (hl▸hlt)) e;clear e
  induction sl with
  |unb=>exact(show ow i=none from this).symm
  |val d=>exact this.1.symm
  |own ds=>rfl
  |cel o=>rfl
theorem zxJ{b k pos}:zau S sh (.Constant (.bool b) k pos) λQ _ st=>Q (.pl (.bool b)) st:=λa ow st s Q X f R q=>Constant_bool (zq3 (.refl ..) (.bool b) q)
theorem zAK{i k pos}:zau S sh (.Constant (.int i) k pos) λQ _ st=>Q (.pl (.int i)) st:=λa ow st s Q X f R q=>wpAny_Constant_int (zq3 ⟨.refl _,.refl _ _,rfl,rfl⟩ (.int i _) q)
theorem zBa{x:Str}{k pos}:zau S sh (.Constant (.str x) k pos) λQ _ st=>Q (.pl (.str x.cps.toList)) st:=λa ow st s Q X f R q=>
 wpAny_Constant_str (zq3 ⟨.refl _,.refl _ _,rfl,rfl⟩ (by have:=zcN.str (S:=S) (h:=s.heap) (P:=Pv a noX (restr ow st)) x.cps.toList s.toks;rwa[ze6]at this) q)
@[reducible]noncomputable def zad(i:Nat):PE:=λQ _ st=>match st[i]? with
 |some (.val d)=>zwG d.isExc (Q (.pl d) st)
 |some (.own ds)=>Q (.bo i ds) st
 |_=>False
set_option tactic.hygienic true in
theorem zaa{i:Nat}{x:Str}{pos}(hi:sh.names[i]?=some x)(hd:(x==("__debug__":Str))=false:=by decide):zau S sh (.Name x pos) (zad i):=λa ow st s Q X f R q=>by
 have R0:=zdr R;left;refine zcM R.slots λm hn hl hs=>?_;have hm:x∈sh.names:=yy hi;have hk:a.env.kindOf x=some .local:=by unfold Env.kindOf;exact f.scope▸(f.loc x hm)
 have hkk:a.env.scope.kind=.function:=f.scope▸f.kind;unfold zad at q
 split at q
 ·rename_i d e
  obtain⟨_,v,h1,h2⟩:=hs i x _ (zak.all_of hi) e;rw[f.ovn hm]at h1;exact wpAny_Name (wpAny_loadName_local hkk hk (f.locals▸hn) h1 (zq3 (.refl ..) (R0.symm▸h2) (zji q).2 (zji q).1)) hd
 ·rename_i ds e
  obtain⟨b,o,vs,n,h1,h2,h3,h4,h5,h6,_⟩:=hs i x _ (zak.all_of hi) e;rw[f.ovn hm]at h2;exact wpAny_Name (wpAny_loadName_local hkk hk (f.locals▸hn) h2 ⟨_,st,q,.refl ..,b,o,vs,n,rfl,h3,h4,h5,R0.symm▸h6,.inl ⟨R0.symm▸h1,e⟩⟩) hd
 ·exact q.elim
theorem zaP{a:Act}{st st₁:Sl}{s s₁:Shared}{X:Err->Sl->Prop}(K:Step a st st₁ s s₁){ev:Value}{s':Shared}(x:zfA S a st₁ s₁ X ev s'):zfA S a st s X ev s':=by
 left;obtain⟨x,st',h1,h2,e,T,h3,h4,h5,h6⟩:=x;exact⟨x,st',h1,K.trans h2,e,T,h3,K.keep.new h4,λb hb=>K.keep.new (h5 b hb),h6⟩
theorem ziZ{a:Act}{ow:Nat->Option Addr}{st st₁:Sl}{s s₁:Shared}{Q:Res->Sl->Prop}(K:Step a st st₁ s s₁){v:Value}{s':Shared}(x:OkE S a (restr ow st₁) st₁ s₁ Q v s'):OkE S a ow st s Q v s':=by
 left;obtain⟨r,st',h1,h2,h3⟩:=x;rw[zax h2.frz]at h3;exact⟨r,st',h1,K.trans h2,h3.early K.ext⟩
end nodes
noncomputable abbrev PV:=(Res->Prop)->(Err->Prop)->Prop
noncomputable def OkP(S:St0)(a:Act)(ow:Nat->Option Addr)(st:Sl)(s:Shared)(Q:Res->Prop):Value->Shared->Prop:=λv s'=>∃r,Q r∧Step a st st s s'∧zhS S a ow st s.heap s'.heap v r
noncomputable def zup(S:St0)(a:Act)(st:Sl)(s:Shared)(X:Err->Prop):Value->Shared->Prop:=λev s'=>∃x,X x∧Step a st st s s'∧zz5 S a s.heap s' ev x
noncomputable def zlF(S:St0)(sh:zak)(m:Value->Sem Value)(p:D->PV):Prop:=
 ∀(a:Act)(ow:Nat->Option Addr)(st:Sl)(s:Shared)(v:Value)(d:D)(Q:Res->Prop)(X:Err->Prop),a.Fits S sh->Rel S sh a noX ow st s->zes S s.heap (Pv a noX ow) v d->p d Q X ->
  wpAny (model S.prog S.w) a.A (m v) (OkP S a ow st s Q) (zup S a st s X) s
noncomputable def zc8(S:St0)(sh:zak)(m:Value->Value->Sem Value)(p:D->D->PV):Prop:=
 ∀(a:Act)(ow:Nat->Option Addr)(st:Sl)(s:Shared)(v1a v2a:Value)(d1 d2:D)(Q:Res->Prop)(X:Err->Prop),a.Fits S sh->Rel S sh a noX ow st s->zes S s.heap (Pv a noX ow) v1a d1->zes S s.heap (Pv a noX ow) v2a d2->p d1 d2 Q X ->
  wpAny (model S.prog S.w) a.A (m v1a v2a) (OkP S a ow st s Q) (zup S a st s X) s
noncomputable def ziF:D->Option Bool
 |.none=>some false
 |.bool b=>some b
 |.int i=>some (i != 0)
 |.str l=>if l.length≤1000000 then some (!l.isEmpty)else none
 |.lst l=>if l.length≤1000000 then some (!l.isEmpty)else none
 |.tup l=>if l.length≤1000000 then some (!l.isEmpty)else none
 |_=>none
noncomputable def zjx(S:St0)(sh:zak):Prop:=
 ∀(a:Act)(ow:Nat->Option Addr)(st:Sl)(s:Shared)(v:Value)(d:D)(b:Bool),a.Fits S sh->Rel S sh a noX ow st s->zes S s.heap (Pv a noX ow) v d->ziF d=some b ->
  ∀(Q:Bool->Shared->Prop)(E:Value->Shared->Prop),(∀s',Step a st st s s'->Q b s')->wpAny (model S.prog S.w) a.A (truthy v) Q E s
section
variable{S:St0}{sh:zak}
theorem OkP.toE{a:Act}{ow:Nat->Option Addr}{st0 st:Sl}{s₀ s s':Shared}{v:Value}{Q:Res->Sl->Prop}(K:Step a st0 st s₀ s)(x:OkP S a (restr ow st) st s (λr=>Q r st) v s'):OkE S a ow st0 s₀ Q v s':=by
 refine zcM x λr h1 h2 h3=>?_;exact⟨r,st,h1,K.trans h2,h3.early K.ext⟩
theorem zup.toE{a:Act}{st0 st:Sl}{s₀ s s':Shared}{v:Value}{X:Err->Sl->Prop}(K:Step a st0 st s₀ s)(x:zup S a st s (λr=>X r st) v s'):zfA S a st0 s₀ X v s':=by
 left;obtain⟨x,h1,h2,e,T,h3,h4,h5,h6⟩:=x;exact⟨x,st,h1,K.trans h2,e,T,h3,K.keep.new h4,λb hb=>K.keep.new (h5 b hb),h6⟩
theorem zes.step{a:Act}{ow:Nat->Option Addr}{st st':Sl}{s s':Shared}(f:a.Fits S sh)(R:Rel S sh a noX ow st s)(K:Step a st st' s s'){v:Value}{d:D}(x:zes S s.heap (Pv a noX ow) v d):zes S s'.heap (Pv a noX (restr ow st')) v d:=by
 have g:=R.goes f (P:=Pv a noX ow) (P':=Pv a noX (restr ow st')) K.keep λb _ q=>q.restr;left;rcases x with x|⟨b,o,vs,n,ds,e,e',h1,h2,h3,h4⟩
 ·exact .inl (x.goes g)
 ·refine zcM (K.keep.weak h1 (zaY h2)) λo' q1 q2 q3=>?_
  exact .inr ⟨b,o',vs,n,ds,e,e',q1,q2.trans h2,q3.trans h3,h4.goes g⟩
@[reducible]noncomputable def pe1(c:PE)(p:D->PV):PE:=λQ X st=>c (λr st₁=>p r.d (λr'=>Q r' st₁) (λx=>X x st₁)) X st
@[reducible]noncomputable def pe2(c₁ c₂:PE)(p:D->D->PV):PE:=λQ X st=>c₁ (λr1 st₁=>c₂ (λr2 st₂=>p r1.d r2.d (λr'=>Q r' st₂) (λx=>X x st₂)) X st₁) X st
theorem ev1{e:Expr}{c:PE}{m:Value->Sem Value}{p:D->PV}(H:zau S sh e c)(P:zlF S sh m p){a:Act}{ow:Nat->Option Addr}{st:Sl}{s:Shared}{Q:Res->Sl->Prop}{X:Err->Sl->Prop}(f:a.Fits S sh)(R:Rel S sh a noX ow st s)(q:pe1 c p Q X st) :
  wpAny (model S.prog S.w) a.A (eval e a.env) (λv s₁=>wpAny (model S.prog S.w) a.A (m v) (OkE S a ow st s Q) (zfA S a st s X) s₁) (zfA S a st s X) s:=by
 refine yt (H a ow st s _ X f R q) (λv s₁ h=>?_) λ_ _ x=>x;left;obtain⟨r,st₁,h1,h2,h3⟩:=h;exact yt (P a _ st₁ s₁ v r.d _ _ f (R.step f h2) h3.c h1) (λ_ _ x=>x.toE h2) λ_ _ x=>x.toE h2
theorem zBP{n:Nat}{e1 e2:Expr}{c₁ c₂:PE}{m:Value->Value->Sem Value}{p:D->D->PV}(H1a:zeg n S sh e1 c₁)(H2:zeg n S sh e2 c₂)(P:zc8 S sh m p){a:Act}{ow:Nat->Option Addr}{st:Sl}{s:Shared}{Q:Res->Sl->Prop}{X:Err->Sl->Prop}(hn:n≤s.toks)(f:a.Fits S sh)(R:Rel S sh a noX ow st s)(q:pe2 c₁ c₂ p Q X st) :
  wpAny (model S.prog S.w) a.A (eval e1 a.env) (λv1a s₁=>wpAny (model S.prog S.w) a.A (eval e2 a.env) (λv2a s₂=>wpAny (model S.prog S.w) a.A (m v1a v2a) (OkE S a ow st s Q) (zfA S a st s X) s₂) (zfA S a st s X) s₁) (zfA S a st s X) s:=by
 refine yt (wpAny_toks_of hn (H1a a ow st s _ X hn f R q)) (λv s₁ h=>?_) λ_ _ x=>x.2;left;obtain⟨hn1,r,st₁,h1,h2,h3⟩:=h;have R1:=R.step f h2;refine yt (H2 a _ st₁ s₁ _ X hn1 f R1 h1) (λv2a s₂ h=>?_) λ_ _ x=>zaP h2 x;left;obtain⟨r2,st₂,g1,g2,g3⟩:=h;have K:=h2.trans g2;have c1:=h3.c.step f R1 g2;have c2:=g3.c;rw[zax g2.frz]at c1 c2;exact yt (P a _ st₂ s₂ _ _ r.d r2.d _ _ f (R.step f K) c1 c2 g1) (λ_ _ x=>x.toE K) λ_ _ x=>x.toE K
theorem ev2{e1 e2:Expr}{c₁ c₂:PE}{m:Value->Value->Sem Value}{p:D->D->PV}(H1a:zau S sh e1 c₁)(H2:zau S sh e2 c₂)(P:zc8 S sh m p){a:Act}{ow:Nat->Option Addr}{st:Sl}{s:Shared}{Q:Res->Sl->Prop}{X:Err->Sl->Prop}(f:a.Fits S sh)(R:Rel S sh a noX ow st s)(q:pe2 c₁ c₂ p Q X st) :
  wpAny (model S.prog S.w) a.A (eval e1 a.env) (λv1a s₁=>wpAny (model S.prog S.w) a.A (eval e2 a.env) (λv2a s₂=>wpAny (model S.prog S.w) a.A (m v1a v2a) (OkE S a ow st s Q) (zfA S a st s X) s₂) (zfA S a st s X) s₁) (zfA S a st s X) s:=zBP H1a.t H2.t P (yb _) f R q
theorem zt3{n:Nat}{l r:Expr}{op pos}{c₁ c₂:PE}{p:D->D->PV}(H1a:zeg n S sh l c₁)(H2:zeg n S sh r c₂)(P:zc8 S sh (binaryOp op) p):zeg n S sh (.BinOp l op r pos) (pe2 c₁ c₂ p):=
 λ_ _ _ _ _ _ hn f R q=>wpAny_BinOp (zBP H1a H2 P hn f R q)
theorem zaA{l r:Expr}{op pos}{c₁ c₂:PE}{p:D->D->PV}(H1a:zau S sh l c₁)(H2:zau S sh r c₂)(P:zc8 S sh (binaryOp op) p):zau S sh (.BinOp l op r pos) (pe2 c₁ c₂ p):=
 λ_ _ _ _ _ _ f R q=>wpAny_BinOp (ev2 H1a H2 P f R q)
theorem zz3{l r:Expr}{op pos}{c₁ c₂:PE}{p:D->D->PV}(H1a:zau S sh l c₁)(H2:zau S sh r c₂)(P:zc8 S sh (compareOp op) p)(hm:behindInMarks op r=false:=by with_unfolding_all rfl):zau S sh (.Compare l [op] [r] pos) (pe2 c₁ c₂ p):=
 λ_ _ _ _ _ _ f R q=>wpAny_Compare1 (ev2 H1a H2 P f R q) hm
noncomputable abbrev PT:=(Bool->Sl->Prop)->(Err->Sl->Prop)->Sl->Prop
@[reducible]noncomputable def zdf(c:PE):PT:=λQ X st=>c (λr st₁=>oM (ziF r.d) λb=>Q b st₁) X st
theorem za0(T:zjx S sh){e:Expr}{c:PE}(H:zau S sh e c)(he:∀env whole,isTrue e env whole=(do let v ←whole;standAt e.pos;holding [v] (truthy v)):=by intros;rfl):zdg S sh e (zdf c):=λa ow st s Q X f R q=>by
 refine isTrue_plain (yt (H a ow st s _ X f R q) (λv s₁ h=>?_) λ_ _ x=>x) (he _ _);left;obtain⟨r,st₁,h1,h2,h3⟩:=h;refine zaO (oM_inv h1) λb h0 h1=>?_;exact T a _ st₁ s₁ v r.d b f (R.step f h2) h3.c h0 _ _ λs' K=>(zbB st₁ h1 (h2.trans K))
theorem zhq{n:Nat}(T:zjx S sh){l r:Expr}{op pos}{c₁ c₂:PE}{p:D->D->PV}(H1a:zeg n S sh l c₁)(H2:zeg n S sh r c₂)(P:zc8 S sh (compareOp op) p)(hm:behindInMarks op r=false) :
  zty n S sh (.Compare l [op] [r] pos) (zdf (pe2 c₁ c₂ p)):=λa ow st s Q X hn f R q=>by
 refine wpAny_isTrue_Compare1 ?_ hm;refine yt (zBP H1a H2 P (Q:=λr st₁=>oM (ziF r.d) λb=>Q b st₁) hn f R q) (λv s₁ h=>yt h (λv2a s₂ h=>yt h (λv3 s3a h=>?_) λ_ _ x=>x) λ_ _ x=>x) λ_ _ x=>x;left;obtain⟨r,st₁,h1,h2,h3⟩:=h;refine zaO (oM_inv h1) λb h0 h1=>?_;exact T a _ st₁ s3a v3 r.d b f (R.step f h2) h3.c h0 _ _ λs' K=>(zbB st₁ h1 (h2.trans K))
theorem zaW(T:zjx S sh){l r:Expr}{op pos}{c₁ c₂:PE}{p:D->D->PV}(H1a:zau S sh l c₁)(H2:zau S sh r c₂)(P:zc8 S sh (compareOp op) p)(hm:behindInMarks op r=false:=by with_unfolding_all rfl) :
  zdg S sh (.Compare l [op] [r] pos) (zdf (pe2 c₁ c₂ p)):=(zhq T H1a.t H2.t P hm).s
@[reducible]noncomputable def ziq(c:PT):PT:=λQ X st=>c (λb st₁=>Q (!b) st₁) X st
theorem zfd{x:Expr}{pos}{c:PT}(H:zdg S sh x c):zdg S sh (.UnaryOp .Not x pos) (ziq c):=λa ow st s Q X f R q=>isTrue_not (H a ow st s _ X f R q)
@[reducible]noncomputable def zs1(c₁ c₂:PT):PT:=λQ X st=>c₁ (λb st₁=>ifB b (c₂ Q X st₁) (Q false st₁)) X st
@[reducible]noncomputable def zCc(c₁ c₂:PT):PT:=λQ X st=>c₁ (λb st₁=>ifB b (Q true st₁) (c₂ Q X st₁)) X st
theorem zm7{pos}:zdg S sh (.BoolOp .And [] pos) λQ _ st=>Q true st:=λa ow st s Q X f R q=>isTrue_and_nil ⟨st,q,.refl ..⟩
theorem zov{pos}:zdg S sh (.BoolOp .Or [] pos) λQ _ st=>Q false st:=λa ow st s Q X f R q=>isTrue_or_nil ⟨st,q,.refl ..⟩
theorem ziX{x:Expr}{rest pos}{c₁ c₂:PT}(H1a:zdg S sh x c₁)(H2:zdg S sh (.BoolOp .And rest pos) c₂):zdg S sh (.BoolOp .And (x::rest) pos) (zs1 c₁ c₂):=λa ow st s Q X f R q=>by
 refine isTrue_and (yt (H1a a ow st s _ X f R q) (λb s₁ h=>?_) λ_ _ x=>x);refine zaO h λst₁ h1 h2=>?_
 induction b with
 |false=>exact zbB st₁ (ziL h1) h2
 |true=>exact yt (H2 a _ st₁ s₁ Q X f (R.step f h2) (ziG h1)) (λb s₂ ⟨st₂,g1,g2⟩=>(zbB st₂ g1 (h2.trans g2))) λ_ _ x=>zaP h2 x
theorem zsO{x:Expr}{rest pos}{c₁ c₂:PT}(H1a:zdg S sh x c₁)(H2:zdg S sh (.BoolOp .Or rest pos) c₂):zdg S sh (.BoolOp .Or (x::rest) pos) (zCc c₁ c₂):=λa ow st s Q X f R q=>by
 refine isTrue_or (yt (H1a a ow st s _ X f R q) (λb s₁ h=>?_) λ_ _ x=>x);refine zaO h λst₁ h1 h2=>?_
 induction b with
 |true=>exact zbB st₁ (ziG h1) h2
 |false=>exact yt (H2 a _ st₁ s₁ Q X f (R.step f h2) (ziL h1)) (λb s₂ ⟨st₂,g1,g2⟩=>(zbB st₂ g1 (h2.trans g2))) λ_ _ x=>zaP h2 x
@[reducible]noncomputable def zBb(t:PT)(c₁ c₂:PE):PE:=λQ X st=>t (λb st₁=>ifB b (c₁ Q X st₁) (c₂ Q X st₁)) X st
theorem zxH{t b o:Expr}{pos}{ct:PT}{cb co:PE}(Ht:zdg S sh t ct)(Hb:zau S sh b cb)(Ho:zau S sh o co):zau S sh (.IfExp t b o pos) (zBb ct cb co):=λa ow st s Q X f R q=>by
 refine IfExp_ (yt (Ht a ow st s _ X f R q) (λc s₁ h=>?_) λ_ _ x=>x);refine zaO h λst₁ h1 h2=>?_
 induction c with
 |true=>exact yt (Hb a _ st₁ s₁ Q X f (R.step f h2) (ziG h1)) (λ_ _ x=>ziZ h2 x) λ_ _ x=>zaP h2 x
 |false=>exact yt (Ho a _ st₁ s₁ Q X f (R.step f h2) (ziL h1)) (λ_ _ x=>ziZ h2 x) λ_ _ x=>zaP h2 x
@[reducible]noncomputable def zzn(c₁ c₂:PE):PE:=λQ X st=>c₁ (λr st₁=>oM (ziF r.d) λb=>ifB b (Q r st₁) (c₂ Q X st₁)) X st
theorem zqc{op}{e:Expr}{pos}{c:PE}(H:zau S sh e c):zau S sh (.BoolOp op [e] pos) c:=λa ow st s Q X f R q=>BoolOp_one (H a ow st s Q X f R q)
theorem zv1(T:zjx S sh){e1 e2:Expr}{rest pos}{c₁ c₂:PE}(H1a:zau S sh e1 c₁)(H2:zau S sh (.BoolOp .Or (e2::rest) pos) c₂):zau S sh (.BoolOp .Or (e1::e2::rest) pos) (zzn c₁ c₂):=λa ow st s Q X f R q=>by
 refine BoolOp_or (yt (H1a a ow st s _ X f R q) (λv s₁ h=>?_) λ_ _ x=>x);left;obtain⟨r,st₁,h1,h2,h3⟩:=h;refine zaO (oM_inv h1) λb h0 h1=>?_;have R1:=R.step f h2;refine T a _ st₁ s₁ v r.d b f R1 h3.c h0 _ _ λs' K=>?_;have K':=h2.trans K
 induction b with
 |false=>exact yt (H2 a _ st₁ s' Q X f (R.step f K') (ziL h1)) (λ_ _ x=>ziZ K' x) λ_ _ x=>zaP K' x
 |true=>
  have:=zhS.step f R1 K h3;rw[zax (Frz.refl st₁)]at this;exact⟨r,st₁,(ziG h1),K',this⟩
noncomputable abbrev PEs:=(List Res->Sl->Prop)->(Err->Sl->Prop)->Sl->Prop
noncomputable def zdh(S:St0)(a:Act)(ow:Nat->Option Addr)(st:Sl)(hs h:Heap):List Value->List Res->Prop
 |[],[]=>True
 |v::vs,r::rs=>zhS S a ow st hs h v r∧zdh S a ow st hs h vs rs
 |_,_=>False
theorem zdh.early{a:Act}{ow:Nat->Option Addr}{st:Sl}{hs h h':Heap}(k:∀b o,hs.get? b=some o->(h.get? b).isSome=true):∀{vs rs},zdh S a ow st h h' vs rs->zdh S a ow st hs h' vs rs
 |[],[],_=>trivial
 |[],_::_,x=>x.elim
 |_::_,[],x=>x.elim
 |_::_,_::_,x=>⟨x.1.early k,zdh.early k x.2⟩
theorem zdh.step{a:Act}{ow:Nat->Option Addr}{st st':Sl}{s s':Shared}{hs:Heap}(f:a.Fits S sh)(R:Rel S sh a noX ow st s)(K:Step a st st' s s'):∀{vs rs},zdh S a ow st hs s.heap vs rs->zdh S a (restr ow st') st' hs s'.heap vs rs
 |[],[],_=>trivial
 |[],_::_,x=>x.elim
 |_::_,[],x=>x.elim
 |_::_,_::_,x=>⟨zhS.step f R K x.1,zdh.step f R K x.2⟩
theorem zdh.length{a:Act}{ow:Nat->Option Addr}{st:Sl}{hs h:Heap}:∀{vs rs},zdh S a ow st hs h vs rs->vs.length=rs.length
 |[],[],_=>rfl
 |[],_::_,x=>x.elim
 |_::_,[],x=>x.elim
 |_::_,_::_,x=>ya Nat.succ (zdh.length x.2)
noncomputable def zB7(S:St0)(a:Act)(ow:Nat->Option Addr)(st:Sl)(s:Shared)(Q:List Res->Sl->Prop):List Value->Shared->Prop:=λvs s'=>
 ∃rs st',Q rs st'∧Step a st st' s s'∧zdh S a (restr ow st') st' s.heap s'.heap vs rs
noncomputable def zbT(S:St0)(sh:zak)(es:List Expr)(c:PEs):Prop:=
 ∀(pos:Pos)(a:Act)(ow:Nat->Option Addr)(st:Sl)(s:Shared)(Q:List Res->Sl->Prop)(X:Err->Sl->Prop),a.Fits S sh->Rel S sh a noX ow st s->c Q X st ->
  wpAny (model S.prog S.w) a.A (spliced (backTo pos (starEach es a.env))) (zB7 S a ow st s Q) (zfA S a st s X) s
@[reducible]noncomputable def zab(c:PE)(cs:PEs):PEs:=λQ X st=>c (λr st₁=>cs (λrs st₂=>Q (r::rs) st₂) X st₁) X st
theorem zxt:zbT S sh [] λQ _ st=>Q [] st:=λpos a ow st s Q X f R q=>wpAny_items_nil ⟨[],st,q,.refl ..,trivial⟩
noncomputable def zhE(n:Nat)(S:St0)(sh:zak)(es:List Expr)(c:PEs):Prop:=
 ∀(pos:Pos)(a:Act)(ow:Nat->Option Addr)(st:Sl)(s:Shared)(Q:List Res->Sl->Prop)(X:Err->Sl->Prop),n≤s.toks->a.Fits S sh->Rel S sh a noX ow st s->c Q X st ->
  wpAny (model S.prog S.w) a.A (spliced (backTo pos (starEach es a.env))) (zB7 S a ow st s Q) (zfA S a st s X) s
theorem zbT.t{n:Nat}{es:List Expr}{c:PEs}(H:zbT S sh es c):zhE n S sh es c:=λpos a ow st s Q X _ f R q=>H pos a ow st s Q X f R q
theorem zhE.s{es:List Expr}{c:PEs}(H:zhE 0 S sh es c):zbT S sh es c:=λpos a ow st s Q X f R q=>H pos a ow st s Q X (yb _) f R q
theorem zhN{n:Nat}{e:Expr}{es:List Expr}{c:PE}{cs:PEs}(H:zeg n S sh e c)(Hs:zhE n S sh es cs)(he:∀env,starEach (e::es) env=(false,eval e env)::starEach es env):zhE n S sh (e::es) (zab c cs):=λpos a ow st s Q X hn f R q=>by
 refine wpAny_items_cons (yt (wpAny_toks_of hn (H a ow st s _ X hn f R q)) (λv s₁ h=>?_) λ_ _ x=>x.2) (he _);left;obtain⟨hn1,r,st₁,h1,h2,h3⟩:=h;have R1:=R.step f h2;refine yt (Hs pos a _ st₁ s₁ _ X hn1 f R1 h1) (λvs s₂ h=>?_) λ_ _ x=>zaP h2 x;refine zfB h λrs st₂ g1 g2 g3=>?_;have:=zhS.step f R1 g2 h3;rw[zax g2.frz]at this g3;exact⟨r::rs,st₂,g1,h2.trans g2,this,g3.early h2.ext⟩
theorem zu3{e:Expr}{es:List Expr}{c:PE}{cs:PEs}(H:zau S sh e c)(Hs:zbT S sh es cs)(he:∀env,starEach (e::es) env=(false,eval e env)::starEach es env):zbT S sh (e::es) (zab c cs):=(zhN H.t Hs.t he).s
noncomputable def zbs:List Res->Sl->Sl
 |[],st=>st
 |r::rs,st=>zbs rs (r.seal st)
theorem zpD{a:Act}{ow:Nat->Option Addr}{st:Sl}{hs h:Heap}{v:Value}{r:Res}(x:zhS S a ow st hs h v r):Frz st (r.seal st):=by
 induction r with
 |bo i ds=>
  left;obtain⟨b,o,vs',n,rfl,h1,h2,h3,h4,h5⟩:=x;refine⟨by simp[Res.seal],λj=>?_⟩;show(st.set i _)[j]?=_∨_;left;by_cases e:i=j
  ·subst e
   rcases h5 with⟨_,p⟩|⟨_,p⟩
   ·have hlt:=(yp.mp p).1
    exact .inr ⟨ds,p,by show(st.set i _)[i]?=_;rw[List.getElem?_set_self hlt]⟩
   ·have hlt:=(yp.mp p).1
    refine .inl ?_;rw[List.getElem?_set_self hlt,p]
  ·refine .inl ?_;rw[List.getElem?_set_ne e]
 |_=>exact Frz.refl _
theorem zoA{a:Act}{s:Shared}{hs:Heap}(f:a.Fits S sh)(rs:List Res):∀(vs:List Value)(ow:Nat->Option Addr)(st:Sl),Rel S sh a noX ow st s->zdh S a ow st hs s.heap vs rs->Frz st (zbs rs st):=by
 induction rs with
 |nil=>intro vs ow st _ _;exact Frz.refl st
 |cons r rs ih=>
  intro vs ow st R y
  induction vs with
  |nil=>exact y.elim
  |cons v vs=>
   obtain⟨x,y⟩:=y;have fz:=zpD x;have K:Step a st (r.seal st) s s:=⟨fz,.refl _ _,rfl,rfl⟩;exact fz.trans (ih vs _ _ (R.step f K) (zdh.step f R K y))
theorem zi5{a:Act}{ow:Nat->Option Addr}{s s':Shared}{st:Sl}(f:a.Fits S sh)(R:Rel S sh a noX ow st s)(rs:List Res):∀(vs:List Value)(st':Sl),Step a st st' s s'->zdh S a (restr ow st') st' s.heap s'.heap vs rs ->
  Step a st (zbs rs st') s s'∧zaN S s'.heap (Pv a noX (restr ow (zbs rs st'))) vs (rs.map Res.d):=by
 induction rs with
 |nil=>
  intro vs st' K y
  induction vs with
  |nil=>exact⟨K,.nil⟩
  |cons _ _=>exact y.elim
 |cons r rs ih=>
  intro vs st' K y
  induction vs with
  |nil=>exact y.elim
  |cons v vs=>
  obtain⟨x,y⟩:=y;refine zb0 (zgN f R K x) λK' hv=>?_;have R':=R.step f K;have fz:Frz st' (r.seal st'):=zpD x;have K2:Step a st' (r.seal st') s' s':=⟨fz,.refl _ _,rfl,rfl⟩;have y':=zdh.step f R' K2 y;rw[zax fz]at y';refine zb0 (ih vs _ K' y') λKf hvs=>?_;have R'':=R.step f K';have fz2:Frz (r.seal st') (zbs rs (r.seal st')):=zoA f rs vs _ _ R'' y';refine⟨Kf,.cons ?_ hvs⟩;have K3:Step a (r.seal st') (zbs rs (r.seal st')) s' s':=⟨fz2,.refl _ _,rfl,rfl⟩;have:=hv.goes (R''.goes f (P:=Pv a noX (restr ow (r.seal st'))) (P':=Pv a noX (restr (restr ow (r.seal st')) (zbs rs (r.seal st')))) K3.keep λb _ q=>q.restr);rw[zax fz2]at this;exact this
end
theorem zdx.same{h h':Heap}(k:∀c o,h.get? c=some o->o.cls=.type "code"->(∃vs,o.data=.fields vs)->∃o',h'.get? c=some o'∧o'.cls=o.cls∧o'.data=o.data){c:Addr}(q:zdx h c):zdx h' c:=by
 obtain⟨o,vs,t,q1,q2,q3,q4⟩:=q;refine zcM (k c o q1 q2 ⟨vs,q3⟩) λo' k1 k2 k3=>?_;exact⟨o',vs,t,k1,k2.trans q2,k3.trans q3,q4⟩
theorem zqq.same{h h':Heap}(k:∀c,zdx h c->zdx h' c){o o':Obj}(s:zqq h o o'):zqq h' o o':=
 ⟨s.1,λvs a b=>let ⟨more,e,p⟩:=s.2 vs a b;(zbB more e (p.mono k))⟩
theorem zeL.same{F:List Addr}{p:zrn}{h h':Heap}(x:zeL F p h)(e:∀b o,p.get? b=some o->h'.get? b=h.get? b)(k:∀c,zdx h c->zdx h' c):zeL F p h':=λb o ho=>by
 left;obtain⟨x1,o',x2,s⟩:=x b o ho;exact⟨λhb=>(e b o ho).trans (x1 hb),o',(e b o ho).trans x2,s.same k⟩
section
variable{S:St0}{sh:zak}{a:Act}
theorem zkE{h h' base:Heap}{l:List Env}(f:h.FunFrames base l)(k:∀b∈l.filterMap (·.frame),h'.get? b=h.get? b):h'.FunFrames base l:=
 zge f λb hb o e n=>⟨o,(k b hb).trans e,n⟩
theorem zl7{h h' base:Heap}{L:Addr}{oL:Obj}(hL:h'.get? L=some oL)(hd:∀vs,oL.data≠.fields vs)(k:∀b,b≠L->h'.get? b=h.get? b){l:List Env}(f:h.FunFrames base l):h'.FunFrames base l:=
 zge f λb hb o e n=>by
  by_cases q:b=L
  ·exact⟨oL,q▸hL,hd⟩
  ·exact⟨o,(k b q).trans e,n⟩
theorem Act.Fits.notL(f:a.Fits S sh){b:Addr}(hb:b∈a.F):b≠a.L:=λe=>by
 have:=f.outer b hb;rw[e,f.noh₀]at this;exact zaF this
theorem zfL.same{h h':Heap}{X X':Addr->Prop}(k:∀b o vs,h.get? b=some o->¬X b->o.cls≠.none->o.data=.fields vs->h'.get? b=some o)(kX:∀b,(h.get? b).isSome=true->X' b->X b):∀{v},zfL h X v->zfL h' X' v
 |v,x=>by
  induction x with
  |nil=>exact .nil
  |cons z1 z2 zc z3 z4 _ ih=>exact .cons (k _ _ _ z1 z2 zc z3) (λq=>z2 (kX _ (by rw[z1];rfl) q)) zc z3 z4 ih
theorem Rel.goesL(f:a.Fits S sh){X X':Addr->Prop}{ow ow':Nat->Option Addr}{st:Sl}{s:Shared}(R:Rel S sh a X ow st s){h':Heap}(hsb:Heap.SameBut a.L s.heap h')(hP:∀b,(s.heap.get? b).isSome=true->Pv a X' ow' b->Pv a X ow b):zeY S s.heap h' (Pv a X ow) (Pv a X' ow'):=by
 refine zaO R.slots λm hn _=>?_;exact⟨λb o e q=>(hsb.2 b λz=>q (.inr (.inl z))).trans e,λb o e1 e2=>(hsb.2 b λz=>by rw[z,f.nobase]at e1;exact zae e1).trans e2,λb o vs n e c d=>⟨o,(hsb.2 b λz=>by
   refine zrm hn λo' es ep w1 w2 _=>?_;rw[z,w1]at e;left;cases e;rw[w2]at d;cases d).trans e,rfl,rfl⟩,hP,λb o e c=>⟨o,(hsb.2 b λz=>by
   refine zrm hn λo' es ep w1 w2 _=>?_;rw[z,w1]at e;left;cases e;rcases c with⟨_,vs,d⟩|⟨fd,d⟩<;>(rw[w2]at d;cases d)).trans e,rfl,rfl⟩⟩
theorem Rel.setH(f:a.Fits S sh){X X':Addr->Prop}{ow ow':Nat->Option Addr}{st:Sl}{s:Shared}(R:Rel S sh a X ow st s){i:Nat}{y:Str}{u:Option Value}{sl:Slot}{m:Str->Option Value}(hn:s.heap.Ns a.L m)(hL:zBn S sh s.heap (Pv a X ow) ow (a.ov m) st)(hi:sh.names[i]?=some y)
  (ho:∀j,j≠i->ow' j=ow j)(hP:∀b,(s.heap.get? b).isSome=true->Pv a X' ow' b->Pv a X ow b){h':Heap}{tk:Nat}(hn':h'.Ns a.L (λx=>if x=y then u else m x))(hsb:Heap.SameBut a.L s.heap h')
  (hs:∀h',zeY S s.heap h' (Pv a X ow) (Pv a X' ow')->Heap.SameBut a.L s.heap h'->zh1 S h' (Pv a X' ow') u (ow' i) sl)
  (hown:∀b,ow' i=some b->a.h₀.get? b=none∧b≠a.L∧∀j,ow j≠some b)(hX:∀j b,ow' j=some b->¬X' b)(hXh:∀b,(s.heap.get? b).isSome=true->X' b->X b):Rel S sh a X' ow' (st.set i sl) {s with heap:=h',toks:=tk}:=by
 have G:zeY S s.heap h' (Pv a X ow) (Pv a X' ow'):=R.goesL f hsb hP;refine zb0 hL λhl hsl=>?_;have hcode:∀c o,s.heap.get? c=some o->o.cls=.type "code"->(∃vs,o.data=.fields vs)->∃o',h'.get? c=some o'∧o'.cls=o.cls∧o'.data=o.data:=λc o e _ ⟨vs,d⟩=>⟨o,(hsb.2 c λz=>by
   refine zrm hn λo' es ep w1 w2 _=>?_;rw[z,w1]at e;left;cases e;rw[w2]at d;cases d).trans e,rfl,rfl⟩
 refine⟨(zga _ hn' (List.length_set.trans hl) (λj x sl' hj hsl'=>?_)),?_,?_,λj b e=>?_,λj j' b e e'=>?_,R.gens,R.os,λv hv=>?_,?_⟩
 ·by_cases e:j=i
  ·subst e
   rw[zak.all_of hi]at hj;cases hj;have hlt:j<st.length:=by
    have:=(yp.mp hsl').1;rwa[List.length_set]at this
   rw[List.getElem?_set_self hlt]at hsl';cases hsl';rw[f.ovn (List.mem_of_getElem? hi)];show zh1 S h' (Pv a X' ow') (if y=y then u else m y) (ow' j) sl;rw[if_pos rfl];exact hs h' G hsb
  ·rw[List.getElem?_set_ne (Ne.symm e)]at hsl'
   have hne:x≠y:=λz=>by
    subst z;have hj':=(yp.mp hj);have hi':=(yp.mp (zak.all_of hi));obtain⟨j1,j2⟩:=hj';obtain⟨i1,i2⟩:=hi';exact e ((List.getElem_inj f.nodup).mp (j2.trans i2.symm))
   rw[zBB hne];have:=hsl j x sl' hj hsl';rw[ho j e]
   induction sl' with
   |unb=>exact this
   |val d=>obtain⟨h1,w,h2,h3⟩:=this;exact⟨h1,w,h2,h3.goes G⟩
   |own ds=>
    obtain⟨b,o,vs,n,h1,h2,h3,h4,h5,h6,h7⟩:=this;exact⟨b,o,vs,n,h1,h2,(hsb.2 b (R.own j b h1).2.2.2).trans h3,h4,h5,h6.goes G,h7⟩
   |cel o=>
    obtain⟨b,o,w,h1,h2,h3,h4,h5⟩:=this;exact⟨b,o,w,h1,h2,(hsb.2 b (R.own j b h1).2.2.2).trans h3,h4,h5.goes G⟩
 ·exact R.keep.same (λb o e=>hsb.2 b λz=>by rw[z,f.noh₀]at e;exact zae e) λc=>zdx.same hcode
 ·refine zrm hn' λo' es ep z1 z2 _=>?_
  exact zl7 z1 (λvs z=>nomatch z2.symm.trans z) hsb.2 R.frames
 ·left
  by_cases q:j=i
  ·left
   subst q;refine zn2 (hown b e) λz1 z2 _=>?_;exact⟨(yp.mp (zak.all_of hi)).1,z1,hX j b e,z2⟩
  ·refine zyh (R.own j b (ho j q▸e)) λz1 z2 _ z4=>?_
   exact⟨z1,z2,hX j b e,z4⟩
 ·by_cases q:j=i
  ·by_cases q':j'=i
   ·exact q.trans q'.symm
   ·subst q
    exact absurd (ho j' q'▸e') ((hown b e).2.2 j')
  ·by_cases q':j'=i
   ·subst q'
    exact absurd (ho j q▸e) ((hown b e').2.2 j)
   ·exact R.inj j j' b (ho j q▸e) (ho j' q'▸e')
 ·exact(R.hands v hv).same (λb o vs e _ _ d=>(hsb.2 b λz=>by
   refine zrm hn λo' es ep w1 w2 _=>?_;rw[z,w1]at e;left;cases e;rw[w2]at d;cases d).trans e) hXh
 ·exact R.tab.same (hsb.2 _ (f.tab▸f.notL yq)) hcode
theorem Rel.put(f:a.Fits S sh){X X':Addr->Prop}{ow ow':Nat->Option Addr}{st:Sl}{s:Shared}(R:Rel S sh a X ow st s){i:Nat}{y:Str}{v:Value}{sl:Slot}(hi:sh.names[i]?=some y)
  (ho:∀j,j≠i->ow' j=ow j)(hP:∀b,(s.heap.get? b).isSome=true->Pv a X' ow' b->Pv a X ow b)(hs:∀h',zeY S s.heap h' (Pv a X ow) (Pv a X' ow')->Heap.SameBut a.L s.heap h'->zh1 S h' (Pv a X' ow') (some v) (ow' i) sl)
  (hown:∀b,ow' i=some b->a.h₀.get? b=none∧b≠a.L∧∀j,ow j≠some b)(hX:∀j b,ow' j=some b->¬X' b)(hXh:∀b,(s.heap.get? b).isSome=true->X' b->X b)
  {Q:Unit->Shared->Prop}{E:Value->Shared->Prop}{A:Around}(k:∀s',Rel S sh a X' ow' (st.set i sl) s'->zeY S s.heap s'.heap (Pv a X ow) (Pv a X' ow')->Q () s'):wpAny (model S.prog S.w) A (storeName a.env y v) Q E s:=by
 refine zaO R.slots λm hn hL=>?_;have hm:y∈sh.names:=yy hi;have hk:a.env.kindOf y=some .local:=by unfold Env.kindOf;exact f.scope▸(f.loc y hm)
 refine wpAny_storeName_local hk (f.locals▸hn) (λh' hn' hsb=>?_) (by rw[f.scope,f.kind];rfl);rw[f.locals]at hn' hsb;exact k _ (R.setH f hn hL hi ho hP hn' hsb hs hown hX hXh) (R.goesL f hsb hP)
end
section
variable{S:St0}{sh:zak}{a:Act}
noncomputable def zwq:Res->Slot
 |.pl d=>.val d
 |.fr ds=>.own ds
 |.bo _ ds=>.val (.lst ds)
noncomputable def zuo(i:Nat)(r:Res)(st:Sl):Sl:=(r.seal st).set i (zwq r)
theorem zgT(f:a.Fits S sh){X:Addr->Prop}{ow:Nat->Option Addr}{st:Sl}{s:Shared}(R:Rel S sh a X ow st s){i:Nat}{y:Str}{v:Value}{d:D}(hi:sh.names[i]?=some y)(x:zcN S s.heap (Pv a X ow) v d)
  {Q:Unit->Shared->Prop}{E:Value->Shared->Prop}{A:Around}(k:∀s',Rel S sh a X (λj=>if j=i then none else ow j) (st.set i (.val d)) s'->zeY S s.heap s'.heap (Pv a X ow) (Pv a X (λj=>if j=i then none else ow j))->Q () s') :
  wpAny (model S.prog S.w) A (storeName a.env y v) Q E s:=by
 have hle:∀b,Pv a X (λj=>if j=i then none else ow j) b->Pv a X ow b:=λb q=>by
  rcases q with q|q|q|⟨j,q⟩
  ·exact .inl q
  ·exact .inr (.inl q)
  ·exact .inr (.inr (.inl q))
  ·by_cases e:j=i
   ·simp[e]at q
   ·simp[e]at q;exact .inr (.inr (.inr ⟨j,q⟩))
 refine Rel.put f R (v:=v) (sl:=.val d) hi (λj hj=>if_neg hj) (λb _ q=>hle b q) (λh' G _=>⟨if_pos rfl,v,rfl,x.goes G⟩) (λb e=>by simp at e) (λj b e q=>?_) (λb _ q=>q) k;by_cases e':j=i
 ·simp[e']at e
 ·simp[e']at e
  exact(R.own j b e).2.2.1 q
theorem zlE(f:a.Fits S sh){ow:Nat->Option Addr}{st st₁:Sl}{s s₁:Shared}(R:Rel S sh a noX ow st s)(K:Step a st st₁ s s₁){i:Nat}{y:Str}{v:Value}{r:Res}(hi:sh.names[i]?=some y)(x:zhS S a (restr ow st₁) st₁ s.heap s₁.heap v r)
  {Q:Unit->Shared->Prop}{E:Value->Shared->Prop}{A:Around}(k:∀s' ow',Rel S sh a noX ow' (zuo i r st₁) s'->Q () s'):wpAny (model S.prog S.w) A (storeName a.env y v) Q E s₁:=by
 have pl:∀(r:Res),zhS S a (restr ow st₁) st₁ s.heap s₁.heap v r->zwq r=.val r.d->(∀s' ow',Rel S sh a noX ow' (zuo i r st₁) s'->Q () s')->wpAny (model S.prog S.w) A (storeName a.env y v) Q E s₁:=λr x e k=>by
  refine zb0 (zgN f R K x) λK' hv=>?_;refine zgT f (R.step f K') hi hv λs' R' _=>k s' (λj=>if j=i then none else restr ow (r.seal st₁) j) ?_;unfold zuo;exact e▸R'
 left
 induction r with
 |pl d=>exact pl _ x rfl k
 |bo j ds=>exact pl _ x rfl k
 |fr ds=>
  clear pl;obtain⟨b,o,vs,n,rfl,h0,h1,h2,h3,h4,h5⟩:=x;have R1:=R.stepX f K (X':=λc=>c=b) λc hc q=>by rw[q,h0]at hc;exact zaF hc
  have hbL:b≠a.L:=λz=>by
   obtain⟨m,⟨o,_,_,ho,_⟩,_⟩:=R.slots;rw[←z,h0]at ho;exact zae ho
  have hno:∀j,restr ow st₁ j≠some b:=λj q=>by
   have:=R.own_there (zca q);rw[h0]at this;exact zaF this
  have hle:∀c,Pv a noX (λj=>if j=i then some b else restr ow st₁ j) c->Pv a (λc=>c=b) (restr ow st₁) c:=λc q=>by
   rcases q with q|q|q|⟨j,q⟩
   ·exact .inl q
   ·exact .inr (.inl q)
   ·exact q.elim
   ·by_cases e:j=i
    ·simp[e]at q;exact .inr (.inr (.inl q.symm))
    ·simp[e]at q;exact .inr (.inr (.inr ⟨j,q⟩))
  refine Rel.put f R1 (X':=noX) (ow':=λj=>if j=i then some b else restr ow st₁ j) (sl:=.own ds) hi (λj hj=>if_neg hj) (λc _ q=>hle c q) (λh' G hsb=>⟨b,o,vs,n,if_pos rfl,rfl,(hsb.2 b hbL).trans h1,h2,h3,h4.goes G,h5⟩) (λc e=>?_) (λ_ _ _ q=>q) (λ_ _ q=>q.elim) λs' R' _=>k s' _ R';simp at e;subst e;exact⟨R.keep.new h0,hbL,hno⟩
theorem zdG(f:a.Fits S sh){ow:Nat->Option Addr}{st:Sl}{s:Shared}{X:Err->Sl->Prop}(R:Rel S sh a noX ow st s){ev:Value}{s':Shared}(x:zfA S a st s X ev s'):zlv S sh a X ev s':=by
 left;obtain⟨x,st',h1,h2,e,T,rfl,h4,h5,h6⟩:=x;refine⟨x,restr ow st',st',e,T,h1,R.stepX f h2 λb hb q=>?_,rfl,R.keep.new h4,λb hb=>R.keep.new (h5 b hb),h6⟩;rcases q with q|q
 ·rw[q,h4]at hb;exact zaF hb
 ·rw[h5 b q]at hb;exact zaF hb
@[reducible]noncomputable def zao(i:Nat)(c:PE):PS:=λQ X st=>c (λr st₁=>Q .next (zuo i r st₁)) X st
theorem zas{i:Nat}{x:Str}{p' value pos}{c:PE}(hi:sh.names[i]?=some x)(H:zau S sh value c)(hs:∀env,swapsWith value (some (.Name x p')) pos.line env=pure false:=by intro;rfl) :
  zbk S sh (.Assign [.Name x p'] value pos) (zao i c):=λa ow st s Q X g R q=>by
 have f:=g.f;refine wpAny_Assign_Name (yt (H a ow st s _ X f R q) (λv s₁ h=>?_) λ_ _ x=>zdG f R x) (hs _);left;obtain⟨r,st₁,h1,h2,h3⟩:=h;exact zlE f R h2 hi h3 λs' ow' R'=>⟨.next,ow',_,h1,R',trivial⟩
@[reducible]noncomputable def zbt(c:PE):PS:=λQ X st=>c (λr st₁=>Q (.ret r.d) (r.seal st₁)) X st
theorem ztR{n:Nat}{e pos}{c:PE}(H:zeg n S sh e c):zix n S sh (.Return (some e) pos) (zbt c):=λa ow st s Q X hn g R q=>by
 have f:=g.f;refine wpAny_Return_some (yt (H a ow st s _ X hn f R q) (λv s₁ h=>?_) λ_ _ x=>zdG f R x);left;obtain⟨r,st₁,h1,h2,h3⟩:=h;refine zb0 (zgN f R h2 h3) λK hv=>?_;exact⟨_,_,_,h1,R.step f K,hv,λz=>let ⟨e,e1,e2⟩:=h3.new z;(zbB e e1 (R.keep.new e2))⟩
theorem zbl{e pos}{c:PE}(H:zau S sh e c):zbk S sh (.Return (some e) pos) (zbt c):=(ztR H.t).s
theorem zyX{pos}:zbk S sh (.Pass pos) λQ _ st=>Q .next st:=λa ow st s Q X f R q=>wpAny_Pass ⟨.next,ow,st,q,R,trivial⟩
theorem zxg{pos}:zbk S sh (.Continue pos) λQ _ st=>Q .cont st:=λa ow st s Q X f R q=>yl (yX (yo ⟨.cont,ow,st,q,R,trivial⟩))
@[reducible]noncomputable def zeA(t:PT)(c₁ c₂:PS):PS:=λQ X st=>t (λb st₁=>ifB b (c₁ Q X st₁) (c₂ Q X st₁)) X st
theorem zha{n:Nat}{t:Expr}{b o:List Stmt}{pos}{ct:PT}{cb co:PS}(Ht:zty n S sh t ct)(Hb:zdj n S sh b cb)(Ho:zdj n S sh o co):zix n S sh (.If t b o pos) (zeA ct cb co):=λa ow st s Q X hn g R q=>by
 have f:=g.f;refine wpAny_If (yt (wpAny_toks_of hn (Ht a ow st s _ X hn f R q)) (λc s₁ h=>?_) λ_ _ x=>zdG f R x.2);refine zaO h.2 λst₁ h1 h2=>?_
 induction c with
 |true=>exact Hb a _ st₁ s₁ Q X h.1 g (R.step f h2) (ziG h1)
 |false=>exact Ho a _ st₁ s₁ Q X h.1 g (R.step f h2) (ziL h1)
theorem zdP{t:Expr}{b o:List Stmt}{pos}{ct:PT}{cb co:PS}(Ht:zdg S sh t ct)(Hb:zaG S sh b cb)(Ho:zaG S sh o co):zbk S sh (.If t b o pos) (zeA ct cb co):=(zha Ht.t Hb.t Ho.t).s
@[reducible]noncomputable def sqK(c₂:PS)(Q:Fl->Sl->Prop)(X:Err->Sl->Prop):Fl->Sl->Prop:=λfl st₁=>match fl with
 |.next=>c₂ Q X st₁
 |.brk=>Q .brk st₁
 |.cont=>Q .cont st₁
 |.ret d=>Q (.ret d) st₁
@[reducible]noncomputable def zaf(c₁ c₂:PS):PS:=λQ X st=>c₁ (sqK c₂ Q X) X st
theorem zx5:zaG S sh [] λQ _ st=>Q .next st:=λa ow st s Q X f R q=>wpAny_execs_nil ⟨.next,ow,st,q,R,trivial⟩
theorem zaz{n:Nat}{t:Stmt}{ts:List Stmt}{c cs:PS}(H:zix n S sh t c)(Hs:zdj n S sh ts cs):zdj n S sh (t::ts) (zaf c cs):=λa ow st s Q X hn g R q=>by
 refine wpAny_execs_cons (yt (wpAny_toks_of hn (H a ow st s _ X hn g R q)) (λfl s₁ h=>?_) λ_ _ x=>x.2);left;obtain⟨hn',fl',ow',st',h1,h2,h3⟩:=h
 induction fl<;>induction fl'<;>first|exact h3.elim|exact Hs a ow' st' s₁ Q X hn' g h2 h1|exact⟨_,ow',st',h1,h2,h3⟩
theorem zac{t:Stmt}{ts:List Stmt}{c cs:PS}(H:zbk S sh t c)(Hs:zaG S sh ts cs):zaG S sh (t::ts) (zaf c cs):=(zaz H.t Hs.t).s
end
noncomputable def zqd(F:List Addr)(G:Addr->Prop)(h h':Heap):Prop:=∀b o,h.get? b=some o->¬G b->(b∉F->h'.get? b=some o)∧∃o',h'.get? b=some o'∧zqq h' o o'
theorem zdU.toG{F:List Addr}{G:Addr->Prop}{h h':Heap}(k:zdU F h h'):zqd F G h h':=λb o e _=>k b o e
theorem zqd.of_but{F:List Addr}{G:Addr->Prop}{h h':Heap}(k:∀b o,h.get? b=some o->¬G b->h'.get? b=some o):zqd F G h h':=λb o e n=>⟨λ_=>k b o e n,o,k b o e n,.refl _ _⟩
theorem zeL.transG{F:List Addr}{L:Addr}{G:Addr->Prop}{p:zrn}{h2 h3:Heap}(x:zeL F p h2)(y:zqd (L::F) G h2 h3)(n:p.get? L=none)(g:∀b o,p.get? b=some o->¬G b)(kc:∀c,zdx h2 c->zdx h3 c):zeL F p h3:=λb o e=>by
 left;obtain⟨x1,o',x2,s⟩:=x b o e;obtain⟨_,o'',y2,t⟩:=y b _ x2 (g b o e);refine⟨λhb=>(y b o (x1 hb) (g b o e)).1 λq=>?_,o'',y2,zqq.trans (zdU.refl [] h3) (s.same kc) t⟩;rcases yz.mp q with q|q
 ·rw[q,n]at e;exact zae e
 ·exact hb q
section
variable{S:St0}{sh:zak}{a:Act}
theorem Rel.moveG(f:a.Fits S sh){X X' G:Addr->Prop}{ow:Nat->Option Addr}{st:Sl}{s s':Shared}(R:Rel S sh a X ow st s)(k:zqd (a.L::a.F) G s.heap s'.heap)(hg:s'.gens=s.gens)(ho:s'.os=s.os)
  (hG:∀b,G b->X b)(hG0:∀b,G b->a.h₀.get? b=none)(hGF:∀b,G b->b∉a.L::a.F)(hGd:∀b o,G b->s.heap.get? b=some o->∃vs,o.data=.fields vs)(hX:∀b,(s.heap.get? b).isSome=true->X' b->X b)(hGc:∀b o,G b->s.heap.get? b=some o->o.cls≠.type "code"):Rel S sh a X' ow st s':=by
 refine zcM R.slots λm hn hl hs=>?_;have hP:∀b,(s.heap.get? b).isSome=true->Pv a X' ow b->Pv a X ow b:=λb hb q=>by
  rcases q with q|q|q|q
  ·exact .inl q
  ·exact .inr (.inl q)
  ·exact .inr (.inr (.inl (hX b hb q)))
  ·exact .inr (.inr (.inr q))
 have nob:=R.nob f;have GP:∀b,¬Pv a X ow b->¬G b:=λb n q=>n (.inr (.inr (.inl (hG b q))));have weak:∀b o,s.heap.get? b=some o->¬G b->¬zjM o->∃o',s'.heap.get? b=some o'∧o'.cls=o.cls∧o'.data=o.data:=λb o e n nt=>let ⟨_,o',q,t,_⟩:=k b o e n;let ⟨sl,e⟩:=t nt;(zga o' q (by rw[e]) (by rw[e]))
 have weakD:∀b o,s.heap.get? b=some o->¬G b->¬zjM o->∃o',s'.heap.get? b=some o'∧o'.cls=o.cls∧o'.data=o.data∧o'.dict=o.dict:=λb o e n nt=>let ⟨_,o',q,t,_⟩:=k b o e n;let ⟨sl,e⟩:=t nt;(zBt o' q (by rw[e]) (by rw[e]) (by rw[e]))
 have kc:∀c,zdx s.heap c->zdx s'.heap c:=λc=>zdx.same λc o e hc _=>weak c o e (λq=>hGc c o q e hc) (zaY hc);have hbase:∀b o,S.base.get? b=some o->¬G b:=λb o e q=>by
  have:=f.stays b o e;rw[hG0 b q]at this;exact zae this
 have GS:zeY S s.heap s'.heap (Pv a X ow) (Pv a X' ow):=⟨λb o e n=>(k b o e (GP b n)).1 λq=>n (f.inP b q),λb o e1 e2=>(k b o e2 (hbase b o e1)).1 λq=>(by rw[(nob b q).1]at e1;exact zae e1),λb o vs n e c d=>weak b o e (λq=>by obtain⟨ws,z⟩:=hGd b o q e;rw[d]at z;cases z) (zaY c),hP,λb o e c=>weak b o e (λq=>by
   rcases c with⟨c,_⟩|⟨fd,c⟩
   ·exact hGc b o q e c
   ·obtain⟨ws,z⟩:=hGd b o q e;rw[c]at z;cases z) (zgZ c)⟩
 have hfr:∀b∈a.L::a.F,¬G b:=λb hb q=>hGF b q hb;refine⟨(zga m ?_ hl (λi y sl hi hsl=>?_)),R.keep.transG k f.noh₀ (λb o e q=>by rw[hG0 b q]at e;exact zae e) kc,?_,λi b h=>?_,R.inj,hg.trans R.gens,ho.trans R.os,λv hv=>(R.hands v hv).same (λb o vs e nX hc d=>?_) hX,?_⟩
 ·refine zrm hn λo es ep h1 h2 h3=>?_
  refine zcM (weak a.L o h1 (hfr _ yq) (zdq λvs e=>by cases h2.symm.trans e)) λo' q1 _ q2=>?_;exact zzB o' es ep q1 (q2.trans h2) h3
 ·have:=hs i y sl hi hsl
  clear hsl
  induction sl with
  |unb=>exact this
  |val d=>obtain⟨h1,w,h2,h3⟩:=this;exact⟨h1,w,h2,h3.goes GS⟩
  |own ds=>
   left;obtain⟨b,o,vs,n,h1,h2,h3,h4,h5,h6,h7⟩:=this;refine zzi (weakD b o h3 (λq=>(R.own i b h1).2.2.1 (hG b q)) (zaY h4)) λo' q1 q2 q3 q4=>?_;exact⟨b,o',vs,n,h1,h2,q1,q2.trans h4,q3.trans h5,h6.goes GS,q4.trans h7⟩
  |cel d=>
   left;obtain⟨b,o,w,h1,h2,h3,h4,h5⟩:=this;refine zcM (weak b o h3 (λq=>(R.own i b h1).2.2.1 (hG b q)) (zkn h4)) λo' q1 _ q3=>?_;exact⟨b,o',w,h1,h2,q1,q3.trans h4,h5.goes GS⟩
 ·exact zge R.frames λb hb o e n=>by
   refine zcM (weak b o e (hfr b (f.LFsub b hb)) (zdq n)) λo' q1 _ q2=>?_;exact zbB o' q1 (λvs=>q2▸n vs)
 ·refine zyh (R.own i b h) λh1 h2 h3 h4=>?_
  exact⟨h1,h2,λq=>h3 (hX b (R.own_there h) q),h4⟩
 ·have hb:b∉a.L::a.F:=λq=>(nob b q).2 o vs e hc d
  exact(k b o e λq=>nX (hG b q)).1 hb
 ·refine zaO R.tab λps h1 h2=>?_
  have nG:¬G S.tab:=λq=>hGF _ q (f.tab▸yn _ yq);left;obtain⟨_,o',k1,_,k2⟩:=k _ _ h1 nG;refine zaO (k2 ps rfl rfl) λmore hzz k3=>?_;subst hzz;exact zbB (ps++more) k1 (by rw[Array.toList_append];exact zlI.append k3 (h2.mono kc))
structure Fly(S:St0)(sh:zak)(a:Act)(ow:Nat->Option Addr)(st:Sl)(e:Addr)(T:Option Addr)(x:Err)(s:Shared):Prop where
 rel:Rel S sh a (zkw e T) ow st s
 newE:a.h₀.get? e=none
 newT:∀b,T=some b->a.h₀.get? b=none
 obj:zlk S s.heap a.L e T x
theorem Fly.err{X:Err->Sl->Prop}{ow:Nat->Option Addr}{st:Sl}{e:Addr}{T:Option Addr}{x:Err}{s:Shared}(F:Fly S sh a ow st e T x s)(q:X x st):zlv S sh a X (.ref e) s:=
 ⟨x,ow,st,e,T,q,F.rel,rfl,F.newE,F.newT,F.obj⟩
theorem zlv.fly{X:Err->Sl->Prop}{ev:Value}{s:Shared}(q:zlv S sh a X ev s):∃x ow st e T,X x st∧ev=.ref e∧Fly S sh a ow st e T x s:=by
 left;obtain⟨x,ow,st,e,T,h1,h2,h3,h4,h5,h6⟩:=q;exact⟨x,ow,st,e,T,h1,h3,h2,h4,h5,h6⟩
theorem Fly.off{ow:Nat->Option Addr}{st:Sl}{e:Addr}{T:Option Addr}{x:Err}{s:Shared}(f:a.Fits S sh)(F:Fly S sh a ow st e T x s):∀b,zkw e T b->b∉a.L::a.F:=λb hb hm=>by
 have nob:=(F.rel.nob f b hm).2;obtain⟨oe,vs,tp,c,h1,h2,h3,h4,h5,h6,h7,h10⟩:=F.obj.obj;clear F;rcases hb with rfl|hb
 ·exact nob oe vs h1 (h2▸(S.cls_ne x.1).1) h3
 ·left
  subst hb;obtain⟨_,_,oT,ts,fl,q1,qc,q2,_⟩:=h10;exact nob oT ts q1 (by rw[qc];simp) q2
theorem zh4(f:a.Fits S sh){ow:Nat->Option Addr}{st:Sl}{e:Addr}{T:Option Addr}{x:Err}{s:Shared}(F:Fly S sh a ow st e T x s){fr:Option Addr}(hfr:fr=none∨fr=some a.L)
  {Q:Unit->Shared->Prop}{E:Value->Shared->Prop}{A:Around}(k:∀s',Fly S sh a ow st e T x s'->(fr=none->∀L',zlk S s'.heap L' e T x)->Q () s'):wpAny (model S.prog S.w) A (setFlight (.ref e) fr) Q E s:=by
 obtain⟨oe,vs,tp,c,h1,h2,h3,h4,h5,h6,h7,h10⟩:=F.obj.obj;unfold setFlight;left
 induction T with
 |none=>
  refine yl (wpAny_field h1 h3 h10 ?_);refine zbY (by decide) ?_;exact yo (k s F λ_ L'=>⟨⟨oe,vs,tp,c,h1,h2,h3,h4,h5,h6,h7,h10⟩⟩)
 |some b=>
  obtain⟨q1,q2,oT,ts,fl,q3,qc,q4,q5,q6⟩:=h10;have hsz:3<ts.size:=(Array.getElem?_eq_some_iff.mp q5).1;refine yl (wpAny_field h1 h3 q1 ?_);refine zer (show(Value.ref b != Value.none)=true from rfl) ?_;refine wpAny_setField q3 q4 hsz ?_;have other:∀c,c≠b->(s.heap.update b (Obj.mapFields (·.setIfInBounds 3 (fr.elim Value.none λf=>rawInt f)))).get? c=s.heap.get? c:=λc hc=>xj _ _ (Ne.symm hc);have self:=xi (Obj.mapFields (·.setIfInBounds 3 (fr.elim Value.none λf=>rawInt f))) q3 (Obj.isFreed_of_fields (Obj.data_mapFields q4 _));have hR:Rel S sh a (zkw e (some b)) ow st {s with heap:=s.heap.update b (Obj.mapFields (·.setIfInBounds 3 (fr.elim Value.none λf=>rawInt f)))}:=
   F.rel.moveG f (G:=λc=>c=b) (.of_but λc o e n=>(other c n).trans e) rfl rfl (λc q=>.inr (by rw[q])) (λc q=>q▸F.newT b rfl) (λc q=>q▸F.off f b (.inr rfl)) (λc o q e=>by subst q;rw[q3]at e;obtain rfl:=yj e;exact⟨_,q4⟩) (λ_ _ q=>q) (λc o q e z=>by subst q;rw[q3]at e;obtain rfl:=yj e;rw[qc]at z;simp at z)
  have hO:∀L':Addr,((fr.elim Value.none λf=>rawInt f)=.none∨(fr.elim Value.none λf=>rawInt f)=rawInt L')->zlk S (s.heap.update b (Obj.mapFields (·.setIfInBounds 3 (fr.elim Value.none λf=>rawInt f)))) L' e (some b) x:=λL' hL=>by
   refine⟨⟨oe,vs,tp,c,(other e (Ne.symm q2)).trans h1,h2,h3,h4,h5,h6.same (λd o vs h n _ _=>(other d λz=>n (.inr (by rw[z]))).trans h) (λ_ _ q=>q),h7.mono (λt o ws n e _ d=>(zga o ((other t λz=>?_).trans e) rfl rfl)),q1,q2,_,_,_,self,(Obj.cls_mapFields _ _).trans qc,Obj.data_mapFields q4 _,by simp[hsz],hL⟩⟩;obtain rfl:=z.symm;rw[q3]at e;obtain rfl:=yj e;cases q4.symm.trans d
  refine k _ ⟨hR,F.newE,F.newT,hO a.L ?_⟩ λz L'=>hO L' ?_
  ·clear hO hR self other k
   rcases hfr with rfl|rfl
   ·exact .inl rfl
   ·exact .inr rfl
  ·clear hO hR self other G k hfr
   subst z;exact .inl rfl
end
section
variable{S:St0}{sh:zak}{a:Act}
theorem zm4(g:a.FitsS S sh){ow:Nat->Option Addr}{st:Sl}{e:Addr}{T:Option Addr}{x:Err}{s:Shared}(F:Fly S sh a ow st e T x s){head:Value}{hadNext:Bool}
  {Q:Unit->Shared->Prop}{E:Value->Shared->Prop}{A:Around}(hA:A.frames=some (a.env::a.outer))(k:∀T' s',Fly S sh a ow st e (some T') x s'->Q () s') :
  wpAny (model S.prog S.w) A (do let fo ←frameOf a.env;let pl ←entryPlaceOf a.L hadNext;let b ←EntryCells.newEntry head fo .none (rawInt a.L) .none pl;setField (.ref e) 1 b) Q E s:=by
 have f:=g.f;left;obtain⟨oe,vs,tp,c,h1,h2,h3,h4,h5,h6,h7,h10⟩:=F.obj.obj;have hsz:1<vs.size:=by
  clear F
  induction T with
  |none=>exact(Array.getElem?_eq_some_iff.mp h10).1
  |some b=>exact(Array.getElem?_eq_some_iff.mp h10.1).1
 have hsz2:2<vs.size:=(Array.getElem?_eq_some_iff.mp h5).1;refine yl (wpAny_frameOf_fun hA (g.fr▸F.rel.frames) g.frame λh1a hs1=>?_);refine yl (wpAny_entryPlaceOf λpl hpl=>?_);unfold EntryCells.newEntry newFields;refine yl (wpAny_newObj_type ?_ (hpl.sizeOk5 _ _ _ _ _));have heF:e∉a.L::a.F:=F.off f e (.inl rfl);have he1:h1a.get? e=some oe:=(hs1.2.1 e λq=>heF (g.sub e q)).trans h1;generalize hnew:({cls:=.type "traceback",dict:=none,data:=.fields ([head,.ref a.L,.none,rawInt a.L,.none]++(if pl.isEmpty then List.replicate 6 Value.none else pl)).toArray}:Obj)=oT;have hTd:oT.data=.fields ([head,.ref a.L,.none,rawInt a.L,.none]++(if pl.isEmpty then List.replicate 6 Value.none else pl)).toArray:=ya _ hnew.symm;have hTf:oT.isFreed=false:=Obj.isFreed_of_fields hTd;have he2:=yE (h:=h1a) oT he1;refine wpAny_setField he2 h3 hsz ?_;have hTe:h1a.objs.size≠e:=Nat.ne_of_gt (Heap.lt_size he1);have hd3:=Obj.data_mapFields h3 (·.setIfInBounds 1 (Value.ref h1a.objs.size));have he3:=xi (Obj.mapFields (·.setIfInBounds 1 (Value.ref h1a.objs.size))) he2 (Obj.isFreed_of_fields hd3);have keep:∀b o,b≠e->h1a.get? b=some o->((h1a.push oT).update e (Obj.mapFields (·.setIfInBounds 1 (Value.ref h1a.objs.size)))).get? b=some o:=λb o hbe hb=>by
  rw[Heap.get?_update_other _ _ (Ne.symm hbe)];exact yE _ hb
 have hT3:((h1a.push oT).update e (Obj.mapFields (·.setIfInBounds 1 (Value.ref h1a.objs.size)))).get? h1a.objs.size=some oT:=by
  rw[Heap.get?_update_other _ _ (Ne.symm hTe)];exact yI h1a hTf
 have hTnew:s.heap.get? h1a.objs.size=none:=yT (hs1.1▸(yr _));have K:zqd (a.L::a.F) (λc=>c=e) s.heap ((h1a.push oT).update e (Obj.mapFields (·.setIfInBounds 1 (Value.ref h1a.objs.size)))):=λb o hb ne=>by
  refine⟨λhF=>keep b o ne ((hs1.2.1 b λq=>hF (g.sub b q)).trans hb),?_⟩;by_cases q:b∈(a.env::a.outer).filterMap (·.frame)
  ·left
   obtain⟨sl,hsl⟩:=hs1.2.2 b o hb;have nd:=(zft (g.fr▸F.rel.frames) b q).2 o;exact⟨_,keep b _ ne hsl,λ_=>⟨sl,rfl⟩,λvs _ d=>absurd d (nd vs hb)⟩
  ·exact⟨o,keep b o ne ((hs1.2.1 b q).trans hb),.refl _ _⟩
 have hargs:=h7.mono (h':=(h1a.push oT).update e (Obj.mapFields (·.setIfInBounds 1 (Value.ref h1a.objs.size)))) λt o ws n ht hc hd=>by
  left;obtain⟨_,o',q,t1,_⟩:=K t o ht λz=>by
   rw[z,h1]at ht;obtain rfl:=yj ht;cases h3.symm.trans hd
  obtain⟨sl,rfl⟩:=t1 (zaY hc);exact zga _ q rfl rfl
 refine k h1a.objs.size _ ⟨F.rel.moveG f K rfl rfl (λb q=>.inl q) (λb q=>q▸F.newE) (λb q=>q▸heF) (λc o q e=>by subst q;rw[h1]at e;obtain rfl:=yj e;exact⟨_,h3⟩) (λb hb q=>?_) (λc o q e z=>by subst q;rw[h1]at e;obtain rfl:=yj e;exact(S.cls_ne x.1).2 (h2.symm.trans z)),F.newE,λb q=>?_,?_⟩
 ·rcases q with q|q
  ·exact .inl q
  ·injection q with q
   rw[←q,hTnew]at hb;exact zaF hb
 ·injection q with q
  subst q;cases z:a.h₀.get? h1a.objs.size with
  |none=>rfl
  |some oo=>have zz:=F.rel.keep.there z;rw[hTnew]at zz;exact zaF zz
 ·refine⟨_,_,tp,c,he3,(Obj.cls_mapFields _ _).trans h2,hd3,by rw[Array.getElem?_setIfInBounds_ne (by decide)];exact h4,by rw[Array.getElem?_setIfInBounds_ne (by decide)];exact h5,
   h6.same (λb oo ws hb nX hc hd=>?_) (λb hb q=>?_),hargs,by simp[hsz],hTe,oT,_,rawInt a.L,hT3,ya _ hnew.symm,hTd,rfl,.inr rfl⟩
  ·exact(K b oo hb λz=>nX (.inl z)).1 λz=>(F.rel.nob f b z).2 oo ws hb hc hd
  ·rcases q with q|q
   ·exact .inl q
   ·injection q with q
    rw[←q,hTnew]at hb;exact zaF hb
theorem zma(g:a.FitsS S sh){ow:Nat->Option Addr}{st:Sl}{e:Addr}{T:Option Addr}{x:Err}{s:Shared}(F:Fly S sh a ow st e T x s)
  {Q:Unit->Shared->Prop}{E:Value->Shared->Prop}{A:Around}(hA:A.frames=some (a.env::a.outer))(k:∀T' s',Fly S sh a ow st e (some T') x s'->Q () s'):wpAny (model S.prog S.w) A (noteFrame (.ref e) a.env) Q E s:=by
 have f:=g.f;obtain⟨oe,vs,tp,c,h1,h2,h3,h4,h5,h6,h7,h10⟩:=F.obj.obj;unfold noteFrame;simp only[g.frame];left
 induction T with
 |none=>
  refine yl (wpAny_field h1 h3 h10 ?_);refine zbY (by decide) ?_;exact zm4 g F hA k
 |some b=>
  obtain⟨q1,q2,oT,ts,fl,q3,qc,q4,q5,q6⟩:=h10;have hsz:3<ts.size:=(Array.getElem?_eq_some_iff.mp q5).1;refine yl (wpAny_field h1 h3 q1 ?_);refine zer (show(Value.ref b != Value.none)=true from rfl) ?_;refine yl (wpAny_field q3 q4 q5 ?_);clear q5;rcases q6 with rfl|rfl
  ·refine zbY (show ¬((Value.none==rawInt a.L)=true)from by simp[rawInt]) ?_
   -- the entry before is no more in flight
   have hst:setField (.ref b) 3 Value.none=setField (.ref b) 3 Value.none:=rfl;refine yl (wpAny_setField q3 q4 hsz ?_);have other:∀c,c≠b->(s.heap.update b (Obj.mapFields (·.setIfInBounds 3 Value.none))).get? c=s.heap.get? c:=λc hc=>xj _ _ (Ne.symm hc);have self:=xi (Obj.mapFields (·.setIfInBounds 3 Value.none)) q3 (Obj.isFreed_of_fields (Obj.data_mapFields q4 _));refine zm4 g (T:=some b) (s:={s with heap:=s.heap.update b (Obj.mapFields (·.setIfInBounds 3 Value.none))}) ⟨F.rel.moveG f (G:=λc=>c=b) (.of_but λc o e n=>(other c n).trans e) rfl rfl (λc q=>.inr (by rw[q])) (λc q=>q▸F.newT b rfl) (λc q=>q▸F.off f b (.inr rfl)) (λc o q e=>by subst q;rw[q3]at e;obtain rfl:=yj e;exact⟨_,q4⟩) (λ_ _ q=>q) (λc o q e z=>by subst q;rw[q3]at e;obtain rfl:=yj e;rw[qc]at z;simp at z),F.newE,F.newT,?_⟩ hA k;refine⟨oe,vs,tp,c,(other e (Ne.symm q2)).trans h1,h2,h3,h4,h5,h6.same (λd o vs h n _ _=>(other d λz=>n (.inr (by rw[z]))).trans h) (λ_ _ q=>q),h7.mono (λt o ws n e _ d=>(zga o ((other t λz=>?_).trans e) rfl rfl)),q1,q2,_,_,_,self,(Obj.cls_mapFields _ _).trans qc,Obj.data_mapFields q4 _,by simp[hsz],.inl rfl⟩;obtain rfl:=z.symm;rw[q3]at e;obtain rfl:=yj e;cases q4.symm.trans d
  ·refine zer (show(rawInt a.L==rawInt a.L)=true from by simp) ?_
   exact yo (k b s F)
theorem zvT(g:a.FitsS S sh){A:Around}{X:Err->Sl->Prop}{ow:Nat->Option Addr}{st:Sl}{e b:Addr}{x:Err}{s:Shared}(F:Fly S sh a ow st e (some b) x s)(q:X x st):cameBackBy (model S.prog S.w) A a.env (zlv S sh a X) (.ref e) s:=by
 obtain⟨oe,vs,tp,c,h1,h2,h3,h4,h5,h6,h7,q1,_⟩:=F.obj.obj;unfold cameBackBy;refine yl (wpAny_field h1 h3 q1 ?_);refine zbY (by simp) ?_;rw[g.frame];exact zh4 g.f F (.inr rfl) λs' F' _=>F'.err q
theorem zdC(g:a.FitsS S sh){A A':Around}(hA:A.frames=some (a.env::a.outer)){X:Err->Sl->Prop}{ev:Value}{s:Shared}(q:zlv S sh a X ev s):notedBy (model S.prog S.w) A a.env (cameBackBy (model S.prog S.w) A' a.env (zlv S sh a X)) ev s:=by
 left;obtain⟨x,ow,st,e,T,h,rfl,F⟩:=q.fly;exact zma g F hA λT' s' F'=>zvT g F' h
@[reducible]noncomputable def lpK(Q:Fl->Sl->Prop)(I:Sl->Prop):Fl->Sl->Prop:=λfl st₂=>match fl with
 |.next=>I st₂
 |.cont=>I st₂
 |.brk=>Q .next st₂
 |.ret d=>Q (.ret d) st₂
@[reducible]noncomputable def zA0(t:PT)(b:PS)(Q:Fl->Sl->Prop)(X:Err->Sl->Prop)(I:Sl->Prop):Sl->Prop:=t (λc st₁=>ifB c (b (lpK Q I) X st₁) (Q .next st₁)) X
@[irreducible]noncomputable def zeX(t:PT)(b:PS):PS:=λQ X st=>∃(n:Nat)(I:Nat->Sl->Prop),I n st∧∀n st,I n st->zA0 t b Q X (λst'=>∃m,m<n∧I m st') st
theorem zhv{t:Expr}{b:List Stmt}{pos}{ct:PT}{cb:PS}(Ht:zdg S sh t ct)(Hb:zaG S sh b cb):zbk S sh (.While t b [] pos) (zeX ct cb):=λa ow st s Q X g R q=>by
 have f:=g.f;unfold zeX at q;refine zfw q λn I h0 hI=>?_;refine wpAny_While (codeAny_whileLoop (λn s=>∃ow st,I n st∧Rel S sh a noX ow st s) (λn s hs=>?_) n (zny ow st h0 R));refine zfw hs λow st h1 R=>?_;refine yt (Ht a ow st s _ X f R (hI n st h1)) (λc s₁ h=>?_) λ_ _ x=>zdC g g.frames (zdG f R x);refine zaO h λst₁ h2 h3=>?_;have R1:=R.step f h3
 induction c with
 |false=>exact wpAny_execs_nil ⟨.next,_,st₁,(ziL h2),R1,trivial⟩
 |true=>
  refine yt (Hb a _ st₁ s₁ _ X g R1 (ziG h2)) (λfl s₂ h=>?_) λ_ _ x=>zdC g g.frames x;left;obtain⟨fl',ow',st₂,g1,g2,g3⟩:=h
  induction fl<;>induction fl'<;>first
   |exact g3.elim
   |(obtain⟨m,hm,hi⟩:=g1;exact⟨m,hm,ow',st₂,hi,g2⟩)
   |exact⟨.next,ow',st₂,g1,g2,trivial⟩
   |exact⟨_,ow',st₂,g1,g2,g3⟩
end
noncomputable def bmV:List Value:=[.type "ValueError",.type "Exception",.type "BaseException",.type "object"]
structure Std(S:St0):Prop where
 g:S.base.Ns mainGlobals S.mg
 b:S.base.Ns builtinsNs S.mb
 nl:S.base.NoLimit
 nd:∃mc,S.base.Ns cStatics mc∧mc "sys.int_max_str_digits"=none
 blt:∀x:Str,x≠"__name__"->S.mb x=bootBuiltins x
 own:∃C,OwnClsQ "TOMLDecodeError" C bmV "ValueError.__new__" S.mg S.base
 tab:S.base.get? S.tab=none
structure zCn where
 bm:List Value
 N:Addr
 nm:Str
 q:Str
 bs:List Value
 hdct:Bool
 sn:List Str
 sub:List Value
 ab:Bool
 col:Option Bool
 dd:Option Addr
 k0:Option Value
 k1:Option Value
 k2:Option Value
 k3:Option Value
 k5:Option Value
 mN:Str->Option Value
structure zBE(C:Addr)(bmB:List Value)(newId:String)(h:Heap)(x:zCn):Prop where
 hC:h.get? C=some (excClassObj x.nm x.q C x.N x.bs x.bm x.hdct x.sn x.sub x.ab x.col x.dd x.k0 x.k1 x.k2 x.k3 x.k5 newId)
 hN:h.Ns x.N x.mN
 hq:∀n∈quietNames,x.mN n=none
 T:OwnTailQ h bmB x.bm
theorem zgR{X:Str}{C:Addr}{bmB:List Value}{newId:String}{mg:Str->Option Value}{h:Heap}(O:OwnClsQ X C bmB newId mg h):∃x,zBE C bmB newId h x:=by
 left;obtain⟨bm,N,nm,q,bs,hdct,sn,sub,ab,col,dd,k0,k1,k2,k3,k5,mN,hC,hN,hq,T⟩:=O.obj;exact⟨⟨bm,N,nm,q,bs,hdct,sn,sub,ab,col,dd,k0,k1,k2,k3,k5,mN⟩,hC,hN,hq,T⟩
section
variable{S:St0}{sh:zak}{a:Act}
theorem Rel.stays(f:a.Fits S sh){X:Addr->Prop}{ow:Nat->Option Addr}{st:Sl}{s:Shared}(R:Rel S sh a X ow st s):S.base.StaysIn s.heap:=
 R.keep.stays (λb hb=>(R.nob f b (yn _ hb)).1) f.stays
theorem zfe(f:a.Fits S sh){x:Str}{pos:Pos}(hx:sh.scope.names.lookup x=some .globalImplicit){s:Shared}(g:s.heap.Ns mainGlobals S.mg){v:Value}(hv:S.mg x=some v){A:Around}{Q:Value->Shared->Prop}{E:Value->Shared->Prop}(q:Q v s)(hd:(x==("__debug__":Str))=false:=by decide) :
  wpAny (model S.prog S.w) A (eval (.Name x pos) a.env) Q E s:=by
 refine wpAny_Name ?_ hd;rw[loadName_read (env:=a.env) (f.scope▸f.kind) (by unfold Env.kindOf;exact f.scope▸hx)];exact loadGlobal_global (f.glob▸g) hv q
theorem zcm(f:a.Fits S sh){x:Str}{pos:Pos}(hx:sh.scope.names.lookup x=some .globalImplicit){s:Shared}(g:s.heap.Ns mainGlobals S.mg)(b:s.heap.Ns builtinsNs S.mb)(hn:S.mg x=none){v:Value}(hv:S.mb x=some v){A:Around}{Q:Value->Shared->Prop}{E:Value->Shared->Prop}(q:Q v s)(hd:(x==("__debug__":Str))=false:=by decide) :
  wpAny (model S.prog S.w) A (eval (.Name x pos) a.env) Q E s:=by
 refine wpAny_Name ?_ hd;rw[loadName_read (env:=a.env) (f.scope▸f.kind) (by unfold Env.kindOf;exact f.scope▸hx)];exact loadGlobal_builtin (f.glob▸g) hn (f.blt▸b) hv q
theorem zyl{x:Str}{pos}{d:D}{v:Value}(D:Std S)(hx:sh.scope.names.lookup x=some .globalImplicit)(hv:S.mg x=some v)(hr:∀h P,S.base.StaysIn h->zcN S h P v d)(he:d.isExc=false:=by rfl)(hd:(x==("__debug__":Str))=false:=by decide):zau S sh (.Name x pos) λQ _ st=>Q (.pl d) st:=λa ow st s Q X f R q=>
 zfe f hx (D.g.keeps (R.stays f)) hv (zq3 (.refl ..) (hr _ _ (R.stays f)) q he) hd
noncomputable def EC.name:EC->String
 |.toml=>"TOMLDecodeError"
 |.index=>"IndexError"
 |.value=>"ValueError"
 |.key=>"KeyError"
 |.recur=>"RecursionError"
noncomputable def zk8:EC->EC->Option Bool
 |.index,.index=>some true
 |.value,.value=>some true
 |.key,.key=>some true
 |.recur,.recur=>some true
 |.toml,.toml=>some true
 |.toml,.value=>some true
 |.toml,.recur=>some false
 |.toml,.index=>some false
 |.toml,.key=>some false
 |_,_=>none
theorem zzW(T:EC):(Str.ofString T.name==("__debug__":Str))=false:=by induction T<;>decide
theorem zx1(T:EC):Str.ofString T.name≠"__name__":=by induction T<;>decide
theorem zzo(S:St0){X:EC}(h:X≠.toml):S.cls X=.type X.name:=by induction X<;>first|rfl|exact absurd rfl h
theorem zzK{T:EC}(h:T≠.toml):bootBuiltins (Str.ofString T.name)=some (.type T.name):=by induction T<;>first|exact absurd rfl h|decide +kernel
theorem zAS{T:EC}(h:T≠.toml):isSubtype (.type T.name) (.type "BaseException")=pure true:=by induction T<;>first|exact absurd rfl h|rfl
theorem zyH{T:EC}(h:T≠.toml):isSubtype (.type ((Manifest.find? T.name).elim "type" λx=>x.metatype)) (.type "tuple")=pure false:=by induction T<;>first|exact absurd rfl h|rfl
theorem zAZ{c T:EC}{b:Bool}(h:zk8 c T=some b)(hc:c≠.toml)(hT:T≠.toml):isSubtype (.type c.name) (.type T.name)=pure b:=by
 induction c<;>induction T<;>(first|exact zae h|obtain rfl:=yj h)<;>first|exact absurd rfl hT|exact absurd rfl hc|rfl
theorem zyD{c:EC}{b:Bool}(h:zk8 c .toml=some b):c=.toml∧b=true:=by
 induction c<;>first|((first|exact zae h|cases h);done)|exact⟨rfl,(yj h).symm⟩
theorem zpK(D:Std S)(f:a.Fits S sh){s:Shared}(k:S.base.StaysIn s.heap){T c:EC}{pos:Pos}(hx:sh.scope.names.lookup (Str.ofString T.name)=some .globalImplicit)(hg:T≠.toml->S.mg (Str.ofString T.name)=none)
  {e:Addr}{oe:Obj}(he:s.heap.get? e=some oe)(hc:oe.cls=S.cls c){b:Bool}(hm:zk8 c T=some b){A:Around}{E:Value->Shared->Prop}{E':Value->Value->Shared->Prop}{Q:Bool->Shared->Prop}(q:Q b s) :
  wpAny (model S.prog S.w) A (eval (.Name (Str.ofString T.name) pos) a.env) (λcv s₁=>wpAny (model S.prog S.w) A (excMatches (.ref e) cv) Q (E' cv) s₁) E s:=by
 have g:=D.g.keeps k;have hb:=D.b.keeps k;have hd:=zzW T;by_cases hT:T=.toml
 ·subst hT
  obtain⟨rfl,rfl⟩:=zyD hm;obtain⟨C,O⟩:=D.own;refine zfe f hx g O.bound ?_ hd;obtain⟨z,hC,hN,hq,OT⟩:=zgR (O.keeps k);have hcls:oe.cls=.ref C:=hc.trans (St0.cls_toml O.bound);obtain⟨hp,gg,d,t,os⟩:=s;exact wpAny_excMatches_sub_self hC he hcls (by rw[OT.tail.hasType (X:="BaseException") (b:=true) (by decide)]) q
 ·have hv:S.mb (Str.ofString T.name)=some (.type T.name):=by
   rw[D.blt _ (zx1 T)];exact zzK hT
  refine zcm f hx g hb (hg hT) hv ?_ hd;have hexc:=zAS hT;have hnt:=zyH hT;clear hv hd hg hx;by_cases hct:c=.toml
  ·subst hct
   obtain⟨C,O⟩:=D.own;obtain⟨z,hC,hN,hq,OT⟩:=zgR (O.keeps k);have hcls:oe.cls=.ref C:=hc.trans (St0.cls_toml O.bound);obtain⟨hp,gg,d,t,os⟩:=s;refine wpAny_excMatches_sub_type hC he hcls hexc hnt ?_;rw[OT.tail.hasType (X:=T.name) (b:=b) (by cases T<;>cases hm<;>first|exact absurd rfl hT|decide)];exact q
  ·have hTI:s.TypeIs (.ref e) c.name:=(zbB oe he (hc.trans (zzo S hct)))
   exact wpAny_excMatches_type hTI hexc hnt (zAZ hm hct hT) q
end
structure Hd where
 T:EC
 nm:Option Nat
 c:PS
noncomputable def zak.un(sh:zak):zak:={sh with calm:=false}
noncomputable def Act.hand(a:Act)(e:Addr):Act:={a with A:=a.A.mark (some (.ref e)),hands:=.ref e::a.hands}
noncomputable def zt1:List Hd->Err->(Fl->Sl->Prop)->(Err->Sl->Prop)->Sl->Prop
 |[],x,_,X,st=>X x st
 |H::Hs,x,Q,X,st=>match zk8 x.1 H.T with
  |some true=>match H.nm with
   |none=>H.c Q X st
   |some i=>x.1=.toml∧H.c (λfl st₁=>Q fl (st₁.set i .unb)) (λ_ _=>False) (st.set i (.val (.err x.1 x.2)))
  |some false=>zt1 Hs x Q X st
  |none=>False
inductive HdS(S:St0)(sh:zak):ExceptHandler->Hd->Prop
 |plain {T:EC} {p pos:Pos} {b0:Stmt} {body:List Stmt} {c:PS}:sh.scope.names.lookup (Str.ofString T.name)=some .globalImplicit->(T≠.toml->S.mg (Str.ofString T.name)=none)->zaG S sh.un (b0::body) c ->
   HdS S sh (.ExceptHandler (some (.Name (Str.ofString T.name) p)) none (b0::body) pos) ⟨T,none,c⟩
 |named {T:EC} {p pos:Pos} {b0:Stmt} {body:List Stmt} {c:PS} {n:Str} {i:Nat}:sh.scope.names.lookup (Str.ofString T.name)=some .globalImplicit->(T≠.toml->S.mg (Str.ofString T.name)=none)->sh.names[i]?=some n->zaG S sh.un (b0::body) c ->
   HdS S sh (.ExceptHandler (some (.Name (Str.ofString T.name) p)) (some n) (b0::body) pos) ⟨T,some i,c⟩
inductive znr(S:St0)(sh:zak):List ExceptHandler->List Hd->Prop
 |nil:znr S sh [] []
 |cons {h H hs Hs}:HdS S sh h H->znr S sh hs Hs->znr S sh (h::hs) (H::Hs)
section
variable{S:St0}{sh:zak}{a:Act}
theorem Act.Fits.handed(f:a.Fits S sh)(e:Addr):(a.hand e).Fits S sh.un:=
 ⟨f.scope,f.kind,f.loc,f.nodup,f.cellk,f.celld,f.nocell,f.glob,f.blt,f.locals,f.fronts,f.LFsub,f.outs,f.FP,f.nobase,f.noh₀,f.stays,f.depth,f.units,f.guards,.inr (zbB e yq rfl),(λh=>zaF h),f.Pdom,f.outer,f.tab,f.tabP,f.tabB,f.code,(λh=>zaF h)⟩
theorem Rel.lessX(f:a.Fits S sh){X X':Addr->Prop}{ow:Nat->Option Addr}{st:Sl}{s:Shared}(R:Rel S sh a X ow st s)(h:∀b,X' b->X b):Rel S sh a X' ow st s:=
 R.moveG f (G:=λ_=>False) (zdU.refl _ _).toG rfl rfl (λ_ q=>q.elim) (λ_ q=>q.elim) (λ_ q=>q.elim) (λ_ _ q=>q.elim) (λb _ q=>h b q) λ_ _ q=>q.elim
theorem Act.FitsS.handed(g:a.FitsS S sh)(e:Addr):(a.hand e).FitsS S sh.un:=⟨g.f.handed e,g.frame,g.fr⟩
theorem Rel.hand{X:Addr->Prop}{ow:Nat->Option Addr}{st:Sl}{s:Shared}(R:Rel S sh a X ow st s){e:Addr}(h:zfL s.heap X (.ref e)):Rel S sh.un (a.hand e) X ow st s:=
 ⟨R.slots,R.keep,R.frames,R.own,R.inj,R.gens,R.os,λv hv=>by
  rcases yz.mp hv with rfl|hv
  ·exact h
  ·exact R.hands v hv,R.tab⟩
theorem Rel.unhand{X:Addr->Prop}{ow:Nat->Option Addr}{st:Sl}{s:Shared}{e:Addr}(R:Rel S sh.un (a.hand e) X ow st s):Rel S sh a X ow st s:=
 ⟨R.slots,R.keep,R.frames,R.own,R.inj,R.gens,R.os,λv hv=>R.hands v (yn _ hv),R.tab⟩
theorem zqO{Q:Fl->Sl->Prop}{e:Addr}{fl:Flow}{s:Shared}(h:OkS S sh.un (a.hand e) Q fl s):OkS S sh a Q fl s:=by
 left;obtain⟨fl',ow,st,h1,h2,h3⟩:=h;exact⟨fl',ow,st,h1,h2.unhand,h3⟩
theorem zoK{X:Err->Sl->Prop}{e:Addr}{ev:Value}{s:Shared}(h:zlv S sh.un (a.hand e) X ev s):zlv S sh a X ev s:=by
 left;obtain⟨x,ow,st,e',T,h1,h2,h3,h4,h5,h6⟩:=h;exact⟨x,ow,st,e',T,h1,h2.unhand,h3,h4,h5,h6⟩
theorem Fly.land(f:a.Fits S sh){ow:Nat->Option Addr}{st:Sl}{e:Addr}{T:Option Addr}{x:Err}{s:Shared}(F:Fly S sh a ow st e T x s):Rel S sh.un (a.hand e) noX ow st s:=by
 left;obtain⟨oe,vs,tp,c,h1,h2,h3,h4,h5,h6,_⟩:=F.obj.obj;exact(F.rel.lessX f λ_ q=>q.elim).hand (.cons h1 (λq=>q) (h2▸(S.cls_ne x.1).1) h3 h5 (h6.less λ_ _ q=>q.elim))
theorem Fly.val(f:a.Fits S sh){ow:Nat->Option Addr}{st:Sl}{e:Addr}{T:Option Addr}{x:Err}{s:Shared}(F:Fly S sh a ow st e T x s)(hx:x.1=.toml):zcN S s.heap (Pv a noX ow) (.ref e) (.err x.1 x.2):=by
 obtain⟨oe,vs,tp,c,h1,h2,h3,h4,h5,h6,hA,_⟩:=F.obj.obj;left;obtain⟨t,tk,o,n,rfl,h7,h8,h9⟩:=hA hx;refine .err h1 h2 h3 h4 ?_ h7 h8 ⟨n,h9⟩;rintro(q|q|q|⟨i,q⟩)
 ·have:=f.Pdom e q;rw[F.newE]at this;exact zaF this
 ·exact F.off f e (.inl rfl) (q▸yq)
 ·exact q
 ·exact(F.rel.own i e q).2.2.1 (.inl rfl)
theorem name_goes(f:a.Fits S sh){ow:Nat->Option Addr}{st:Sl}{s:Shared}(R:Rel S sh a noX ow st s){i:Nat}{n:Str}{pos:Pos}(hi:sh.names[i]?=some n){v:Flow}{fl:Fl}(hv:zAn S a.h₀ s.heap (Pv a noX ow) v fl){Q:Unit->Shared->Prop}{E:Value->Shared->Prop}{A:Around}
  (k:∀s' ow',Rel S sh a noX ow' (st.set i .unb) s'->zAn S a.h₀ s'.heap (Pv a noX ow') v fl->Q () s'):wpAny (model S.prog S.w) A (do bindName a.env n .none;unbindBehindTheSuite a.env n pos) Q E s:=by
 have fr:∀{h h':Heap}{P P':Addr->Prop},zeY S h h' P P'->zAn S a.h₀ h P v fl->zAn S a.h₀ h' P' v fl:=λG x=>by
  clear k hv
  induction v<;>induction fl<;>first|exact x|exact⟨x.1.goes G,x.2⟩
 refine yl (wpAny_bindName (zgT f R hi .none λs₁ R1 G1=>?_));unfold unbindBehindTheSuite;refine wpAny_onRaise ?_;left;refine zcM R1.slots λm hn hl hsl=>?_;have hm:n∈sh.names:=yy hi;have hk:a.env.kindOf n=some .local:=by unfold Env.kindOf;exact f.scope▸(f.loc n hm)
 have hlt:i<st.length:=by
  refine zcM R.slots λ_ _ hl' _=>?_;rw[hl'];exact(yp.mp (zak.all_of hi)).1
 obtain⟨_,x,hx,_⟩:=hsl i n _ (zak.all_of hi) (List.getElem?_set_self hlt);have hpk:(a.env.scope.kind == .class||(a.env.scope.kind == .module&&a.env.locals != a.env.globals))=false:=by rw[f.scope,f.kind];rfl
 have hx':m n=some x:=(f.ovn hm m).symm.trans hx;refine wpAny_unbindName_local hk (f.locals▸hn) hx' hpk λh' u hn' hsb=>?_;rw[f.locals]at hn' hsb;have hP:∀b,(s₁.heap.get? b).isSome=true->Pv a noX (λj=>if j=i then none else(λj=>if j=i then none else ow j) j) b->Pv a noX (λj=>if j=i then none else ow j) b:=λb _ q=>by
  rcases q with q|q|q|⟨j,q⟩
  ·exact .inl q
  ·exact .inr (.inl q)
  ·exact q.elim
  ·by_cases e:j=i
   ·simp[e]at q
   ·simp[e]at q
    exact .inr (.inr (.inr ⟨j,by simp[e,q]⟩))
 have R2:=R1.setH f (u:=u) (sl:=.unb) (X':=noX) (ow':=λj=>if j=i then none else(λj=>if j=i then none else ow j) j) (tk:=s₁.toks) hn ⟨hl,hsl⟩ hi (λj hj=>if_neg hj) hP hn' hsb (λ_ _ _=>if_pos rfl) (λb e=>by simp at e) (λ_ _ _ q=>q) λ_ _ q=>q.elim;rw[List.set_set]at R2;exact k _ _ R2 (fr (R1.goesL f hsb hP) (fr G1 hv))
end
section
variable{S:St0}{sh:zak}{a:Act}
theorem zrC(D:Std S)(g:a.FitsS S sh){hs:List ExceptHandler}{Hs:List Hd}(HH:znr S sh hs Hs):∀{ow:Nat->Option Addr}{st:Sl}{e b:Addr}{x:Err}{s:Shared}{Q:Fl->Sl->Prop}{X:Err->Sl->Prop},
  Fly S sh a ow st e (some b) x s->zt1 Hs x Q X st->wpAny (model S.prog S.w) a.A (handleBy (.ref e) a.env hs) (OkS S sh a Q) (zlv S sh a X) s:=by
 have f:=g.f
 induction HH with
 |nil=>
  intro ow st e b x s Q X F q;obtain⟨oe,vs,tp,c,h1,h2,h3,h4,h5,h6,h7,q1,_⟩:=F.obj.obj;refine wpAny_handleBy_nil ?_;unfold PySem.passOn;refine yl (wpAny_field h1 h3 q1 ?_);refine zbY (by simp) ?_;rw[g.frame];exact yl (zh4 f F (.inr rfl) λs' F' _=>wpAny_throw (F'.err q))
 |@cons h H hs Hs hd _ ih=>
  intro ow st e b x s Q X F q;obtain⟨oe,vs,tp,c,h1,h2,h3,h4,h5,h6,h7,q1,_⟩:=F.obj.obj;have hne:(Value.ref e)≠byPass:=by intro z;cases z
  have hM:(a.A.mark (some (.ref e))).frames=some (a.env::a.outer):=g.frames;have fh:=g.handed e;rw[zt1]at q
  induction hd with
  |@plain T p pos b0 body c' g1 g2 g3=>
   refine wpAny_handleBy_cons (codeAny_handlers_test ?_) hne;left;cases hm:zk8 x.1 T with
   |none=>dsimp only at q;rw[hm]at q;exact q.elim
   |some bb=>
    dsimp only at q;rw[hm]at q;refine zpK D f (F.rel.stays f) g1 g2 h1 h2 hm ?_;clear hm
    induction bb with
    |false=>exact ih F q
    |true=>
     refine codeAny_handlers_suite (zh4 f F (.inl rfl) λs₁ F1 _=>?_);exact yt (g3 (a.hand e) ow st s₁ Q X fh (F1.land f) q) (λ_ _ x=>zqO x) λ_ _ x=>zdC g hM (zoK x)
  |@named T p pos b0 body c' n i g1 g2 gi g3=>
   refine wpAny_handleBy_cons (codeAny_handlers_test ?_) hne;cases hm:zk8 x.1 T with
   |none=>dsimp only at q;rw[hm]at q;exact q.elim
   |some bb=>
    dsimp only at q;rw[hm]at q;refine zpK D f (F.rel.stays f) g1 g2 h1 h2 hm ?_;clear hm
    induction bb with
    |false=>exact ih F q
    |true=>
     refine codeAny_handlers_suite_as (zh4 f F (.inl rfl) λs₁ F1 _=>?_);refine zgT fh.f (F1.land f) (d:=.err x.1 x.2) gi (F1.val f q.1) λs₂ R2 _=>?_;refine yt (g3 (a.hand e) _ _ s₂ _ (λ_ _=>False) fh R2 q.2) (λfl s3a h=>?_) λ_ _ x=>by obtain⟨_,_,_,_,_,x,_⟩:=x;exact x.elim
     left;obtain⟨fl',ow',st',k1,k2,k3⟩:=h;exact name_goes f k2.unhand gi (v:=fl) (fl:=fl') k3 λs4a ow'' R4 k4=>⟨fl',ow'',_,k1,R4,k4⟩
@[reducible]noncomputable def znX(c:PS)(Hs:List Hd):PS:=λQ X st=>c Q (λx st₁=>zt1 Hs x Q X st₁) st
theorem zkR(D:Std S){body:List Stmt}{h₀:ExceptHandler}{hs:List ExceptHandler}{pos:Pos}{c:PS}{Hs:List Hd}(Hb:zaG S sh body c)(HH:znr S sh (h₀::hs) Hs):zbk S sh (.Try body (h₀::hs) [] [] pos) (znX c Hs):=λa ow st s Q X g R q=>by
 have f:=g.f;refine wpAny_Try_except (yt (Hb a ow st s _ _ g R q) (λfl s₁ h=>?_) λev s₁ h=>?_)
 ·left
  obtain⟨fl',ow',st',h1,h2,h3⟩:=h
  induction fl<;>first
   |exact⟨_,ow',st',h1,h2,h3⟩
   |(induction fl'<;>first|exact h3.elim|exact wpAny_execs_nil ⟨_,ow',st',h1,h2,trivial⟩)
 ·left
  obtain⟨x,ow',st',e,T,q1,rfl,F⟩:=h.fly;exact zma g F g.frames λT' s₂ F2=>zh4 f F2 (.inl rfl) λs3a F3 _=>zrC D g HH F3 q1
end
inductive Rch(h:Heap):Value->Value->Prop
 |refl {b}:Rch h (.ref b) (.ref b)
 |step {b o vs c t}:h.get? b=some o->o.data=.fields vs->vs[2]?=some (.ref c)->Rch h (.ref c) t->Rch h (.ref b) t
theorem Rch.snoc{h:Heap}{x y:Value}(r:Rch h x y){b c:Addr}{o:Obj}{vs:Array Value}(hy:y=.ref b)(h1:h.get? b=some o)(h2:o.data=.fields vs)(h3:vs[2]?=some (.ref c)):Rch h x (.ref c):=by
 induction r with
 |refl=>cases hy;exact .step h1 h2 h3 .refl
 |step a1 a2 a3 _ ih=>exact .step a1 a2 a3 (ih hy)
theorem zfv:plainId "proto.unchain"=true:=by kernel_rfl
theorem zlO:entryFor table "proto.unchain"=some Builtin.«proto.unchain»:=entryFor_of_tree (by kernel_rfl)
section
variable{prog:Program}{w:World}
theorem zqy{X:Addr->Prop}{e:Addr}(hX:X e){s:Shared}{o:Value}(C:zfL s.heap X o):∀{A:Around}{b:Addr}{slow:Value}{tog:Bool},o=.ref b->Rch s.heap slow o->∀(R:Result->Shared->Prop),R (.ok (.ret .none)) s ->
  codeAny (model prog w) A (.builtin "proto.unchain" ⟨[.ref e,o,slow,.bool tog],[]⟩) R s:=by
 induction C with
 |nil=>intro A b slow tog h;cases h
 |@cons b' ob vs c h1 h2 _ h3 h4 C' ih=>
  intro A b slow tog _ hr R hR;refine codeAny_builtin zlO ?_;show wpAny _ _ (do
   let context ←field (.ref b') 2
   if context == .none then return ←ret .none
   if context == .ref e then
    rule "raise.context-cycle-cut"
    setField (.ref b') 2 .none
    return ←ret .none
   if context==slow then rule "raise.context-old-cycle";return ←ret .none
   let slow ←if tog then field slow 2 else pure slow
   again (.builtin "proto.unchain" ⟨[.ref e,context,slow,.bool !tog],[]⟩)) _ _ _
  refine yl (wpAny_field h1 h3 h4 ?_);cases C' with
  |nil=>refine zer (by rfl) ?_;exact yo hR
  |@cons c' oc vc cc g1 g2 _ g3 g4 C''=>
   have hne:c'≠e:=λz=>g2 (z▸hX);rw[if_neg (by simp),if_neg (by simpa using hne)];by_cases hs:(Value.ref c'==slow)=true
   ·refine zer hs ?_;exact yl (wpAny_rule (yo hR))
   ·refine zbY hs ?_
    have hr2:Rch s.heap slow (.ref c'):=hr.snoc rfl h1 h3 h4;clear hs
    induction tog with
    |false=>
     simp only[Bool.false_eq_true,if_false];exact yl (yo (yo ⟨plainId_quiet zfv _,ih rfl hr2 R hR⟩))
    |true=>
     simp only[if_true];clear hr2;cases hr with
     |refl=>exact yl (wpAny_field h1 h3 h4 (yo ⟨plainId_quiet zfv _,ih rfl .refl R hR⟩))
     |step k1 k2 k3 k4=>exact yl (wpAny_field k1 k2 k3 (yo ⟨plainId_quiet zfv _,ih rfl (k4.snoc rfl h1 h3 h4) R hR⟩))
end
section
variable{S:St0}{sh:zak}{a:Act}
section
variable{M:Model}{A:Around}{E:Value->Shared->Prop}
theorem znU{T:String}(hexc:isSubtype (.type T) (.type "BaseException")=pure true)(hm:(Value.type ((Manifest.find? T).elim "type" λx=>x.metatype)==Value.type "type")=true){s:Shared}{e:Addr}{vs:Array Value}(he:s.heap.get? e=some {cls:=.type T,data:=.fields vs}){msg:String}{Q:Value->Shared->Prop}(q:Q (.ref e) s):wpAny M A (excFromValue (.ref e) msg) Q E s:=by
 obtain⟨hp,g,d,tk,os⟩:=s;unfold excFromValue
 repeat (first|(with_reducible refine wpAny_loadPart_at he ?_)|wp_step)
 all_goals first|exact q|skip
theorem zn8{T:String}(hm:(Value.type ((Manifest.find? T).elim "type" λx=>x.metatype)==Value.type "type")=true){s:Shared}{e:Addr}{vs:Array Value}(he:s.heap.get? e=some {cls:=.type T,data:=.fields vs}){Q:Value->Shared->Prop}(q:Q (.ref e) s):wpAny M A (raisedInstance (.ref e)) Q E s:=by
 obtain⟨hp,g,d,tk,os⟩:=s;unfold raisedInstance
 repeat (first|(with_reducible refine wpAny_loadPart_at he ?_)|wp_step)
 all_goals first|exact q|skip
theorem zg7{c:Value}{s:Shared}{e:Addr}{vs:Array Value}(he:s.heap.get? e=some {cls:=c,data:=.fields vs}){Q:Bool->Shared->Prop}(q:Q false s):wpAny M A (isType (.ref e)) Q E s:=by
 obtain⟨hp,g,d,tk,os⟩:=s
 repeat (first|(with_reducible refine wpAny_loadPart_at he ?_)|wp_step)
 all_goals first|exact q|skip
variable{nm q:Str}{C N:Addr}{bs bm:List Value}{hdct:Bool}{sn:List Str}{sub:List Value}{ab:Bool}{col:Option Bool}{dd:Option Addr}{k0 k1 k2 k3 k5:Option Value}{newId:String}
theorem zoH{s:Shared}(hbase:bm.contains (.type "BaseException")=true)(hC:s.heap.get? C=some (excClassObj nm q C N bs bm hdct sn sub ab col dd k0 k1 k2 k3 k5 newId)){e:Addr}{vs:Array Value}(he:s.heap.get? e=some {cls:=.ref C,data:=.fields vs}){msg:String}{Q:Value->Shared->Prop}(q:Q (.ref e) s):wpAny M A (excFromValue (.ref e) msg) Q E s:=by
 have hcB:(Value.ref C::bm).contains (.type "BaseException")=true:=by rw[List.contains_cons,hbase,Bool.or_true]
 obtain⟨hp,g,d,tk,os⟩:=s;unfold excFromValue
 repeat (first|with_reducible refine wpAny_loadPart_at he ?_|with_reducible refine wpAny_loadPart_at hC ?_|(with_reducible refine wpAny_isSubtype_exc hC ?_;rw[hcB])|wp_step)
 all_goals first|exact q|skip
theorem zq8{s:Shared}(hC:s.heap.get? C=some (excClassObj nm q C N bs bm hdct sn sub ab col dd k0 k1 k2 k3 k5 newId)){e:Addr}{vs:Array Value}(he:s.heap.get? e=some {cls:=.ref C,data:=.fields vs}){Q:Value->Shared->Prop}(q:Q (.ref e) s):wpAny M A (raisedInstance (.ref e)) Q E s:=by
 obtain⟨hp,g,d,tk,os⟩:=s;unfold raisedInstance
 repeat (first|with_reducible refine wpAny_loadPart_at he ?_|with_reducible refine wpAny_loadPart_at hC ?_|wp_step)
 all_goals first|exact q|skip
end
theorem zlm(D:Std S){s:Shared}(k:S.base.StaysIn s.heap){c:EC}{e:Addr}{vs:Array Value}(he:s.heap.get? e=some {cls:=S.cls c,data:=.fields vs}){A:Around}{E:Value->Shared->Prop}{msg:String}{Q:Value->Shared->Prop}(q:Q (.ref e) s):wpAny (model S.prog S.w) A (excFromValue (.ref e) msg) Q E s:=by
 left;cases c
 case toml=>
  refine zfc D.own λC O=>?_;obtain⟨z,hC,hN,hq,OT⟩:=zgR (O.keeps k);have hcls:S.cls .toml=.ref C:=St0.cls_toml O.bound;rw[hcls]at he;exact zoH (by rw[OT.tail.hasType (X:="BaseException") (b:=true) (by decide)]) hC he q
 all_goals exact znU (by rfl) (by right) he q
theorem znB(D:Std S){s:Shared}(k:S.base.StaysIn s.heap){c:EC}{e:Addr}{vs:Array Value}(he:s.heap.get? e=some {cls:=S.cls c,data:=.fields vs}){A:Around}{E:Value->Shared->Prop}{Q:Value->Shared->Prop}(q:Q (.ref e) s):wpAny (model S.prog S.w) A (raisedInstance (.ref e)) Q E s:=by
 left;cases c
 case toml=>
  left;refine zfc D.own λC O=>?_;obtain⟨z,hC,hN,hq,OT⟩:=zgR (O.keeps k);have hcls:S.cls .toml=.ref C:=St0.cls_toml O.bound;rw[hcls]at he;exact zq8 hC he q
 all_goals exact zn8 (by right) he q
end
section
variable{S:St0}{sh:zak}{a:Act}
theorem Rel.atE(f:a.Fits S sh){ow:Nat->Option Addr}{st:Sl}{e:Addr}{s:Shared}(R:Rel S sh a (zkw e none) ow st s)(he0:a.h₀.get? e=none){oe:Obj}{vs:Array Value}(he:s.heap.get? e=some oe)(hd:oe.data=.fields vs)(hcl:oe.cls≠.none∧oe.cls≠.type "code")(g:Obj->Obj){s':Shared}(hs:s'={s with heap:=s.heap.update e g}):Rel S sh a (zkw e none) ow st s':=by
 subst hs;have other:∀c,c≠e->(s.heap.update e g).get? c=s.heap.get? c:=λc hc=>xj _ _ (Ne.symm hc);exact R.moveG f (G:=λc=>c=e) (.of_but λc o h n=>(other c n).trans h) rfl rfl (λc q=>.inl q) (λc q=>q▸he0) (λc q hm=>(R.nob f c hm).2 oe vs (q▸he) hcl.1 hd) (λc o q h=>by subst q;rw[he]at h;obtain rfl:=yj h;exact⟨_,hd⟩) (λ_ _ q=>q) λc o q h=>by subst q;rw[he]at h;obtain rfl:=yj h;exact hcl.2
theorem zjn(f:a.Fits S sh){ow:Nat->Option Addr}{st:Sl}{s:Shared}{e t:Addr}{k:EC}{m:List Nat}{tk:Tok}{o:Obj}{n:Nat}{sup:Value}(R:Rel S sh a (zkw e none) ow st s)(he0:a.h₀.get? e=none)
  (he:s.heap.get? e=some {cls:=S.cls k,data:=.fields #[.ref t,.none,.none,.none,sup,.none]})(ht:s.heap.get? t=some o)(hc:o.cls=.type "tuple")(hd:o.data=.seq #[.str (mk m) tk] n)
  {X:Err->Sl->Prop}(q:X (k,m) st){α:Type}{Q:α->Shared->Prop}:wpAny (model S.prog S.w) a.A (raiseNew (.ref e):Sem α) Q (zlv S sh a X) s:=by
 have hte:t≠e:=λz=>by rw[z,he]at ht;obtain rfl:=yj ht;cases hd
 unfold raiseNew;refine yl (wpAny_handled ?_);rcases f.hand with h|⟨b,hv,h⟩
 ·rw[h]
  have F:Fly S sh a ow st e none (k,m) s:=⟨R,he0,(λ_ z=>zae z),⟨_,_,_,.none,he,rfl,rfl,rfl,rfl,.nil,λ_=>⟨t,tk,o,n,rfl,ht,hc,hd⟩,rfl⟩⟩
  first
   |exact wpAny_throw (F.err q)
   |exact yl (yo (wpAny_throw (F.err q)))
 ·rw[h]
  have C:=R.hands _ hv;cases C with
  |@cons _ ob vs c g1 g2 gc g3 g4 g5=>
   have hbe:b≠e:=λz=>g2 (.inl z);have hC:zfL s.heap (zkw e none) (.ref b):=.cons g1 g2 gc g3 g4 g5;dsimp only;refine zer (by simpa using hbe) ?_;refine yl (yH (wpAny_runValue (zqy (X:=zkw e none) (.inl rfl) hC rfl .refl _ ?_)));unfold updateField;refine yl (yl (wpAny_load he ?_));dsimp only;refine zer (by simp) ?_;refine wpAny_update he (wpAny_throw ?_);have self:=xi (Obj.mapFields (·.setIfInBounds 2 (Value.ref b))) he rfl;have other:∀c,c≠e->(s.heap.update e (Obj.mapFields (·.setIfInBounds 2 (Value.ref b)))).get? c=s.heap.get? c:=λc hc=>xj _ _ (Ne.symm hc);have F:Fly S sh a ow st e none (k,m) {s with heap:=s.heap.update e (Obj.mapFields (·.setIfInBounds 2 (Value.ref b)))}:=⟨R.atE f he0 he rfl (S.cls_ne k) _ rfl,he0,(λ_ z=>zae z),⟨_,_,_,.ref b,self,rfl,rfl,rfl,rfl,hC.same (λd o ws h n _ _=>(other d λz=>n (.inl z)).trans h) (λ_ _ q=>q),λ_=>⟨t,tk,o,n,rfl,(other t hte).trans ht,hc,hd⟩,rfl⟩⟩;exact F.err q
@[reducible]noncomputable def zdY(c:PE):PS:=λ_ X st=>c (λr st₁=>r.oM D.exc? λx=>X x st₁) X st
theorem zln(f:a.Fits S sh){ow:Nat->Option Addr}{st st₁:Sl}{s s₁:Shared}(R:Rel S sh a noX ow st s)(K:Step a st st₁ s s₁){e:Addr}(hn:s.heap.get? e=none):Rel S sh a (zkw e none) (restr ow st₁) st₁ s₁:=by
 refine R.stepX f K λb hb q=>?_;rcases q with q|q
 ·rw[q,hn]at hb;exact zaF hb
 ·exact zae q
theorem zhk(D:Std S){e:Expr}{pos}{c:PE}(H:zau S sh e c):zbk S sh (.Raise (some e) none pos) (zdY c):=λa ow st s Q X g R q=>by
 have f:=g.f;rw[arm_exec_Raise];refine yl (yX ?_);show wpAny _ _ (raiseStmt a.env (some (do let v ←eval e a.env;standAt pos;pure v)) none) _ _ _;unfold raiseStmt;refine yl (yl (yt (H a ow st s _ X f R q) (λv s₁ h=>yl (yX (yo ?_))) λ_ _ x=>zdG f R x));left;obtain⟨r,st₁,hX,K,hr⟩:=h;refine zfw (Res.exc_inv hX) λk m hzz hX=>?_;subst hzz;obtain⟨hr,hnew⟩:=hr;refine zaO (hnew rfl) λe' hzz hn=>?_;subst hzz;obtain⟨e2,t,o,tk,hv2,he,nP,ht,hc,hd⟩:=hr.inv;clear nP;cases hv2;obtain⟨n,hd⟩:=hd;have R1:=zln f R K hn;have hst:=R1.stays f;refine yl (yo ?_);refine yl (yH (zlm D hst he ?_));refine yl (zg7 he ?_);refine zbY (by decide) ?_;refine yl (znB D hst he ?_);refine yl ?_;unfold setFlight;refine yl (wpAny_field he rfl rfl ?_);refine zbY (by simp) ?_;exact yo (zjn f R1 (R.keep.new hn) he ht hc hd hX)
theorem zfq(D:Std S){e:Expr}{pos k p}{c:PE}(H:zau S sh e c):zbk S sh (.Raise (some e) (some (.Constant .none k p)) pos) (zdY c):=λa ow st s Q X g R q=>by
 have f:=g.f;rw[arm_exec_Raise];refine yl (yX ?_);show wpAny _ _ (raiseStmt a.env (some (do let v ←eval e a.env;standAt pos;pure v)) (some (do let v ←eval (.Constant .none k p) a.env;standAt pos;pure v))) _ _ _;unfold raiseStmt;refine yl (yl (yt (H a ow st s _ X f R q) (λv s₁ h=>yl (yX (yo ?_))) λ_ _ x=>zdG f R x));left;obtain⟨r,st₁,hX,K,hr⟩:=h;refine zfw (Res.exc_inv hX) λk m hzz hX=>?_;subst hzz;obtain⟨hr,hnew⟩:=hr;refine zaO (hnew rfl) λe' hzz hn=>?_;subst hzz;obtain⟨e2,t,o,tk,hv2,he,nP,ht,hc,hd⟩:=hr.inv;clear nP;cases hv2;obtain⟨n,hd⟩:=hd;have R1:=zln f R K hn;have hst:=R1.stays f;refine yl (yH (yl (Constant_none (yl (yX (yo ?_))))));refine yl (yo ?_);refine yl (yH (zlm D hst he ?_));dsimp only;refine zer (by rfl) ?_;refine yl (yo ?_);have hte:t≠e':=λz=>by rw[z,he]at ht;obtain rfl:=yj ht;cases hd
 have hf:∀(g:Array Value->Array Value)(o:Obj)(vs:Array Value),o.data=.fields vs->(o.mapFields g).isFreed=false:=λg o vs h=>Obj.isFreed_of_fields (Obj.data_mapFields h g);refine yl (wpAny_setField he rfl (by simp) ?_);have he3:=xi (Obj.mapFields (·.setIfInBounds 3 Value.none)) he rfl;have R2:=R1.atE f (R.keep.new hn) he rfl (S.cls_ne k) (Obj.mapFields (·.setIfInBounds 3 Value.none)) rfl;have ht3:(s₁.heap.update e' (Obj.mapFields (·.setIfInBounds 3 Value.none))).get? t=some o:=(xj _ _ (Ne.symm hte)).trans ht;refine yl (wpAny_setField he3 rfl (by simp) ?_);have he4:=xi (Obj.mapFields (·.setIfInBounds 4 (Value.bool true))) he3 rfl;have R3:=R2.atE f (R.keep.new hn) he3 rfl (S.cls_ne k) (Obj.mapFields (·.setIfInBounds 4 (Value.bool true))) rfl;have ht4:((s₁.heap.update e' (Obj.mapFields (·.setIfInBounds 3 Value.none))).update e' (Obj.mapFields (·.setIfInBounds 4 (Value.bool true)))).get? t=some o:=(xj _ _ (Ne.symm hte)).trans ht3;have hst':=R3.stays f;have he5:((s₁.heap.update e' (Obj.mapFields (·.setIfInBounds 3 Value.none))).update e' (Obj.mapFields (·.setIfInBounds 4 (Value.bool true)))).get? e'=some {cls:=S.cls k,data:=.fields #[.ref t,.none,.none,.none,.bool true,.none]}:=he4;refine yl (zg7 he5 ?_);refine zbY (by decide) ?_;refine yl (znB D hst' he5 ?_);refine yl ?_;unfold setFlight;refine yl (wpAny_field he5 rfl rfl ?_);refine zbY (by simp) ?_;exact yo (zjn f R3 (R.keep.new hn) he5 ht4 hc hd hX)
end
noncomputable abbrev PD:=(D->Prop)->(Err->Prop)->Prop
structure ziB(S:St0)(A:Around)(fr:List Env)(hands:List Value)(P:Addr->Prop)(n:Nat)(calm:Bool)(s:Shared):Prop where
 frames:A.frames=some fr
 stays:S.base.StaysIn s.heap
 fun_:s.heap.FunFrames S.base fr
 depth:A.depth+n≤900
 units:A.units+n≤9000
 guards:A.guards=some []
 calm:calm=true->A.handled=none∧hands=[]
 hand:A.handled=none∨∃b,Value.ref b∈hands∧A.handled=some (.ref b)
 hands:∀v∈hands,zfL s.heap noX v
 gens:s.gens=#[]
 tab:TabAt S s.heap
 tabP:P S.tab
 frP:∀b∈fr.filterMap (·.frame),P b
 P:∀b,P b->(s.heap.get? b).isSome=true
inductive zCD(S:St0)(fr:List Env)(P:Addr->Prop)(s:Shared)(Q:D->Prop)(v:Value)(s':Shared)(d:D):Prop
 |mk (qa:Q d) (qb:zcN S s'.heap P v d) (qc:New s.heap v d) (qd:zdU (S.tab::fr.filterMap (·.frame)) s.heap s'.heap) (qe:s'.gens=s.gens) (qf:s'.os=s.os)
inductive zBr(S:St0)(fr:List Env)(s:Shared)(X:Err->Prop)(ev:Value)(s':Shared)(x:Err)(e:Addr)(T:Option Addr):Prop
 |mk (qa:X x) (qb:ev=.ref e) (qc:s.heap.get? e=none) (qd:∀b,T=some b->s.heap.get? b=none) (qe:∀L',zlk S s'.heap L' e T x) (qf:zdU (S.tab::fr.filterMap (·.frame)) s.heap s'.heap) (qg:s'.gens=s.gens) (qh:s'.os=s.os)
noncomputable def OkC(S:St0)(fr:List Env)(P:Addr->Prop)(s:Shared)(Q:D->Prop):Value->Shared->Prop:=λv s'=>
 ∃d,zCD S fr P s Q v s' d
noncomputable def zz0(S:St0)(fr:List Env)(s:Shared)(X:Err->Prop):Value->Shared->Prop:=λev s'=>
 ∃x e T,zBr S fr s X ev s' x e T
noncomputable def ziO(S:St0)(f:Value)(n:Nat)(calm:Bool)(kws:List Str)(Φ:List D->List D->PD):Prop:=
 ∀(A:Around)(fr:List Env)(hands:List Value)(P:Addr->Prop)(s:Shared)(vs ks:List Value)(ds dk:List D)(Q:D->Prop)(X:Err->Prop),ziB S A fr hands P n calm s ->
  zaN S s.heap P vs ds->zaN S s.heap P ks dk->ks.length=kws.length->Φ ds dk Q X ->
  wpAny (model S.prog S.w) A (call f vs (kws.zip ks)) (OkC S fr P s Q) (zz0 S fr s X) s
noncomputable def zyd(n₀:Nat)(S:St0)(f:Value)(n:Nat)(calm:Bool)(kws:List Str)(Φ:List D->List D->PD):Prop:=
 ∀(A:Around)(fr:List Env)(hands:List Value)(P:Addr->Prop)(s:Shared)(vs ks:List Value)(ds dk:List D)(Q:D->Prop)(X:Err->Prop),n₀≤s.toks->ziB S A fr hands P n calm s ->
  zaN S s.heap P vs ds->zaN S s.heap P ks dk->ks.length=kws.length->Φ ds dk Q X ->
  wpAny (model S.prog S.w) A (call f vs (kws.zip ks)) (OkC S fr P s Q) (zz0 S fr s X) s
theorem ziO.n{n₀:Nat}{S:St0}{f:Value}{n:Nat}{calm:Bool}{kws:List Str}{Φ:List D->List D->PD}(H:ziO S f n calm kws Φ):zyd n₀ S f n calm kws Φ:=λA fr hands P s vs ks ds dk Q X _=>H A fr hands P s vs ks ds dk Q X
noncomputable def start(ds:List D)(n:Nat):Sl:=ds.map .val++List.replicate n .unb
@[reducible]noncomputable def zmD(Q:D->Prop):Fl->Sl->Prop:=λfl _=>match fl with
 |.ret d=>Q d
 |.next=>Q .none
 |.brk=>False
 |.cont=>False
@[reducible]noncomputable def zfO(c:PS)(n:Nat)(ds:List D):PD:=λQ X=>c (zmD Q) (λx _=>X x) (start ds n)
section
variable{S:St0}
theorem zk7:∀{l:List (Str×Value)}{k:Str}{v:Value},(l.map (·.1)).Nodup->(k,v)∈l->l.lookup k=some v
 |[],_,_,_,h=>by exact zcx h
 |(k',v')::l,k,v,hn,h=>by
  rw[List.map_cons,List.nodup_cons]at hn;rcases yz.mp h with h1|h1
  ·clear h
   cases h1;simp[List.lookup]
  ·have:(k==k')=false:=by
    rw[beq_eq_false_iff_ne];clear h;rintro rfl;exact hn.1 (List.mem_map.mpr (zbB (_,v) h1 rfl))
   simp only[List.lookup,this];exact zk7 hn.2 h1
theorem zqz{ps:List Str}{vs:List Value}(h:ps.Nodup)(hl:ps.length=vs.length){i:Nat}{x:Str}{v:Value}(hx:ps[i]?=some x)(hv:vs[i]?=some v):(ps.zip vs).reverse.lookup x=some v:=by
 refine zk7 ?_ ?_
 ·rw[List.map_reverse,List.map_fst_zip (Nat.le_of_eq hl)]
  exact List.pairwise_reverse.mpr (h.imp Ne.symm)
 ·rw[List.mem_reverse]
  refine yy (i:=i) ?_;rw[List.getElem?_zip_eq_some];exact⟨hx,hv⟩
theorem zkb{α:Type}:∀{l:List (Str×α)}{x:Str},x∉l.map (·.1)->l.lookup x=none
 |[],_,_=>rfl
 |(y,v)::l,x,h=>by
  rw[List.map_cons,List.mem_cons,not_or]at h;simp only[List.lookup,beq_eq_false_iff_ne.mpr h.1];exact zkb h.2
theorem zjE{α:Type}:∀{l:List (Str×α)}{x:Str},x∈l.map (·.1)->∃c,l.lookup x=some c
 |(y,v)::l,x,h=>by
  by_cases e:x=y
  ·rw[List.lookup,e,beq_self_eq_true];exact⟨v,rfl⟩
  ·rw[List.lookup,beq_eq_false_iff_ne.mpr e]
   rw[List.map_cons,List.mem_cons]at h;exact zjE (h.resolve_left e)
theorem zmN{α:Type}:∀{l:List (Str×α)}{j:Nat}{x:Str}{c:α},(l.map (·.1)).Nodup->l[j]?=some (x,c)->l.lookup x=some c
 |(y,v)::l,0,x,c,_,h=>by
  cases h;simp only[List.lookup,beq_self_eq_true]
 |(y,v)::l,j+1,x,c,hn,h=>by
  rw[List.map_cons,List.nodup_cons]at hn;have h:l[j]?=some (x,c):=h;have e:(x==y)=false:=beq_eq_false_iff_ne.mpr λe=>hn.1 (e▸List.mem_map.mpr (zbB _ (yy h) rfl));simp only[List.lookup,e];exact zmN hn.2 h
theorem zm5{k:Str->Option NameKind}:∀(l:List (Str×Value))(m:Str->Option Value),(∀x∈l,k x.1=some .local)->∀y,bindL k l m y=(l.reverse.lookup y).or (m y)
 |[],m,_,y=>rfl
 |(n,v)::l,m,h,y=>by
  show bindL k l (if k n=some .local then _ else m) y=_;rw[if_pos (h (n,v) List.mem_cons_self),zm5 l _ (λx hx=>h x (List.mem_cons_of_mem _ hx)),List.reverse_cons,List.lookup_append];cases l.reverse.lookup y with
  |some z=>rfl
  |none=>
   show(if y=n then some v else m y)=(List.lookup y [(n,v)]).or (m y);by_cases e:y=n
   ·rw[if_pos e,e,List.lookup,beq_self_eq_true];rfl
   ·rw[if_neg e,List.lookup,beq_eq_false_iff_ne.mpr e];rfl
theorem znl{k:Str->Option NameKind}:∀(l:List (Str×Value))(m:Str->Option Value),(∀x∈l,k x.1=some .local)->bindC k l m=m
 |[],m,_=>rfl
 |(n,v)::l,m,h=>by
  show bindC k l (if k n=some .local then m else _)=_;rw[if_pos (h (n,v) List.mem_cons_self)];exact znl l m λx hx=>h x (yn _ hx)
noncomputable def zli(n:Nat)(cs:List (Str×Addr))(i:Nat):Option Addr:=if i<n then none else(cs[i-n]?).map (·.2)
theorem zgo{n:Nat}{cs:List (Str×Addr)}{i:Nat}{b:Addr}(h:zli n cs i=some b):n≤i∧∃x,cs[i-n]?=some (x,b):=by
 unfold zli at h;by_cases e:i<n
 ·rw[if_pos e]at h;exact zae h
 ·rw[if_neg e]at h
  obtain⟨⟨x,c⟩,h1,rfl⟩:=Option.map_eq_some_iff.mp h;exact⟨xa e,x,h1⟩
theorem zrA{cs:List (Str×Addr)}(h:cs.Pairwise λx y=>x.2≠y.2){i j:Nat}{x y:Str}{b:Addr}(hi:cs[i]?=some (x,b))(hj:cs[j]?=some (y,b)):i=j:=by
 obtain⟨i1,i2⟩:=yp.mp hi;obtain⟨j1,j2⟩:=yp.mp hj;rw[List.pairwise_iff_getElem]at h;rcases Nat.lt_trichotomy i j with q|q|q
 ·exact absurd (by rw[i2,j2]) (h i j i1 j1 q)
 ·exact q
 ·exact absurd (by rw[i2,j2]) (h j i j1 i1 q)
theorem ziK:∀{l:List (Str×NameKind)}{n:Nat}{acc:List (Str×Addr)},(∀x∈l,x.2≠.cell)->cellsFrom n l acc=acc
 |[],_,_,_=>rfl
 |(_,k)::l,n,acc,h=>by
  show(if(k == .cell)=true then _ else cellsFrom n l acc)=acc;rw[if_neg (by have:=h _ List.mem_cons_self;simpa using this)];exact ziK λx hx=>h x (yn _ hx)
theorem zn3{l:List (Str×NameKind)}{sh:zak}(h:∀x∈l,x.2≠.cell)(hcs:sh.cells=[])(n:Nat):(cellsFrom n l []).map (·.1)=sh.cells:=by rw[ziK h,hcs];rfl
theorem zr8{sh:zak}(hcs:sh.cells=[])(h:sh.names.Nodup):sh.all.Nodup:=by unfold zak.all;rw[hcs,List.append_nil];exact h
theorem zls{sh:zak}(hcs:sh.cells=[])(l:Sl):l=l++List.replicate sh.cells.length (.cel none):=by rw[hcs];exact(List.append_nil l).symm
theorem zs6{h:Heap}{cd:Value}{n:Str}(hcd:h.CodeRec cd n):∃c o vs,cd=.ref c∧h.get? c=some o∧o.data=.fields vs:=by
 refine zBI hcd λc o ws _ e g d _=>?_;exact⟨c,o,ws,e,g,d⟩
theorem room{d r k n:Nat}(hk:k≤10)(h:d+(r+10)≤n):d+k+r≤n:=yk (by rw[Nat.add_assoc,Nat.add_comm k r];exact yZ (yZ hk r) d) h
theorem zhO(D0:Std S){sh:zak}{body:List Stmt}{a:Addr}{o:Obj}{fd:FuncData}{ps rest:List Str}{kw:List (Str×Value)}{c:PS}{calm:Bool}{A:Around}{fr:List Env}{hands:List Value}{P:Addr->Prop}{s:Shared}{vs ks:List Value}{ds dk:List D}{Q:D->Prop}{X:Err->Prop}
  (ho:s.heap.get? a=some o)(hdata:o.data=.func fd)(hcd:s.heap.CodeRec fd.code fd.qualname)(hbody:fd.body=.stmts body)(hg:fd.globals=mainGlobals)(hb:fd.builtins=builtinsNs)
  (hco:fd.scope.isCoroutine=false)(hgen:fd.scope.isGenerator=false)(hk:fd.scope.kind=.function)(hsc:sh.scope=fd.scope)(hclo:fd.closure=[])(hkeys:∀n,(cellsFrom n fd.scope.names []).map (·.1)=sh.cells)(hcl:∀x∈sh.cells,sh.scope.names.lookup x=some .cell)
  (hnames:sh.names=ps++rest)(hloc:∀x∈sh.names,sh.scope.names.lookup x=some .local)(hnd:sh.all.Nodup)(hcalm:sh.calm=calm)
  (hbind:BindsTo s fd ⟨vs,kw⟩ (ps.zip (vs++ks)))
  {n₀:Nat}(hn0:n₀≤s.toks)(H:zdj n₀ S sh body c)(hin:sh.inner=true->zeT S fd.code∧fd.qualname++ofString ".<locals>."=ofString "suffixed_err.<locals>.")
  (hca:sh.calm=true->∃c o vs,fd.code=.ref c∧S.base.get? c=some o∧o.data=.fields vs)
  (C:ziB S A fr hands P (sh.rank+10) calm s)(hv:zaN S s.heap P vs ds)(hkv:zaN S s.heap P ks dk)(hlen:ds.length+dk.length=ps.length){st0:Sl}(hst0:st0=start (ds++dk) rest.length++List.replicate sh.cells.length (.cel none))(q:c (zmD Q) (λx _=>X x) st0) :
  wpAny (model S.prog S.w) A (call (.ref a) vs kw) (OkC S fr P s Q) (zz0 S fr s X) s:=by
 have hvs:=hv.length;have hst:=C.stays;have hbl:∀x∈ps.zip (vs++ks),fd.scope.names.lookup x.1=some .local:=λx hx=>by
  have:x.1∈ps:=(List.of_mem_zip (a:=x.1) (b:=x.2) hx).1;rw[←hsc];exact hloc _ (hnames▸(List.mem_append_left _ this))
 refine wpAny_call (codeAny_call_function (yA (yA (yf (yd _)) C.depth:A.depth<900) (by decide)) ho hdata hco hgen hbody hcd (hbind _ _ _ _ ?_));rw[hclo];refine wpAny_with_toks hn0 (wpAny_newFunctionEnv_cells hk (λx hx=>.inl (hbl x hx)) λenv he s₁ hin1 hn1=>?_);subst he;refine⟨(D0.nl.keeps hst).keeps hin1.toInCall.keep,codeAny_func ?_⟩;left;obtain⟨⟨⟨h1a,tk,rfl⟩,hns,hkp,_⟩,hcel,hap,hab⟩:=hin1
 ·-- the activation
  have hL:∀b o,s.heap.get? b=some o->b≠s.heap.objs.size:=λb o e=>Nat.ne_of_lt (Heap.lt_size e);have hnew:s.heap.get? s.heap.objs.size=none:=yT (yr _);have hbnew:S.base.get? s.heap.objs.size=none:=by
   cases q:S.base.get? s.heap.objs.size with
   |none=>rfl
   |some o=>have:=hst _ _ q;exact zae (hnew.symm.trans this)
  refine zn2 (List.nodup_append.mp hnd) λhnn hcn hdis=>?_;have hCS:=hkeys (s.heap.objs.size+1);have hbL:bindL (callEnvC fd s.heap.objs.size a).kindOf (ps.zip (vs++ks)) (λ_=>none)=λy=>(ps.zip (vs++ks)).reverse.lookup y:=funext λy=>(zm5 _ _ hbl y).trans (Option.or_none ..);have hbC:bindC (callEnvC fd s.heap.objs.size a).kindOf (ps.zip (vs++ks)) (λ_=>none)=λ_=>none:=znl _ _ hbl;have hns:h1a.Ns s.heap.objs.size (λy=>(ps.zip (vs++ks)).reverse.lookup y):=hbL▸hns;have hcel:∀n c,(cellsFrom (s.heap.objs.size+1) fd.scope.names []).lookup n=some c->h1a.IsCell c none:=λn c e=>by
   rw[←show bindC (callEnvC fd s.heap.objs.size a).kindOf (ps.zip (vs++ks)) (λ_=>none) n=none from congrFun hbC n];exact hcel n c e
  have hab:∀n c,(n,c)∈cellsFrom (s.heap.objs.size+1) fd.scope.names []->s.heap.objs.size<c:=hab;have hlenC:(cellsFrom (s.heap.objs.size+1) fd.scope.names []).length=sh.cells.length:=by rw[←hCS,List.length_map]
  let act:Act:=⟨A.deeper (callEnvC fd s.heap.objs.size a),callEnvC fd s.heap.objs.size a,fr,s.heap.objs.size,⟨s.heap.get?⟩,P,s.os,hands,S.tab,callEnvC fd s.heap.objs.size a::fr⟩
  have F:act.Fits S sh:={
   scope:=hsc.symm,kind:=hsc▸hk,loc:=hloc,nodup:=hnd,glob:=hg,blt:=hb,locals:=rfl
   cellk:=hcl,celld:=λx hx=>zjE (show x∈(cellsFrom (s.heap.objs.size+1) fd.scope.names []).map (·.1) by rw[hCS];exact hx),nocell:=λx hx=>zkb (by
    show x∉(cellsFrom (s.heap.objs.size+1) fd.scope.names []).map (·.1);rw[hCS];exact λz=>hdis x hx x z rfl)
   fronts:=by show A.frames.map _=_;exact ya _ C.frames
   LFsub:=λb hb=>by
    rcases yz.mp (show b∈s.heap.objs.size::fr.filterMap (·.frame)from hb)with q|q
    ·exact q▸yq
    ·exact yn _ (yn _ q)
   outs:=λe he=>yn _ he
   FP:=λb hb=>by
    rcases yz.mp hb with q|q
    ·exact q▸C.tabP
    ·exact C.frP b q
   nobase:=hbnew,noh₀:=hnew,stays:=hst
   depth:=room (by decide) C.depth
   units:=room (by decide) C.units
   guards:=C.guards,hand:=C.hand,calm:=λh=>C.calm (hcalm▸h),Pdom:=C.P
   outer:=λb hb=>by
    show(s.heap.get? b).isSome=true;rcases yz.mp hb with q|q
    ·refine zaO C.tab λps h1 _=>?_
     have q:b=S.tab:=q;rw[q,h1];rfl
    ·obtain⟨_,o,ho,_⟩:=C.fun_.mem q
     rw[ho];rfl
   tab:=rfl,tabP:=C.tabP,tabB:=D0.tab,code:=hin,codeA:=hca}
  have FS:act.FitsS S sh:=⟨F,rfl,rfl⟩;have hnewC:∀n c,(n,c)∈cellsFrom (s.heap.objs.size+1) fd.scope.names []->s.heap.get? c=none:=λn c e=>yT (yc (hab n c e));have hP:∀b,(s.heap.get? b).isSome=true->Pv act noX (zli sh.names.length (cellsFrom (s.heap.objs.size+1) fd.scope.names [])) b->P b:=λb hb q=>by
   rcases q with q|q|q|⟨_,q⟩
   ·exact q
   ·rw[q]at hb
    have:(s.heap.get? s.heap.objs.size).isSome=true:=hb;rw[hnew]at this;exact zaF this
   ·exact q.elim
   ·left
    obtain⟨_,x,q⟩:=zgo q;rw[hnewC _ _ (List.mem_of_getElem? q)]at hb;exact zaF hb
  have G:zeY S s.heap h1a P (Pv act noX (zli sh.names.length (cellsFrom (s.heap.objs.size+1) fd.scope.names []))):=⟨λb o e _=>hkp b o e,λb o _ e=>hkp b o e,λb o _ _ e _ _=>(zga o (hkp b o e) rfl rfl),hP,λb o e _=>⟨o,hkp b o e,rfl,rfl⟩⟩;have hall:=hkv.append hv;have hlen':(ds++dk).length=ps.length:=(yP ..).trans hlen;have hnl:sh.names.length=ps.length+rest.length:=by rw[hnames,List.length_append]
  have hsl0:(start (ds++dk) rest.length).length=sh.names.length:=by rw[hnl];unfold start;simp only[List.length_append,List.length_map,List.length_replicate,hlen']
  have Rl:Rel S sh act noX (zli sh.names.length (cellsFrom (s.heap.objs.size+1) fd.scope.names [])) st0 {s with heap:=h1a,toks:=tk}:=by
   refine⟨(zga _ hns ?_ (λi x sl hi hsl=>?_)),.of_keeps hkp,?_,(λi b h=>?_),(λi j b h1 h2=>?_),C.gens,rfl,λv hv=>?_,C.tab.keep (F:=[]) (.of_keeps hkp)⟩
   ·simp only[hst0,List.length_append,hsl0,List.length_replicate];exact(yP ..).symm
   ·rw[hst0]at hsl
    have hi:(sh.names++sh.cells)[i]?=some x:=hi;by_cases hN:i<sh.names.length
    ·rw[List.getElem?_append_left (hsl0▸hN)]at hsl
     rw[List.getElem?_append_left hN]at hi;rw[F.ovn (List.mem_of_getElem? hi)];have how:zli sh.names.length (cellsFrom (s.heap.objs.size+1) fd.scope.names []) i=none:=if_pos hN;rw[how];rw[hnames]at hi;unfold start at hsl;by_cases hlt:i<ps.length
     ·rw[List.getElem?_append_left (by rw[List.length_map,hlen'];exact hlt)]at hsl
      rw[List.getElem?_append_left hlt]at hi;rw[List.getElem?_map]at hsl;obtain⟨d,hd,rfl⟩:=Option.map_eq_some_iff.mp hsl;obtain⟨v,hv',hr⟩:=hall.get hd;exact⟨rfl,v,zqz (by rw[hnames]at hnn;exact(List.nodup_append.mp hnn).1) (hall.length.trans hlen').symm hi hv',hr.goes G⟩
     ·rw[List.getElem?_append_right (by rw[List.length_map,hlen'];exact Nat.le_of_not_lt hlt)]at hsl
      obtain⟨_,hsl⟩:=yp.mp hsl;rw[List.getElem_replicate]at hsl;subst hsl;exact rfl
    ·have hN:=xa hN
     rw[List.getElem?_append_right (hsl0▸hN)]at hsl;rw[List.getElem?_append_right hN,←hCS,List.getElem?_map]at hi;left;obtain⟨_,hsl⟩:=yp.mp hsl;rw[List.getElem_replicate]at hsl;subst hsl;obtain⟨⟨y,c⟩,hc,rfl⟩:=Option.map_eq_some_iff.mp hi;have hlk:=zmN (hCS▸hcn) hc;obtain⟨oc,g1,g2⟩:=hcel _ _ hlk;refine⟨c,oc,none,(if_neg (yg.mpr hN)).trans (ya (Option.map (·.2)) hc),?_,g1,g2,rfl⟩;show(match (cellsFrom (s.heap.objs.size+1) fd.scope.names []).lookup y with|some c=>some (Value.ref c)|none=>_)=_;rw[hlk]
   ·left
    obtain⟨o',es,ep,z1,z2,_⟩:=hns;exact⟨by show fd.scope.kind≠.module;rw[hk];decide,(zkD s.heap.objs.size o' rfl hbnew z1 (λvs z=>by cases z2.symm.trans z)),C.fun_.of_keeps λb o e _=>⟨o,hkp b o e,rfl⟩⟩
   ·obtain⟨hle,x,hx⟩:=zgo h
    have hm:=yy hx;refine⟨?_,hnewC _ _ hm,λq=>q,Nat.ne_of_gt (hab _ _ hm)⟩;have:=(yp.mp hx).1;rw[hlenC]at this;show i<(sh.names++sh.cells).length;rw[List.length_append];exact(Nat.sub_lt_iff_lt_add' hle).mp this
   ·obtain⟨l1,x1,k1⟩:=zgo h1
    obtain⟨l2,x2,k2⟩:=zgo h2;exact(Nat.sub_add_cancel l1).symm.trans ((ya (· + sh.names.length) (zrA hap k1 k2)).trans (Nat.sub_add_cancel l2))
   ·exact(C.hands v hv).same (λb o vs e _ _ _=>hkp b o e) λ_ _ q=>q
  refine yt (H act _ _ _ _ _ hn1 FS Rl q) (λfl s' h=>?_) λev s' h=>?_
  ·left
   obtain⟨fl',ow',st',g1,g2,g3⟩:=h;have out:∀v d,Q d->zcN S s'.heap (Pv act noX ow') v d∧New s.heap v d->OkC S fr P s Q v s':=λv d qd x=>
    ⟨d,qd,x.1.goes (.less λb _ q=>.inl q),x.2,g2.keep,g2.gens.trans C.gens.symm,g2.os⟩
   induction fl<;>induction fl'<;>first
    |exact g3.elim
    |exact g1.elim
    |exact out _ _ g1 ⟨.none,λz=>nomatch z⟩
    |exact out _ _ g1 g3
  ·obtain⟨x,ow',st',e,T,g1,rfl,Fl⟩:=h.fly
   unfold leaving;refine yl (zma FS Fl FS.frames λT' s₂ F2=>zh4 F F2 (.inl rfl) λs3a F3 hL'=>?_);exact⟨x,e,some T',g1,rfl,F3.newE,F3.newT,hL' rfl,F3.rel.keep,F3.rel.gens.trans C.gens.symm,F3.rel.os⟩
theorem zsb(D0:Std S){sh:zak}{body:List Stmt}{a:Addr}{o:Obj}{fd:FuncData}{ps rest:List Str}{kws:List Str}{c:PS}{calm:Bool}
  (ho:S.base.get? a=some o)(hdata:o.data=.func fd)(hcd:S.base.CodeRec fd.code fd.qualname)(hbody:fd.body=.stmts body)(hg:fd.globals=mainGlobals)(hb:fd.builtins=builtinsNs)
  (hco:fd.scope.isCoroutine=false)(hgen:fd.scope.isGenerator=false)(hk:fd.scope.kind=.function)(hsc:sh.scope=fd.scope)(hcell:∀x∈fd.scope.names,x.2≠.cell)
  (hnames:sh.names=ps++rest)(hloc:∀x∈sh.names,sh.scope.names.lookup x=some .local)(hnd:sh.names.Nodup)(hcalm:sh.calm=calm)
  (hbind:∀(s:Shared)(vs ks:List Value),S.base.StaysIn s.heap->vs.length+kws.length=ps.length->ks.length=kws.length->BindsTo s fd ⟨vs,kws.zip ks⟩ (ps.zip (vs++ks)))
  (hps:kws.length≤ps.length)
  (H:zaG S sh body c)(hin:sh.inner=true->zeT S fd.code∧fd.qualname++ofString ".<locals>."=ofString "suffixed_err.<locals>.":=by intro h;exact nomatch h)(hclo:fd.closure=[]:=by rfl)(hcs:sh.cells=[]:=by rfl):ziO S (.ref a) (sh.rank+10) calm kws λds dk Q X=>ds.length+kws.length=ps.length∧zfO c rest.length (ds++dk) Q X:=by
 intro A fr hands P s vs ks ds dk Q X C hv hkv hkl ⟨hlen,q⟩;have hvs:=hv.length;have hst:=C.stays;exact zhO D0 (hst _ _ ho) hdata (hcd.keeps hst) hbody hg hb hco hgen hk hsc hclo (zn3 hcell hcs) (λx hx=>by rw[hcs]at hx;exact zcx hx) hnames hloc (zr8 hcs hnd) hcalm (hbind s vs ks hst (hvs▸hlen) hkl) (yb _) H.t hin (λ_=>zs6 hcd) C hv hkv (by rw[←hkv.length,hkl];exact hlen) (zls hcs _) q
theorem zuT(D0:Std S){sh:zak}{body:List Stmt}{a:Addr}{o:Obj}{fd:FuncData}{ps rest:List Str}{c:PS}{calm:Bool}{es:List Value}{de:List D}
  (ho:S.base.get? a=some o)(hdata:o.data=.func fd)(hcd:S.base.CodeRec fd.code fd.qualname)(hbody:fd.body=.stmts body)(hg:fd.globals=mainGlobals)(hb:fd.builtins=builtinsNs)
  (hco:fd.scope.isCoroutine=false)(hgen:fd.scope.isGenerator=false)(hk:fd.scope.kind=.function)(hsc:sh.scope=fd.scope)(hcell:∀x∈fd.scope.names,x.2≠.cell)
  (hnames:sh.names=ps++rest)(hloc:∀x∈sh.names,sh.scope.names.lookup x=some .local)(hnd:sh.names.Nodup)(hcalm:sh.calm=calm)(hes:∀h P,zaN S h P es de)
  (hbind:∀(s:Shared)(vs:List Value),S.base.StaysIn s.heap->vs.length+es.length=ps.length->BindsTo s fd ⟨vs,[]⟩ (ps.zip (vs++es)))
  (H:zaG S sh body c)(hin:sh.inner=true->zeT S fd.code∧fd.qualname++ofString ".<locals>."=ofString "suffixed_err.<locals>.":=by intro h;exact nomatch h)(hclo:fd.closure=[]:=by rfl)(hcs:sh.cells=[]:=by rfl):ziO S (.ref a) (sh.rank+10) calm [] λds dk Q X=>ds.length+de.length=ps.length∧zfO c rest.length (ds++de) Q X:=by
 intro A fr hands P s vs ks ds dk Q X C hv hkv hkl ⟨hlen,q⟩;have hvs:=hv.length;have hst:=C.stays;have:=(hes s.heap P).length;exact zhO D0 (kw:=_) (hst _ _ ho) hdata (hcd.keeps hst) hbody hg hb hco hgen hk hsc hclo (zn3 hcell hcs) (λx hx=>by rw[hcs]at hx;exact zcx hx) hnames hloc (zr8 hcs hnd) hcalm (hbind s vs hst (by simp only[hvs,this];exact hlen)) (yb _) H.t hin (λ_=>zs6 hcd) C hv (hes _ _) hlen (zls hcs _) q
noncomputable def zkG(S:St0)(n:Nat)(calm:Bool)(Φ:List D->PD):Prop:=
 ∀(v:Value)(A:Around)(fr:List Env)(hands:List Value)(P:Addr->Prop)(s:Shared)(vs:List Value)(ds:List D)(Q:D->Prop)(X:Err->Prop),ziB S A fr hands P n calm s ->
  zcN S s.heap P v .lfn->zaN S s.heap P vs ds->Φ ds Q X->wpAny (model S.prog S.w) A (call v vs []) (OkC S fr P s Q) (zz0 S fr s X) s
theorem zv0(D0:Std S){sh:zak}{ps rest:List Str}{c:PS}{calm:Bool}
  (hco:S.lf.scope.isCoroutine=false)(hgen:S.lf.scope.isGenerator=false)(hk:S.lf.scope.kind=.function)(hsc:sh.scope=S.lf.scope)(hcell:∀x∈S.lf.scope.names,x.2≠.cell)
  (hnames:sh.names=ps++rest)(hloc:∀x∈sh.names,sh.scope.names.lookup x=some .local)(hnd:sh.names.Nodup)(hcalm:sh.calm=calm)(hin:sh.inner=false)(hloud:sh.calm=false)
  (hbind:∀(s:Shared)(vs:List Value)(cd:Addr),vs.length=ps.length->BindsTo s (S.lf.fd cd) ⟨vs,[]⟩ (ps.zip vs))
  (H:zaG S sh S.lf.body c)(hcs:sh.cells=[]:=by rfl):zkG S (sh.rank+10) calm λds Q X=>ds.length=ps.length∧zfO c rest.length ds Q X:=by
 intro v A fr hands P s vs ds Q X C hl hv ⟨hlen,q⟩;cases hl with
 |@lfn e o cd h1 h2 h3=>
  left;obtain⟨oc,ws,t,k1,k2,k3,k4⟩:=h3;exact zhO D0 (kw:=[]) (ks:=[]) (dk:=[]) h1 h2 (zCt cd oc ws t rfl k1 k3 k4) rfl rfl rfl hco hgen hk hsc rfl (zn3 hcell hcs) (λx hx=>by rw[hcs]at hx;exact zcx hx) hnames hloc (zr8 hcs hnd) hcalm (by rw[List.append_nil];exact hbind s vs cd (by simp only[hv.length,hlen])) (yb _) H.t (by rw[hin];intro h;exact zaF h) (by rw[hloud];intro h;exact zaF h) C hv .nil hlen (zls hcs _) (by rw[List.append_nil];exact q)
end
structure Ctr where
 rank:Nat
 calm:Bool
 kws:List Str
 Φ:List D->List D->PD
noncomputable abbrev Tab:=Str->Option Ctr
structure zaD(S:St0)(tb:Tab):Prop where
 ok:∀n c v,tb n=some c->S.mg n=some v->ziO S v c.rank c.calm c.kws c.Φ∧∃a o fd,v=.ref a∧S.base.get? a=some o∧o.data=.func fd
structure zc5(n₀:Nat)(S:St0)(tb:Tab):Prop where
 ok:∀n c v,tb n=some c->S.mg n=some v->zyd n₀ S v c.rank c.calm c.kws c.Φ∧∃a o fd,v=.ref a∧S.base.get? a=some o∧o.data=.func fd
theorem zaD.n{n₀:Nat}{S:St0}{tb:Tab}(H:zaD S tb):zc5 n₀ S tb:=⟨λn c v e1 e2=>⟨(H.ok n c v e1 e2).1.n,(H.ok n c v e1 e2).2⟩⟩
inductive KwS(S:St0)(sh:zak):List Keyword->List Str->PEs->Prop
 |nil:KwS S sh [] [] λQ _ st=>Q [] st
 |cons {n:Str} {e:Expr} {p} {ks:List Keyword} {ns:List Str} {c:PE} {cs:PEs}:zau S sh e c->KwS S sh ks ns cs->KwS S sh (⟨some n,e,p⟩::ks) (n::ns) (zab c cs)
section
variable{S:St0}{sh:zak}
theorem zvb{ks:List Keyword}{ns:List Str}{cs:PEs}(H:KwS S sh ks ns cs)(pos:Pos)(env:Env):(backToKw pos (keywordEach ks env)).filterMap (·.1)=ns∧(backToKw pos (keywordEach ks env)).all (·.1.isSome)=true:=by
 induction H with
 |nil=>exact⟨rfl,rfl⟩
 |@cons n e p ks ns c cs _ _ ih=>exact⟨ya (n::·) ih.1,by show((some n).isSome&&_)=true;exact ih.2⟩
theorem zz8{ks:List Keyword}{ns:List Str}{cs:PEs}(H:KwS S sh ks ns cs)(pos:Pos){a:Act}(f:a.Fits S sh):∀(ow:Nat->Option Addr)(st:Sl)(s:Shared)(Q:List Res->Sl->Prop)(X:Err->Sl->Prop),Rel S sh a noX ow st s->cs Q X st ->
  wpAny (model S.prog S.w) a.A (evalAll ((backToKw pos (keywordEach ks a.env)).map (·.2))) (λvs s'=>zB7 S a ow st s Q vs s'∧vs.length=ns.length) (zfA S a st s X) s:=by
 induction H with
 |nil=>intro ow st s Q X R q;exact wpAny_evalAll_nil ⟨(zlH ([]) st q (.refl ..) trivial),rfl⟩
 |@cons n e p ks ns c cs H _ ih=>
  intro ow st s Q X R q;refine wpAny_evalAll_cons (yl (yt (H a ow st s _ X f R q) (λv s₁ h=>yl (yX (yo ?_))) λ_ _ x=>x));left;obtain⟨r,st₁,h1,h2,h3⟩:=h;have R1:=R.step f h2;refine yt (ih _ st₁ s₁ _ X R1 h1) (λvs s₂ h=>?_) λ_ _ x=>zaP h2 x;left;obtain⟨⟨rs,st₂,g1,g2,g3⟩,hl⟩:=h;have:=zhS.step f R1 g2 h3;rw[zax g2.frz]at this g3;exact⟨⟨r::rs,st₂,g1,h2.trans g2,this,g3.early h2.ext⟩,ya Nat.succ hl⟩
theorem zdh.append{a:Act}{ow:Nat->Option Addr}{st:Sl}{hs h:Heap}{vs':List Value}{rs':List Res}(y:zdh S a ow st hs h vs' rs'):∀{vs rs},zdh S a ow st hs h vs rs->zdh S a ow st hs h (vs++vs') (rs++rs')
 |[],[],_=>y
 |[],_::_,x=>x.elim
 |_::_,[],x=>x.elim
 |_::_,_::_,x=>⟨x.1,zdh.append y x.2⟩
@[reducible]noncomputable def zwH(tb:Tab)(sh:zak)(cf:PE)(ca:PEs)(kws:List Str)(ck:PEs):PE:=λQ X st=>cf (λr st₁=>∃n c,r=.pl (.fn n)∧tb n=some c∧c.kws=kws∧c.rank≤sh.rank∧(c.calm=true->sh.calm=true) ∧
 ca (λrs st₂=>ck (λrk st3=>c.Φ (rs.map Res.d) (rk.map Res.d) (λd=>Q (.pl d) (zbs (rs++rk) st3)) (λx=>X x (zbs (rs++rk) st3))) X st₂) X st₁) X st
theorem zpM{n₀:Nat}{tb:Tab}(TB:zc5 n₀ S tb){id:Str}{p pos:Pos}{e:Expr}{es:List Expr}{ks:List Keyword}{cf:PE}{ca ck:PEs}{kws:List Str}(Hf:zau S sh (.Name id p) cf)(Ha:zhE n₀ S sh (e::es) ca)(Hk:KwS S sh ks kws ck)
  (he:∀env,starEach (e::es) env=(false,eval e env)::starEach es env):zeg n₀ S sh (.Call (.Name id p) (e::es) ks pos) (zwH tb sh cf ca kws ck):=λa ow st s Q X hn f R q=>by
 refine wpAny_Call_Name_kw (yt (wpAny_toks_of hn (Hf a ow st s _ X f R q)) (λfv s₁ h=>?_) λ_ _ x=>x.2);left;obtain⟨hn1,r,st₁,⟨n,c,rfl,htb,hkw,hrk,hcm,q⟩,K1,hr,_⟩:=h;have hv:=hr.inv;clear hr;obtain⟨hC,ad,o,fd,rfl,ho,hd⟩:=TB.ok n c fv htb hv;have R1:=R.step f K1;refine zb0 (zvb Hk pos a.env) λkn ka=>?_;refine callWith_function_kw (o:=o) (fd:=fd) (evalArgs_kw2 ka ?_ (he _));refine yt (wpAny_toks_of hn1 (Ha pos a _ st₁ s₁ _ X hn1 f R1 q)) (λvs s₂ h=>?_) λ_ _ x=>zaP K1 x.2;have hn2:=h.1;refine zfB h.2 λrs st₂ g1 K2 g3=>?_;have R2:=R1.step f K2;refine yt (wpAny_toks_of hn2 (zz8 Hk pos f _ st₂ s₂ _ X R2 g1)) (λkv s3a h=>?_) λ_ _ x=>zaP (K1.trans K2) x.2;left;obtain⟨hn3,⟨rk,st3,k1,K3,k3⟩,hkvl⟩:=h;have R3:=R2.step f K3;have hst:=R3.stays f;refine⟨⟨hst _ _ ho,hd⟩,?_⟩
 -- all are sealed
 have all:zdh S a (restr (restr ow st₁) st3) st3 s₁.heap s3a.heap (vs++kv) (rs++rk):=by
  rw[zax (K2.trans K3).frz];have y1:=zdh.step f R2 K3 g3;rw[zax K2.frz]at k3;rw[zax K2.frz,zax K3.frz]at y1;rw[zax K3.frz]at k3;exact zdh.append (k3.early K2.ext) y1
 refine zb0 (zi5 f R1 (rs++rk) (vs++kv) st3 (K2.trans K3) all) λK' hvs=>?_;have R':=R1.step f K';rw[List.map_append]at hvs;have hl:vs.length=(rs.map Res.d).length:=by rw[List.length_map];exact g3.length
 have sp:∀{vs1 vs2:List Value}{ds1 ds2:List D}{h:Heap}{P:Addr->Prop},vs1.length=ds1.length->zaN S h P (vs1++vs2) (ds1++ds2)->zaN S h P vs1 ds1∧zaN S h P vs2 ds2:=by
  intro vs1
  induction vs1 with
  |nil=>intro vs2 ds1 ds2 h P hl x;cases ds1 with|nil=>exact⟨.nil,x⟩|cons _ _=>cases hl
  |cons v vs1 ih=>
   intro vs2 ds1 ds2 h P hl x;left
   induction ds1 with
   |nil=>cases hl
   |cons d ds1=>cases x with|cons y z=>obtain⟨z1,z2⟩:=ih (Nat.succ.inj hl) z;exact⟨.cons y z1,z2⟩
 refine zb0 (sp hl hvs) λhv1 hv2=>?_;have hkl:kv.length=c.kws.length:=hkw▸hkvl;have R3':=R';have C:ziB S a.A a.fr a.hands (Pv a noX (restr (restr ow st₁) (zbs (rs++rk) st3))) c.rank c.calm s3a:={
  frames:=f.fronts,stays:=hst,fun_:=R'.frames
  depth:=by have:=f.depth;lia
  units:=by have:=f.units;lia
  guards:=f.guards,calm:=λh=>f.calm (hcm h),hand:=f.hand,hands:=R'.hands,gens:=R'.gens,tab:=R'.tab,tabP:=.inl (f.tab▸f.tabP),frP:=λb hb=>f.inP b (f.LFsub b hb)
  P:=λb q=>by
   rcases q with q|q|q|⟨i,q⟩
   ·obtain⟨o,ho⟩:=yL.mp (f.Pdom b q)
    exact R'.keep.there ho
   ·obtain⟨m,⟨o,_,_,ho,_⟩,_⟩:=R'.slots
    rw[q,ho];rfl
   ·exact q.elim
   ·exact R'.own_there q}
 have KK:=K1.trans K';rw[List.nil_append];have hz:(backToKw pos (keywordEach ks a.env)).filterMap (·.1)=c.kws:=by rw[hkw];exact kn
 rw[hz];refine yt (hC a.A _ a.hands _ s3a vs kv _ _ _ _ hn3 C hv1 hv2 hkl k1) (λv s4a h=>?_) λev s4a h=>?_
 ·left
  obtain⟨d,qd,hvr,hnew,hk,hg,hos⟩:=h;replace hk:=hk.mono (G:=a.L::a.F) λb hb=>by
   rcases yz.mp hb with q|q
   ·exact q▸f.tab▸yn _ yq
   ·exact f.LFsub b q
  have K4:Step a st (zbs (rs++rk) st3) s s4a:=KK.trans ⟨.refl _,hk,hg,hos⟩;refine⟨.pl d,_,qd,K4,?_,λz=>?_⟩
  ·rw[zax K'.frz]at hvr;exact hvr
  ·refine zaO (hnew z) λe' h1 h2=>?_
   exact zbB e' h1 (KK.keep.new h2)
 ·obtain⟨x,e',T,qx,rfl,hn,hT,hO,hk,hg,hos⟩:=h
  replace hk:=hk.mono (G:=a.L::a.F) λb hb=>by
   rcases yz.mp hb with q|q
   ·exact q▸f.tab▸yn _ yq
   ·exact f.LFsub b q
  exact⟨x,_,qx,KK.trans ⟨.refl _,hk,hg,hos⟩,e',T,rfl,KK.keep.new hn,λb hb=>KK.keep.new (hT b hb),hO a.L⟩
theorem zxb{tb:Tab}(TB:zaD S tb){id:Str}{p pos:Pos}{e:Expr}{es:List Expr}{ks:List Keyword}{cf:PE}{ca ck:PEs}{kws:List Str}(Hf:zau S sh (.Name id p) cf)(Ha:zbT S sh (e::es) ca)(Hk:KwS S sh ks kws ck)
  (he:∀env,starEach (e::es) env=(false,eval e env)::starEach es env):zau S sh (.Call (.Name id p) (e::es) ks pos) (zwH tb sh cf ca kws ck):=(zpM TB.n Hf Ha.t Hk he).s
end
section
variable{S:St0}{sh:zak}{a:Act}
theorem zjP{st st':Sl}{s s':Shared}(K:Step a st st' s s')(o:Obj)(t:Nat):Step a st st' s {s' with heap:=s'.heap.push o,toks:=t}:=⟨K.frz,K.keep.trans (.push _ _),K.gens,K.os⟩
@[reducible]noncomputable def zep(cs:PEs):PE:=λQ X st=>cs (λrs st₁=>rs.length≤1000∧Q (.pl (.tup (rs.map Res.d))) (zbs rs st₁)) X st
@[reducible]noncomputable def zfM(cs:PEs):PE:=λQ X st=>cs (λrs st₁=>rs.length≤1000∧Q (.fr (rs.map Res.d)) (zbs rs st₁)) X st
theorem zgd{h:Heap}{o:Obj}{P P':Addr->Prop}(p:∀b,(h.get? b).isSome=true->P' b->P b):zeY S h (h.push o) P P':=
 ⟨λ_ _ e _=>yE _ e,λ_ _ _ e=>yE _ e,λ_ ob _ _ e _ _=>(zga ob (yE _ e) rfl rfl),p,λ_ ob e _=>(zga ob (yE _ e) rfl rfl)⟩
theorem zyv{n:Nat}{es:List Expr}{k pos}{cs:PEs}(H:zhE n S sh es cs):zeg n S sh (.Tuple es k pos) (zep cs):=λa ow st s Q X hn f R q=>by
 refine wpAny_Tuple (yt (H pos a ow st s _ X hn f R q) (λvs s₁ h=>?_) λ_ _ x=>x);left;obtain⟨rs,st₁,⟨hl,hq⟩,K,hr⟩:=h;refine zb0 (zi5 f R rs vs st₁ K hr) λK' hv=>?_;have hle:vs.length≤sizeLine:=yk (hr.length▸hl) (by decide);refine⟨hle,.pl _,_,hq,zjP K' _ _,⟨.tup (yI _ rfl) rfl rfl ?_,λz=>zaF z⟩⟩;rw[List.toList_toArray];exact hv.goes (zgd λ_ _ q=>q)
theorem zeC{es:List Expr}{k pos}{cs:PEs}(H:zbT S sh es cs):zau S sh (.Tuple es k pos) (zep cs):=(zyv H.t).s
theorem zop{n:Nat}{es:List Expr}{pos}{cs:PEs}(H:zhE n S sh es cs):zeg n S sh (.List es pos) (zfM cs):=λa ow st s Q X hn f R q=>by
 refine wpAny_List (yt (H pos a ow st s _ X hn f R q) (λvs s₁ h=>?_) λ_ _ x=>x);left;obtain⟨rs,st₁,⟨hl,hq⟩,K,hr⟩:=h;refine zb0 (zi5 f R rs vs st₁ K hr) λK' hv=>?_;have hle:vs.length≤sizeLine:=yk (hr.length▸hl) (by decide);have hn:s₁.heap.get? s₁.heap.objs.size=none:=yT (yr _);refine⟨hle,.fr _,_,hq,zjP K' _ _,_,_,_,_,rfl,K'.keep.new hn,yI _ rfl,rfl,rfl,?_,rfl⟩;rw[List.toList_toArray];refine hv.goes (zgd λb hb q=>?_);rcases q with q|q|q|q
 ·exact .inl q
 ·exact .inr (.inl q)
 ·rw[q,hn]at hb;exact zaF hb
 ·exact .inr (.inr (.inr q))
theorem ze7{es:List Expr}{pos}{cs:PEs}(H:zbT S sh es cs):zau S sh (.List es pos) (zfM cs):=(zop H.t).s
noncomputable def putAll:List Nat->List D->Sl->Sl
 |i::is,d::ds,st=>putAll is ds (st.set i (.val d))
 |_,_,st=>st
inductive zbG(sh:zak):List Expr->List Nat->Prop
 |nil:zbG sh [] []
 |cons {x:Str} {p:Pos} {i:Nat} {es:List Expr} {is:List Nat}:sh.names[i]?=some x->zbG sh es is->zbG sh (.Name x p::es) (i::is)
theorem zj3{es:List Expr}{is:List Nat}(T:zbG sh es is)(env:Env):(assignEach es env).length=is.length∧(assignEach es env).findIdx? (·.1)=none:=by
 induction T with
 |nil=>exact⟨rfl,rfl⟩
 |@cons x p i es is _ _ ih=>
  refine⟨ya Nat.succ ih.1,?_⟩;show List.findIdx? (·.1) ((false,assign (.Name x p) env)::assignEach es env)=none;rw[List.findIdx?_cons];simp[ih.2]
theorem zjT(f:a.Fits S sh){X:Err->Sl->Prop}{es:List Expr}{is:List Nat}(T:zbG sh es is):∀{ow:Nat->Option Addr}{st:Sl}{s:Shared}{vs:List Value}{ds:List D}{Q:Unit->Shared->Prop},Rel S sh a noX ow st s->zaN S s.heap (Pv a noX ow) vs ds->ds.length=is.length ->
  (∀s' ow',Rel S sh a noX ow' (putAll is ds st) s'->Q () s')->wpAny (model S.prog S.w) a.A (assignInOrder ((assignEach es a.env).map (·.2)) vs) Q (zlv S sh a X) s:=by
 induction T with
 |nil=>
  intro ow st s vs ds Q R hv hl k;left
  induction ds with
  |nil=>cases hv;exact yo (k s ow R)
  |cons _ _=>cases hl
 |@cons x p i es is hi _ ih=>
  intro ow st s vs ds Q R hv hl k;left;cases hv with
  |nil=>cases hl
  |@cons v d vs ds hv hvs=>
   show wpAny _ _ (do holding vs (assign (.Name x p) a.env v);assignInOrder ((assignEach es a.env).map (·.2)) vs) _ _ _;refine yl (yH ?_);show wpAny _ _ (do standAt p;bindName a.env x v) _ _ _;refine yl (yX (wpAny_bindName (zgT f R hi hv λs' R' G=>?_)));exact ih R' (hvs.goes G) (Nat.succ.inj hl) k
@[reducible]noncomputable def zi7(is:List Nat)(c:PE):PS:=λQ X st=>c (λr st₁=>r.oM D.tup? λds=>zzS (Nat.beq ds.length is.length) (Q .next (putAll is ds st₁))) X st
theorem znH{es:List Expr}{k tp value pos}{is:List Nat}{c:PE}(hcalm:sh.calm=true)(T:zbG sh es is)(H:zau S sh value c)(hs:∀env,swapsWithSole [.Tuple es k tp] value pos.line env=pure false:=by intro;rfl)(hw:∀env,swappedStores [.Tuple es k tp] value env=pure none:=by intro;rfl) :
  zbk S sh (.Assign [.Tuple es k tp] value pos) (zi7 is c):=λa ow st s Q X g R q=>by
 have f:=g.f;refine wpAny_Assign_stores (yt (H a ow st s _ X f R q) (λv s₁ h=>?_) λ_ _ x=>zdG f R x) (hs _) (hw _);left;obtain⟨r,st₁,hq,K,hr⟩:=h;refine zaO (Res.tup_inv hq) λds hzz hq=>?_;subst hzz;obtain⟨hr,_⟩:=hr;refine zb0 (zje hq) λhl hq=>?_;have hl:=Nat.eq_of_beq_eq_true hl;obtain⟨t,o,vs,n,rfl,h1,h2,h3,h4⟩:=hr.inv;have R1:=R.step f K;show wpAny _ _ (assign (.Tuple es k tp) a.env (.ref t)) _ _ _;refine zb0 (zj3 T a.env) λtl1 tl2=>?_;have hsz:vs.size=is.length:=by rw[←hl,←h4.length];simp
 refine wpAny_assign_Tuple (f.calm hcalm).1 ⟨o,h1,h2,n,h3⟩ (tl1.trans hsz.symm) tl2 λh' he=>?_;have hk:∀b o,s₁.heap.get? b=some o->h'.get? b=some o:=λb o e=>he b o (λz=>by rw[z,Heap.get?_none_of_le (Nat.le_refl _)]at e;exact zae e) e;have K2:Step a st₁ st₁ s₁ {s₁ with heap:=h'}:=⟨.refl _,.of_keeps hk,rfl,rfl⟩;have R2:=R1.step f K2;refine zjT f T R2 (h4.goes (R1.goes f K2.keep λb _ q=>q.restr)) hl λs' ow' R'=>⟨.next,ow',_,hq,R',trivial⟩
@[reducible]noncomputable def zdZ(i:Nat)(c:PE)(p:D->D->PV):PS:=λQ X st=>atV st i λd=>c (λr st₁=>p d r.d (λr'=>Q .next (zuo i r' st₁)) (λx=>X x st₁)) X st
theorem zc3{i:Nat}{x:Str}{p' op value pos}{c:PE}{p:D->D->PV}(hi:sh.names[i]?=some x)(H:zau S sh value c)(P:zc8 S sh (inplaceOp op) p):zbk S sh (.AugAssign (.Name x p') op value pos) (zdZ i c p):=λa ow st s Q X g R q=>by
 have f:=g.f;left;refine zaO (zyf q) λd hd q=>?_;have R0:=zdr R;refine zcM R.slots λm hn hl hs=>?_;have hm:x∈sh.names:=yy hi;have hk:a.env.kindOf x=some .local:=by unfold Env.kindOf;exact f.scope▸(f.loc x hm)
 have hkk:a.env.scope.kind=.function:=f.scope▸f.kind;obtain⟨_,v,h1,h2⟩:=hs i x _ (zak.all_of hi) hd;rw[f.ovn hm]at h1;refine wpAny_AugAssign_Name (wpAny_loadName_local hkk hk (f.locals▸hn) h1 ?_);refine yt (H a ow st s _ X f R q) (λv2a s₂ h=>?_) λ_ _ x=>zdG f R x;left;obtain⟨r,st₁,q,K,hr⟩:=h;have R1:=R.step f K;have hv:zes S s₂.heap (Pv a noX (restr ow st₁)) v d:=zes.step f R K (.inl h2);refine yt (P a _ st₁ s₂ v v2a d r.d _ _ f R1 hv hr.c q) (λv3 s3a h=>?_) λ_ _ x=>zdG f R (x.toE (X:=X) K);refine zcM h λr' hq K' hr'=>?_;have hr'':zhS S a (restr (restr ow st₁) st₁) st₁ s₂.heap s3a.heap v3 r':=by rw[zax (Frz.refl st₁)];exact hr'
 exact zlE f R1 K' hi hr'' λs' ow' R'=>⟨.next,ow',_,hq,R',trivial⟩
end
open Classical in
noncomputable def Act.at(a:Act)(ow:Nat->Option Addr)(h:Heap)(I:Addr):Act:=
 {a with h₀:=⟨λb=>if b=a.L∨∃i,ow i=some b then none else h.get? b⟩,P:=λb=>a.P b∨b=I}
section
variable{S:St0}{sh:zak}{a:Act}{ow:Nat->Option Addr}{st:Sl}{s:Shared}{I:Addr}
set_option tactic.hygienic true in
theorem zrB{h:Heap}{b:Addr}{o:Obj}(e:(a.at ow h I).h₀.get? b=some o):h.get? b=some o∧b≠a.L∧∀i,ow i≠some b:=by
 unfold Act.at at e;dsimp only at e
 split at e
 ·exact zae e
 ·rename_i n
  exact⟨e,λz=>n (.inl z),λi z=>n (.inr ⟨i,z⟩)⟩
theorem zh7{h:Heap}{b:Addr}{o:Obj}(e:h.get? b=some o)(h1:b≠a.L)(h2:∀i,ow i≠some b):(a.at ow h I).h₀.get? b=some o:=by
 unfold Act.at;dsimp only;rw[if_neg (by rintro(z|⟨i,z⟩);exact h1 z;exact h2 i z)];exact e
theorem zpr(f:a.Fits S sh){X:Addr->Prop}(R:Rel S sh a X ow st s){b:Addr}{o:Obj}(e:a.h₀.get? b=some o):∃o',(a.at ow s.heap I).h₀.get? b=some o':=by
 left;obtain⟨_,o',k,_⟩:=R.keep b o e;refine⟨_,zh7 k (λz=>?_) λi z=>?_⟩
 ·rw[z,f.noh₀]at e;exact zae e
 ·rw[(R.own i b z).2.1]at e;exact zae e
theorem Act.Fits.at(f:a.Fits S sh){X:Addr->Prop}(R:Rel S sh a X ow st s){oI:Obj}(hI:s.heap.get? I=some oI)(hIL:I≠a.L)(hIo:∀i,ow i≠some I):(a.at ow s.heap I).Fits S sh:=
 {scope:=f.scope,kind:=f.kind,loc:=f.loc,nodup:=f.nodup,cellk:=f.cellk,celld:=f.celld,nocell:=f.nocell,glob:=f.glob,blt:=f.blt,locals:=f.locals,fronts:=f.fronts,LFsub:=f.LFsub,outs:=f.outs,FP:=λb hb=>.inl (f.FP b hb),nobase:=f.nobase
  noh₀:=by
   cases q:(a.at ow s.heap I).h₀.get? (a.at ow s.heap I).L with
   |none=>rfl
   |some o=>exact absurd rfl (zrB q).2.1
  stays:=λb o e=>zh7 (R.stays f b o e) (λz=>by rw[z,f.nobase]at e;exact zae e) λi z=>by
   have:=f.stays b o e;rw[(R.own i b z).2.1]at this;exact zae this
  depth:=f.depth,units:=f.units,guards:=f.guards,hand:=f.hand,calm:=f.calm
  Pdom:=λb q=>by
   rcases q with q|q
   ·refine zfc (yL.mp (f.Pdom b q)) λo ho=>?_
    refine zfc (zpr (I:=I) f R ho) λo' h=>?_;exact ya _ h
   ·rw[q,zh7 hI hIL hIo];rfl
  outer:=λb hb=>by
   left;refine zfc (yL.mp (f.outer b hb)) λo ho=>?_;refine zfc (zpr (I:=I) f R ho) λo' h=>?_;exact ya _ h
  tab:=f.tab,tabP:=.inl f.tabP,tabB:=f.tabB,code:=f.code,codeA:=f.codeA}
theorem Act.FitsS.at(g:a.FitsS S sh){X:Addr->Prop}(R:Rel S sh a X ow st s){oI:Obj}(hI:s.heap.get? I=some oI)(hIL:I≠a.L)(hIo:∀i,ow i≠some I):(a.at ow s.heap I).FitsS S sh:=⟨g.f.at R hI hIL hIo,g.frame,g.fr⟩
theorem zxQ{X:Addr->Prop}{ow':Nat->Option Addr}{b:Addr}:Pv (a.at ow s.heap I) noX ow' b↔Pv a (λc=>c=I) ow' b:=by
 constructor
 ·rintro((q|q)|q|q|q)
  ·exact .inl q
  ·exact .inr (.inr (.inl q))
  ·exact .inr (.inl q)
  ·exact q.elim
  ·exact .inr (.inr (.inr q))
 ·rintro(q|q|q|q)
  ·exact .inl (.inl q)
  ·exact .inr (.inl q)
  ·exact .inl (.inr q)
  ·exact .inr (.inr (.inr q))
theorem zwF{h:Heap}{P P':Addr->Prop}{ow':Nat->Option Addr}{m:Str->Option Value}{st':Sl}(hp:∀b,P' b->P b)(L:zBn S sh h P ow' m st'):zBn S sh h P' ow' m st':=
 ⟨L.1,λi x sl h1 h2=>by
  have:=L.2 i x sl h1 h2;clear h2;left
  induction sl with
  |unb=>exact this
  |val d=>obtain⟨q1,v,q2,q3⟩:=this;exact⟨q1,v,q2,q3.goes (.less λb _ q=>hp b q)⟩
  |own ds=>obtain⟨b,o,vs,n,q1,q2,q3,q4,q5,q6,q7⟩:=this;exact⟨b,o,vs,n,q1,q2,q3,q4,q5,q6.goes (.less λb _ q=>hp b q),q7⟩
  |cel d=>obtain⟨b,o,w,q1,q2,q3,q4,q6⟩:=this;exact⟨b,o,w,q1,q2,q3,q4,q6.goes (.less λb _ q=>hp b q)⟩⟩
theorem Rel.at(f:a.Fits S sh)(hc:a.hands=[])(R:Rel S sh a (λb=>b=I) ow st s):Rel S sh (a.at ow s.heap I) noX ow st s:=by
 refine zaO R.slots λm hn hl=>?_;refine⟨(zbB m hn (zwF (λb q=>(zxQ (X:=noX)).mp q) hl)),.of_keeps λb o e=>(zrB e).1,R.frames,λi b h=>?_,R.inj,R.gens,R.os,λv hv=>(by
  have:v∈a.hands:=hv;rw[hc]at this;exact zcx this),R.tab⟩
 ·refine zyh (R.own i b h) λh1 _ _ h4=>?_
  refine⟨h1,?_,λq=>q,h4⟩;cases q:(a.at ow s.heap I).h₀.get? b with
  |none=>rfl
  |some o=>exact absurd h ((zrB q).2.2 i)
theorem Rel.unat(f:a.Fits S sh)(hc:a.hands=[])(R:Rel S sh a (λb=>b=I) ow st s)(hI:∃o,s.heap.get? I=some o){ow':Nat->Option Addr}{st':Sl}{s':Shared}{Y:Addr->Prop}(hIL:I≠a.L)(hIo:∀i,ow i≠some I)(R':Rel S sh (a.at ow s.heap I) Y ow' st' s'):Rel S sh a (λb=>b=I∨Y b) ow' st' s':=by
 refine zaO R'.slots λm hn hl=>?_;refine⟨(zbB m hn (zwF (λb q=>?_) hl)),λb o e=>?_,R'.frames,λi b h=>?_,R'.inj,R'.gens,R'.os,λv hv=>(by rw[hc]at hv;cases hv),R'.tab⟩
 ·left
  rcases q with q|q|q|q
  ·exact .inl (.inl q)
  ·exact .inr (.inl q)
  ·rcases q with q|q
   ·exact .inl (.inr q)
   ·exact .inr (.inr (.inl q))
  ·exact .inr (.inr (.inr q))
 ·left
  obtain⟨k1,o1,k2,k3⟩:=R.keep b o e;have h1:b≠a.L:=λz=>by rw[z,f.noh₀]at e;cases e
  have h2:∀i,ow i≠some b:=λi z=>by rw[(R.own i b z).2.1]at e;cases e
  refine⟨λhb=>(R'.keep b o (zh7 (k1 hb) h1 h2)).1 hb,?_⟩;left;obtain⟨_,o2,k4,k5⟩:=R'.keep b _ (zh7 k2 h1 h2);refine zbB o2 k4 (zqq.trans (zdU.refl [] s'.heap) (k3.same λc=>zdx.same λc oc e hcc hd=>?_) k5);obtain⟨ws,hd⟩:=hd;left;obtain⟨m0a,⟨oL,es,ep,w1,w2,_⟩,hl0,hs0⟩:=R.slots;refine zb7.weak R'.keep (zh7 e (λz=>?_) λi z=>?_) (zaY hcc)
  ·clear hcc G
   rw[z,w1]at e;obtain rfl:=yj e;cases hd.symm.trans w2
  ·clear G
   refine zb0 (R.own i c z) λhi _=>?_;have hi':i<st.length:=hl0▸hi;have:=hs0 i _ _ (yu hi) (yu hi');revert this;cases st[i]with
   |unb=>intro y;have y:ow i=none:=y;exact zae (y.symm.trans z)
   |val d=>intro y;cases y.1.symm.trans z
   |own ds=>
    rintro⟨b',o',ws',n',y1,_,y3,y4,_⟩;rw[y1]at z;obtain rfl:=yj z;rw[e]at y3;obtain rfl:=yj y3;rw[hcc]at y4;simp at y4
   |cel d=>
    rintro⟨b',o',w',y1,_,y3,y4,_⟩;rw[y1]at z;obtain rfl:=yj z;rw[e]at y3;obtain rfl:=yj y3;exact nomatch hd.symm.trans y4
 ·refine zyh (R'.own i b h) λh1 h2 h3 h4=>?_
  refine⟨h1,?_,?_,h4⟩
  ·cases q:a.h₀.get? b with
   |none=>rfl
   |some o=>
    refine zfc (zpr (I:=I) f R q) λo' z=>?_;exact zae (h2.symm.trans z)
  ·rintro(q|q)
   ·refine zfc hI λo ho=>?_
    obtain rfl:=q.symm;rw[zh7 ho hIL hIo]at h2;exact zgL h2
   ·exact h3 q
end
inductive zko(S:St0)(h:Heap)(P:Addr->Prop)(I:Addr):List D->Prop
 |list {l i items ds}:h.IsListIter I l i->h.IsList l items->¬P l->zaN S h P (items.toList.drop i) ds->zko S h P I ds
 |tup {t i items ds}:h.IsTupleIter I t i->h.IsTuple t items->zaN S h P (items.toList.drop i) ds->zko S h P I ds
 |ascii {x t i ds}:h.IsStrIter I "str_ascii_iterator" x t i->ds=(x.cps.toList.drop i).map (λc=>D.str [c])->zko S h P I ds
 |wide {x t i ds}:h.IsStrIter I "str_iterator" x t i->ds=(x.cps.toList.drop i).map (λc=>D.str [c])->zko S h P I ds
 |range {x k:Int} {n:Nat} {ds}:IsRangeIter h I x (n:Int) k->ds=ztE x k n->zko S h P I ds
section
variable{S:St0}{sh:zak}{a:Act}{ow:Nat->Option Addr}{st:Sl}{s:Shared}{I:Addr}{ds:List D}
theorem zko.there{h:Heap}{P:Addr->Prop}(x:zko S h P I ds):∃o vs,h.get? I=some o∧o.data=.fields vs∧o.cls≠.none∧o.cls≠.type "code":=by
 left
 induction x with
 |list h1=>obtain⟨o,q1,qc,q2⟩:=h1;exact zkD o _ q1 q2 (by rw[qc];simp) (by rw[qc];simp)
 |tup h1=>obtain⟨o,q1,qc,q2⟩:=h1;exact zkD o _ q1 q2 (by rw[qc];simp) (by rw[qc];simp)
 |ascii h1=>obtain⟨o,q1,qc,q2⟩:=h1;exact⟨o,_,q1,q2,by rw[qc];simp,by rw[qc];simp⟩
 |wide h1=>obtain⟨o,q1,qc,q2⟩:=h1;exact⟨o,_,q1,q2,by rw[qc];simp,by rw[qc];simp⟩
 |range h1 h2=>exact zkD _ _ h1 rfl (by simp) (by simp)
theorem zko.goes{h h':Heap}{P P':Addr->Prop}(x:zko S h P I ds)(G:zeY S h h' P P')(hI:h'.get? I=h.get? I):zko S h' P' I ds:=by
 induction x with
 |list h1 h2 h3 h4=>
  refine zcM h1 λo q1 q2 q3=>?_;obtain⟨ol,p1,p2,n,p3⟩:=h2;refine zcM (G.obj' p1 h3) λo' z1 z2 z3=>?_;exact .list (zga o (hI.trans q1) q2 q3) ⟨o',z1,z2.trans p2,n,z3.trans p3⟩ (λq=>h3 (G.no _ (ya _ p1) q)) (h4.goes G)
 |tup h1 h2 h4=>
  refine zcM h1 λo q1 q2 q3=>?_;obtain⟨ol,p1,p2,n,p3⟩:=h2;refine zcM (G.tup _ _ _ _ p1 p2 p3) λo' z1 z2 z3=>?_;exact .tup (zga o (hI.trans q1) q2 q3) ⟨o',z1,z2.trans p2,n,z3.trans p3⟩ (h4.goes G)
 |ascii h1 h2=>obtain⟨o,q1,q2,q3⟩:=h1;exact .ascii (zga o (hI.trans q1) q2 q3) h2
 |wide h1 h2=>obtain⟨o,q1,q2,q3⟩:=h1;exact .wide (zga o (hI.trans q1) q2 q3) h2
 |range h1 h2=>exact .range (hI.trans h1) h2
theorem zho{α:Type}{l:List α}{i:Nat}{v:α}{vs:List α}(h:l.drop i=v::vs):l[i]?=some v∧l.drop (i+1)=vs:=by
 have hlt:i<l.length:=by
  cases Nat.lt_or_ge i l.length with
  |inl q=>exact q
  |inr q=>rw[List.drop_eq_nil_of_le q]at h;exact zp1 h
 rw[List.drop_eq_getElem_cons hlt]at h;injection h with h1 h2;exact⟨by rw[List.getElem?_eq_getElem hlt,h1],h2⟩
theorem Rel.iter(f:a.Fits S sh){X:Addr->Prop}(hX:X I)(R:Rel S sh a X ow st s)(hI0:a.h₀.get? I=none){P:Addr->Prop}(x:zko S s.heap P I ds){h':Heap}{tk:Nat}(hb:∀b o,b≠I->s.heap.get? b=some o->h'.get? b=some o) :
  Rel S sh a X ow st {s with heap:=h',toks:=tk}∧zeY S s.heap h' (Pv a X ow) (Pv a X ow):=by
 refine zfB x.there λo vs h1 h2 hcl=>?_;refine⟨R.moveG f (G:=λb=>b=I) (.of_but λb o e n=>hb b o n e) rfl rfl (λb q=>q▸hX) (λb q=>q▸hI0) (λb q hm=>(R.nob f b hm).2 o vs (q▸h1) hcl.1 h2) (λb o' q e=>by subst q;rw[h1]at e;obtain rfl:=yj e;exact⟨_,h2⟩) (λ_ _ q=>q) (λb o' q e=>by subst q;rw[h1]at e;obtain rfl:=yj e;exact hcl.2),?_⟩;have hbase:S.base.get? I=none:=by
  cases q:S.base.get? I with
  |none=>rfl
  |some o=>rw[f.stays _ _ q]at hI0;exact zgL hI0
 exact⟨λb o e n=>hb b o (λz=>n (.inr (.inr (.inl (z▸hX))))) e,λb o e1 e2=>hb b o (λz=>by rw[z,hbase]at e1;exact zae e1) e2,λb o ws n e _ d=>(zga o (hb b o (λz=>by subst z;rw[h1]at e;obtain rfl:=yj e;cases h2.symm.trans d) e) rfl rfl),λ_ _ q=>q,λb o e c=>⟨o,hb b o (λz=>by
  clear hbase hb;subst z;rw[h1]at e;obtain rfl:=yj e;rcases c with⟨c,_⟩|⟨fd,c⟩
  ·exact hcl.2 c
  ·cases h2.symm.trans c) e,rfl,rfl⟩⟩
theorem zps(f:a.Fits S sh)(hc:a.A.handled=none){X:Addr->Prop}(hX:X I)(R:Rel S sh a X ow st s)(hI0:a.h₀.get? I=none)(x:zko S s.heap (Pv a X ow) I []){Q:Option Value->Shared->Prop}{E:Value->Shared->Prop}
  (k:∀s',Rel S sh a X ow st s'->zeY S s.heap s'.heap (Pv a X ow) (Pv a X ow)->(∀b o,b≠I->s.heap.get? b=some o->s'.heap.get? b=some o)->Q none s'):wpAny (model S.prog S.w) a.A (pyNext (.ref I)) Q E s:=by
 have go:∀h',Heap.ExtBut I s.heap h'->Q none {s with heap:=h'}:=λh' hb=>let z:=R.iter f hX hI0 x (tk:=s.toks) λb o n e=>hb b o n e;k _ z.1 z.2 λb o n e=>hb b o n e
 left;cases x with
 |@list l i items _ h1 h2 h3 h4=>
  refine wpAny_pyNext_list_end hc h1 h2 ?_ go;have:=h4.length;simp at this;rw[Array.getElem?_eq_none_iff];omega
 |@tup t i items _ h1 h2 h4=>
  refine wpAny_pyNext_tuple_end hc h1 h2 ?_ go;have:=h4.length;simp at this;rw[Array.getElem?_eq_none_iff];omega
 |@ascii x t i _ h1 h2=>
  refine wpAny_pyNext_ascii_end hc h1 ?_ go;have:=ya List.length h2;simp at this;rw[Array.getElem?_eq_none_iff];omega
 |@wide x t i _ h1 h2=>
  refine wpAny_pyNext_wide_end hc h1 ?_ go;have:=ya List.length h2;simp at this;rw[Array.getElem?_eq_none_iff];omega
 |@range x k n _ h1 h2=>
  induction n with
  |zero=>exact wpAny_pyNext_range_end hc h1 (Int.le_refl 0) go
  |succ n=>exact zp1 h2
theorem zni(f:a.Fits S sh){X:Addr->Prop}(hX:X I)(R:Rel S sh a X ow st s)(hI0:a.h₀.get? I=none){d:D}(x:zko S s.heap (Pv a X ow) I (d::ds)){Q:Option Value->Shared->Prop}{E:Value->Shared->Prop}
  (k:∀s' v,Rel S sh a X ow st s'->zeY S s.heap s'.heap (Pv a X ow) (Pv a X ow)->(∀b o,b≠I->s.heap.get? b=some o->s'.heap.get? b=some o)->zcN S s'.heap (Pv a X ow) v d->zko S s'.heap (Pv a X ow) I ds->Q (some v) s'):wpAny (model S.prog S.w) a.A (pyNext (.ref I)) Q E s:=by
 have mv:∀h' tk,Heap.SameBut I s.heap h'->Rel S sh a X ow st {s with heap:=h',toks:=tk}∧zeY S s.heap h' (Pv a X ow) (Pv a X ow):=λh' tk hb=>
  R.iter f hX hI0 x λb o n e=>(hb.2 b n).trans e
 have hIne:∀o vs b,s.heap.get? b=some o->o.data=.seq vs b->b≠I:=λo vs b e d z=>by
  refine zfB x.there λo' ws q1 q2 _=>?_;rw[z,q1]at e;obtain rfl:=yj e;cases q2.symm.trans d
 left;refine zfB x.there λoI ws hoI hdI _=>?_;have seqI:∀b o vs n,s.heap.get? b=some o->o.data=.seq vs n->b≠I:=λb o vs n e d z=>by
  left;rw[z,hoI]at e;obtain rfl:=yj e;cases hdI.symm.trans d
 cases x with
 |@list l i items _ h1 h2 h3 h4=>
  obtain⟨v,vs,hdr,hv,hvs⟩:∃v vs,items.toList.drop i=v::vs∧zcN S s.heap (Pv a X ow) v d∧zaN S s.heap (Pv a X ow) vs ds:=by
   revert h4;cases items.toList.drop i with
   |nil=>intro h4;cases h4
   |cons v vs=>intro h4;cases h4 with|cons a b=>exact⟨v,vs,rfl,a,b⟩
  obtain⟨hx,hdr'⟩:=zho hdr;rw[Array.getElem?_toList]at hx;refine wpAny_pyNext_list_item h1 h2 hx λh' hi hs=>?_;obtain⟨R',G⟩:=mv h' s.toks hs;obtain⟨ol,p1,p2,n,p3⟩:=h2;refine k _ v R' G (λb o n e=>(hs.2 b n).trans e) (hv.goes G) (.list hi ⟨ol,(hs.2 l (seqI l ol _ _ p1 p3)).trans p1,p2,n,p3⟩ h3 ?_);rw[hdr'];exact hvs.goes G
 |@tup l i items _ h1 h2 h4=>
  left;obtain⟨v,vs,hdr,hv,hvs⟩:∃v vs,items.toList.drop i=v::vs∧zcN S s.heap (Pv a X ow) v d∧zaN S s.heap (Pv a X ow) vs ds:=by
   revert h4;cases items.toList.drop i with
   |nil=>intro h4;cases h4
   |cons v vs=>intro h4;cases h4 with|cons a b=>exact⟨v,vs,rfl,a,b⟩
  obtain⟨hx,hdr'⟩:=zho hdr;rw[Array.getElem?_toList]at hx;refine wpAny_pyNext_tuple_item h1 h2 hx λh' hi hs=>?_;obtain⟨R',G⟩:=mv h' s.toks hs;obtain⟨ol,p1,p2,n,p3⟩:=h2;refine k _ v R' G (λb o n e=>(hs.2 b n).trans e) (hv.goes G) (.tup hi ⟨ol,(hs.2 l (seqI l ol _ _ p1 p3)).trans p1,p2,n,p3⟩ ?_);rw[hdr'];exact hvs.goes G
 |@ascii x t i _ h1 h2=>
  obtain⟨c,cs,hdr,rfl,rfl⟩:∃c cs,x.cps.toList.drop i=c::cs∧d=D.str [c]∧ds=cs.map (λc=>D.str [c]):=by
   revert h2;cases x.cps.toList.drop i with
   |nil=>intro h2;exact zjG h2
   |cons c cs=>intro h2;cases h2;exact⟨c,cs,rfl,rfl,rfl⟩
  obtain⟨hx,hdr'⟩:=zho hdr;rw[Array.getElem?_toList]at hx;refine wpAny_pyNext_ascii_item h1 hx λh' hi hs=>?_;obtain⟨R',G⟩:=mv h' (s.toks+1) hs;exact k _ _ R' G (λb o n e=>(hs.2 b n).trans e) (.str [c] _) (.ascii hi (by rw[hdr']))
 |@wide x t i _ h1 h2=>
  obtain⟨c,cs,hdr,rfl,rfl⟩:∃c cs,x.cps.toList.drop i=c::cs∧d=D.str [c]∧ds=cs.map (λc=>D.str [c]):=by
   revert h2;cases x.cps.toList.drop i with
   |nil=>intro h2;exact zjG h2
   |cons c cs=>intro h2;cases h2;exact⟨c,cs,rfl,rfl,rfl⟩
  obtain⟨hx,hdr'⟩:=zho hdr;rw[Array.getElem?_toList]at hx;refine wpAny_pyNext_wide_item h1 hx λh' hi hs=>?_;obtain⟨R',G⟩:=mv h' (s.toks+1) hs;exact k _ _ R' G (λb o n e=>(hs.2 b n).trans e) (.str [c] _) (.wide hi (by rw[hdr']))
 |@range x c n _ h1 h2=>
  induction n with
  |zero=>exact zjG h2
  |succ n=>
   injection h2 with h2 h3;refine wpAny_pyNext_range_item h1 (Int.natCast_pos.mpr (yd n)) λh' hi hs=>?_;obtain⟨R',G⟩:=mv h' (s.toks+1) hs;have e:((n+1:Nat):Int)-1=(n:Int):=by lia
   rw[e]at hi;exact k _ _ R' G (λb o n e=>(hs.2 b n).trans e) (h2▸.int x s.toks) (.range (n:=n) hi h3)
end
noncomputable def zyI:D->Option (List D)
 |.lst ds=>some ds
 |.tup ds=>some ds
 |.str l=>some (l.map λc=>.str [c])
 |.rng ds=>some ds
 |_=>none
noncomputable def zwy(i:Nat)(b:PS):List D->PS
 |[],Q,_,st=>Q .next st
 |d::ds,Q,X,st=>b (lpK Q (zwy i b ds Q X)) X (st.set i (.val d))
section
variable{S:St0}{sh:zak}{a:Act}{ow:Nat->Option Addr}{st:Sl}{s:Shared}{I:Addr}{ds:List D}
theorem zf9(f:a.Fits S sh)(R:Rel S sh a noX ow st s)(o:Obj)(t:Nat):Rel S sh a (λb=>b=s.heap.objs.size) ow st {s with heap:=s.heap.push o,toks:=t} ∧
  zeY S s.heap (s.heap.push o) (Pv a noX ow) (Pv a (λb=>b=s.heap.objs.size) ow)∧s.heap.get? s.heap.objs.size=none:=by
 have hn:s.heap.get? s.heap.objs.size=none:=yT (yr _);have:=R.stepX f (st':=st) (s':={s with heap:=s.heap.push o,toks:=t}) ⟨.refl _,.push _ _,rfl,rfl⟩ (X':=λb=>b=s.heap.objs.size) λb hb q=>by rw[q,hn]at hb;exact zaF hb
 rw[zdr R]at this;exact⟨this,zgd λb hb q=>by
  rcases q with q|q|q|q
  ·exact .inl q
  ·exact .inr (.inl q)
  ·rw[q,hn]at hb;exact zaF hb
  ·exact .inr (.inr (.inr q)),hn⟩
set_option tactic.hygienic true in
theorem zkJ(f:a.Fits S sh)(R:Rel S sh a noX ow st s){v:Value}{d:D}(hv:zcN S s.heap (Pv a noX ow) v d)(hd:zyI d=some ds){Q:Value->Shared->Prop}{E:Value->Shared->Prop}
  (k:∀I s',s.heap.get? I=none->Step a st st s s'->Rel S sh a (λb=>b=I) ow st s'->zko S s'.heap (Pv a (λb=>b=I) ow) I ds->Q (.ref I) s'):wpAny (model S.prog S.w) a.A (pyIter v) Q E s:=by
 cases hv
 case str l t=>
  have hd:(l.map λc=>D.str [c])=ds:=yj hd;left;cases ha:(mk l).cps.all (·<128)with
  |true=>
   refine wpAny_pyIter_ascii ha ?_;obtain⟨R',G,hn⟩:=zf9 f R {cls:=.type "str_ascii_iterator",data:=.fields #[.str (mk l) t,.int 0 0]} s.toks;exact k _ _ hn ⟨.refl _,.push _ _,rfl,rfl⟩ R' (.ascii (zga _ (yI _ rfl) rfl rfl) (by rw[←hd];simp[mk]))
  |false=>
   refine wpAny_pyIter_wide ha ?_;obtain⟨R',G,hn⟩:=zf9 f R {cls:=.type "str_iterator",data:=.fields #[.str (mk l) t,.int 0 0]} s.toks;exact k _ _ hn ⟨.refl _,.push _ _,rfl,rfl⟩ R' (.wide (zga _ (yI _ rfl) rfl rfl) (by rw[←hd];simp[mk]))
 case tup b o vs n ds' h1 h2 h3 h4=>
  obtain rfl:ds'=ds:=yj hd;refine wpAny_pyIter_tuple ⟨o,h1,h2,n,h3⟩ ?_;left;obtain⟨R',G,hn⟩:=zf9 f R {cls:=.type "tuple_iterator",data:=.fields #[.ref b,.int 0 0]} s.toks;exact k _ _ hn ⟨.refl _,.push _ _,rfl,rfl⟩ R' (.tup (zga _ (yI _ rfl) rfl rfl) ⟨o,yE _ h1,h2,n,h3⟩ (by rw[List.drop_zero];exact h4.goes G))
 case lst b o vs n ds' h1 hP h2 h3 h4=>
  obtain rfl:ds'=ds:=yj hd;refine wpAny_pyIter_list ⟨o,h1,h2,n,h3⟩ ?_;obtain⟨R',G,hn⟩:=zf9 f R {cls:=.type "list_iterator",data:=.fields #[.ref b,.int 0 0]} s.toks;exact k _ _ hn ⟨.refl _,.push _ _,rfl,rfl⟩ R' (.list (zga _ (yI _ rfl) rfl rfl) ⟨o,yE _ h1,h2,n,h3⟩ (λq=>hP (G.no _ (by rw[h1];rfl) q)) (by rw[List.drop_zero];exact h4.goes G))
 case rng r x b c t u w ds' n h1 hP h2 h3 h4=>
  obtain rfl:ds'=ds:=yj hd;refine wpAny_pyIter_range h1 h3 ?_;rw[←h2];obtain⟨R',G,hn⟩:=zf9 f R {cls:=.type "range_iterator",data:=.fields #[rawInt x,rawInt (n:Int),rawInt c]} s.toks;exact k _ _ hn ⟨.refl _,.push _ _,rfl,rfl⟩ R' (.range (yI _ rfl) h4)
 all_goals exact zae (show(none:Option (List D))=some ds from hd)
theorem zxh(f:a.Fits S sh)(R:Rel S sh a (λb=>b=I) ow st s){ow':Nat->Option Addr}{st':Sl}{s':Shared}(R':Rel S sh (a.at ow s.heap I) noX ow' st' s'):zeY S s.heap s'.heap (Pv a (λb=>b=I) ow) (Pv a (λb=>b=I) ow'):=by
 have nob:=R.nob f;refine⟨λb o e n=>?_,λb o e1 e2=>?_,λb o vs n e c d=>?_,λb hb q=>?_,λb o e c=>?_⟩
 ·have hp:=zh7 (I:=I) (a:=a) e (λz=>n (.inr (.inl z))) λi z=>n (.inr (.inr (.inr ⟨i,z⟩)))
  exact(R'.keep b o hp).1 λq=>n (.inl (f.FP b q))
 ·have h1:b≠a.L:=λz=>by rw[z,f.nobase]at e1;exact zae e1
  have h2:∀i,ow i≠some b:=λi z=>by
   have:=f.stays b o e1;rw[(R.own i b z).2.1]at this;exact zae this
  exact(R'.keep b o (zh7 e2 h1 h2)).1 λq=>by rw[(nob b (List.mem_cons_of_mem _ q)).1]at e1;exact zae e1
 ·left
  obtain⟨m,⟨oL,es,ep,w1,w2,_⟩,hl,hs⟩:=R.slots;have h1:b≠a.L:=λz=>by rw[z,w1]at e;obtain rfl:=yj e;cases w2.symm.trans d
  have h2:∀i,ow i≠some b:=λi z=>by
   clear G;refine zb0 (R.own i b z) λhi _=>?_;have hi':i<st.length:=hl▸hi;have:=hs i _ _ (yu hi) (yu hi');clear h1;revert this;cases st[i]with
   |unb=>intro y;have y:ow i=none:=y;exact zae (y.symm.trans z)
   |val d=>intro y;cases y.1.symm.trans z
   |own ds=>
    rintro⟨b',o',ws,n',y1,_,y3,y4,_⟩;rw[y1]at z;obtain rfl:=yj z;rw[e]at y3;obtain rfl:=yj y3;rw[c]at y4;simp at y4
   |cel dd=>
    rintro⟨b',o',w',y1,_,y3,y4,_⟩;rw[y1]at z;obtain rfl:=(yj z).symm;rw[e]at y3;obtain rfl:=yj y3;exact nomatch d.symm.trans y4
  exact zb7.weak R'.keep (zh7 e h1 h2) (zaY c)
 ·rcases q with q|q|q|⟨j,q⟩
  ·exact .inl q
  ·exact .inr (.inl q)
  ·exact .inr (.inr (.inl q))
  ·refine Classical.byContradiction λhn=>?_
   obtain⟨o,ho⟩:=yL.mp hb;have hp:=zh7 (I:=I) (a:=a) ho (λz=>hn (.inr (.inl z))) λi z=>hn (.inr (.inr (.inr ⟨i,z⟩)));rw[(R'.own j b q).2.1]at hp;exact zae hp
 ·left
  obtain⟨m,⟨oL,es,ep,w1,w2,_⟩,hl,hs⟩:=R.slots;have h1:b≠a.L:=λz=>by
   rw[z,w1]at e;obtain rfl:=yj e;rcases c with⟨_,vs,d⟩|⟨fd,d⟩<;>(cases w2.symm.trans d)
  have h2:∀i,ow i≠some b:=λi z=>by
   refine zb0 (R.own i b z) λhi _=>?_;have hi':i<st.length:=hl▸hi;have:=hs i _ _ (yu hi) (yu hi');revert this;cases st[i]with
   |unb=>intro y;have y:ow i=none:=y;exact zae (y.symm.trans z)
   |val d=>intro y;cases y.1.symm.trans z
   |own ds=>
    rintro⟨b',o',ws,n',y1,_,y3,y4,y5,_⟩;rw[y1]at z;obtain rfl:=yj z;rw[e]at y3;obtain rfl:=yj y3;rcases c with⟨_,vs,d⟩|⟨fd,d⟩<;>(cases y5.symm.trans d)
   |cel dd=>
    rintro⟨b',o',w',y1,_,y3,y5,_⟩;rw[y1]at z;obtain rfl:=(yj z).symm;rw[e]at y3;obtain rfl:=yj y3;rcases c with⟨_,vs,d⟩|⟨fd,d⟩<;>(cases y5.symm.trans d)
  exact zb7.weak R'.keep (zh7 e h1 h2) (zgZ c)
@[reducible]noncomputable def zoi(i:Nat)(c:PE)(b:PS):PS:=λQ X st=>c (λr st₁=>oM (zyI r.d) λds=>zwy i b ds Q X (r.seal st₁)) X st
theorem zoD(f:a.Fits S sh){X:Addr->Prop}(R:Rel S sh a X ow st s){e:Addr}(h:(a.at ow s.heap I).h₀.get? e=none):a.h₀.get? e=none:=by
 cases q:a.h₀.get? e with
 |none=>rfl
 |some o=>obtain⟨o',z⟩:=zpr (I:=I) f R q;rw[h]at z;exact zae z
theorem zlB{n₀:Nat}{e:Expr}{x:Str}{p pos:Pos}{i:Nat}{body:List Stmt}{c:PE}{b:PS}(hcalm:sh.calm=true)(hi:sh.names[i]?=some x)(H:zeg n₀ S sh e c)(Hb:zdj n₀ S sh body b)(hs:∀env v,foldedSetIterable e env v=pure v) :
  zix n₀ S sh (.For (.Name x p) e body [] pos) (zoi i c b):=λa ow st s Q X hn g R q=>by
 have f:=g.f;refine zb0 (f.calm hcalm) λhh hhands=>?_;refine wpAny_For (yt (wpAny_toks_of hn (H a ow st s _ X hn f R q)) (λv s₁ h=>?_) λ_ _ x=>zdG f R x.2) (hs _);left;obtain⟨hn1,r,st₁,hq,K,hr⟩:=h;refine zaO (oM_inv hq) λds hd hq=>?_;refine zb0 (zgN f R K hr) λK' hv=>?_;have R1:=R.step f K';refine wpAny_with_toks hn1 (zkJ f R1 hv hd λI s₂ hI _ R2 it hn2=>?_);have hI0:a.h₀.get? I=none:=R1.keep.new hI;refine codeAny_forLoop_any (λn s=>n₀≤s.toks∧∃ow st ds,ds.length=n∧zwy i b ds Q X st∧Rel S sh a (λb=>b=I) ow st s∧zko S s.heap (Pv a (λb=>b=I) ow) I ds) (λn s hI=>?_) ds.length ⟨hn2,zuh _ _ ds rfl hq R2 it⟩;have hnI:=hI.1;refine zuk hI.2 λow st ds hzz hq R it=>?_;subst hzz
 induction ds with
 |nil=>exact zps f hh (X:=λb=>b=I) rfl R hI0 it λs' R' _ _=>wpAny_execs_nil ⟨.next,ow,st,hq,R'.lessX f λ_ q=>q.elim,trivial⟩
 |cons d ds=>
  refine wpAny_with_toks hnI (zni f (X:=λb=>b=I) rfl R hI0 it λs3a v R3 _ _ hv it3 hn3=>?_);refine yo ?_;refine zfB it3.there λoI wI hoI hdI hcI=>?_;have hIL:I≠a.L:=λz=>(R3.nob f a.L yq).2 oI wI (z▸hoI) hcI.1 hdI;have hIo:∀j,ow j≠some I:=λj z=>(R3.own j I z).2.2.1 rfl;have g3a:=g.at R3 hoI hIL hIo;have f3:=g3a.f;have R4:=R3.at f hhands;have hv4:zcN S s3a.heap (Pv (a.at ow s3a.heap I) noX ow) v d:=hv.goes (.less λb _ q=>(zxQ (X:=noX)).mp q);refine yl (yX (wpAny_bindName ?_));refine wpAny_with_toks hn3 (zgT f3 R4 hi hv4 λs4a R5 _ hn4=>?_);refine yt (wpAny_toks_of hn4 (Hb (a.at ow s3a.heap I) _ _ s4a _ X hn4 g3a R5 hq)) (λfl s5a h=>?_) λev s5a h=>?_
  ·left
   obtain⟨hn5,fl',ow',st',h1,h2,h3⟩:=h;have Ru:Rel S sh a (λb=>b=I) ow' st' s5a:=(R3.unat f hhands ⟨oI,hoI⟩ hIL hIo h2).lessX f λb q=>.inl q;have G:=zxh f R3 h2;have hsame:s5a.heap.get? I=s3a.heap.get? I:=by
    rw[hoI];exact(h2.keep I oI (zh7 hoI hIL hIo)).1 λq=>(R3.nob f I (yn _ q)).2 oI wI hoI hcI.1 hdI
   have it':=it3.goes G hsame
   induction fl<;>induction fl'<;>first
    |exact h3.elim
    |exact⟨_,yS _,hn5,ow',st',ds,rfl,h1,Ru,it'⟩
    |exact⟨.next,ow',st',h1,Ru.lessX f λ_ q=>q.elim,trivial⟩
    |exact⟨_,ow',st',h1,Ru.lessX f (λ_ q=>q.elim),h3.1.goes (.less λb _ q=>(zxQ (X:=noX)).mpr q.noX_le),λz=>let ⟨e',e1,e2⟩:=h3.2 z;(zbB e' e1 (zoD f R3 e2))⟩
  ·replace h:=h.2
   refine zdC g g.frames ?_;left;obtain⟨x,ow',st',e',T,h1,h2,rfl,h4,h5,h6⟩:=h;exact⟨x,ow',st',e',T,h1,(R3.unat f hhands ⟨oI,hoI⟩ hIL hIo h2).lessX f λb q=>.inr q,rfl,zoD f R3 h4,λb hb=>zoD f R3 (h5 b hb),h6⟩
theorem zwO{e:Expr}{x:Str}{p pos:Pos}{i:Nat}{body:List Stmt}{c:PE}{b:PS}(hcalm:sh.calm=true)(hi:sh.names[i]?=some x)(H:zau S sh e c)(Hb:zaG S sh body b)(hs:∀env v,foldedSetIterable e env v=pure v:=by intros;rfl) :
  zbk S sh (.For (.Name x p) e body [] pos) (zoi i c b):=(zlB hcalm hi H.t Hb.t hs).s
end
section
variable{S:St0}{sh:zak}{a:Act}{ow:Nat->Option Addr}{st:Sl}{s:Shared}
theorem Rel.own_put(f:a.Fits S sh)(R:Rel S sh a noX ow st s){i:Nat}{b:Addr}{o:Obj}{sl0 sl':Slot}(hb:ow i=some b)(hi:st[i]?=some sl0)(ho:s.heap.get? b=some o)(hnF:∀vs,o.data≠.fields vs)(hnf:∀fd,o.data≠.func fd)
  (hnt:∀vs n,o.cls=.type "tuple"->o.data=.seq vs n->False){h':Heap}{tk:Nat}(hsb:Heap.SameBut b s.heap h')
  (hnew:∀v,zh1 S s.heap (Pv a noX ow) v (ow i) sl0->zeY S s.heap h' (Pv a noX ow) (Pv a noX ow)->zh1 S h' (Pv a noX ow) v (ow i) sl'):Rel S sh a noX ow (st.set i sl') {s with heap:=h',toks:=tk}:=by
 refine zcM R.slots λm hn hl hs=>?_;refine zyh (R.own i b hb) λhlt hb0 _ hbL=>?_;have G:zeY S s.heap h' (Pv a noX ow) (Pv a noX ow):=⟨λc oc e nP=>(hsb.2 c λz=>nP (.inr (.inr (.inr ⟨i,z▸hb⟩)))).trans e,λc oc e1 e2=>(hsb.2 c λz=>by
   have:=f.stays c oc e1;rw[z,hb0]at this;exact zae this).trans e2,λc oc ws n' e hc d=>⟨oc,(hsb.2 c λz=>by
   rw[z,ho]at e;obtain rfl:=yj e;exact hnt _ _ hc d).trans e,rfl,rfl⟩,λ_ _ q=>q,λc oc e cc=>⟨oc,(hsb.2 c λz=>by
   left;rw[z,ho]at e;obtain rfl:=yj e;exact cc.elim (λq=>q.2.elim hnF) λq=>q.elim hnf).trans e,rfl,rfl⟩⟩
 have hcode:∀c oc,s.heap.get? c=some oc->oc.cls=.type "code"->(∃vs,oc.data=.fields vs)->∃o',h'.get? c=some o'∧o'.cls=oc.cls∧o'.data=oc.data:=λc oc e _ hd=>⟨oc,(hsb.2 c λz=>by
   rw[z,ho]at e;obtain rfl:=yj e;exact hd.elim hnF).trans e,rfl,rfl⟩
 refine⟨(zga m ?_ (List.length_set.trans hl) (λj x sl hj hsl=>?_)),R.keep.same (λc oc e=>hsb.2 c λz=>by rw[z,hb0]at e;exact zae e) (λc=>zdx.same hcode),?_,R.own,R.inj,R.gens,R.os,λv hv=>(R.hands v hv).same (λc oc ws e _ _ d=>(hsb.2 c λz=>by
   rw[z,ho]at e;obtain rfl:=yj e;exact absurd d (hnF ws)).trans e) λ_ _ q=>q,R.tab.same (hsb.2 _ λz=>by
   clear hnt hnf;refine zaO R.tab λps h1 _=>?_;rw[z,ho]at h1;obtain rfl:=yj h1;exact hnF _ rfl) hcode⟩
 ·refine zrm hn λoL es ep w1 w2 w3=>?_
  exact zzB oL es ep ((hsb.2 _ (Ne.symm hbL)).trans w1) w2 w3
 ·clear hlt
  by_cases e:j=i
  ·subst e
   rw[List.getElem?_set_self (List.getElem?_eq_some_iff.mp hi).1]at hsl;obtain rfl:=yj hsl;exact hnew _ (hs j x _ hj hi) G
  ·rw[List.getElem?_set_ne (Ne.symm e)]at hsl
   have:=hs j x sl hj hsl
   induction sl with
   |unb=>exact this
   |val d=>obtain⟨q1,v,q2,q3⟩:=this;exact⟨q1,v,q2,q3.goes G⟩
   |own dd=>
    obtain⟨b',ob,w',k',q1,q2,q3,q4,q5,q6,q7⟩:=this;exact⟨b',ob,w',k',q1,q2,(hsb.2 b' λz=>e (R.inj j i b (z▸q1) hb)).trans q3,q4,q5,q6.goes G,q7⟩
   |cel d=>
    obtain⟨b',ob,w',q1,q2,q3,q4,q5⟩:=this;exact⟨b',ob,w',q1,q2,(hsb.2 b' λz=>e (R.inj j i b (z▸q1) hb)).trans q3,q4,q5.goes G⟩
 ·refine zkE R.frames λc hc=>hsb.2 c λz=>?_
  rcases yz.mp (f.LFsub c hc)with q|q
  ·exact hbL (z▸q)
  ·have:=f.outer c q
   rw[z,hb0]at this;exact zaF this
theorem Rel.own_set(f:a.Fits S sh)(R:Rel S sh a noX ow st s){i:Nat}{b:Addr}{ds ds':List D}(hb:ow i=some b)(hi:st[i]?=some (.own ds)){h':Heap}{tk:Nat}(hsb:Heap.SameBut b s.heap h'){o o':Obj}{w vs:Array Value}{k n:Nat}
  (ho:s.heap.get? b=some o)(hoc:o.cls=.type "list")(hod:o.data=.seq w k)
  (h1:h'.get? b=some o')(h2:o'.cls=.type "list")(h3:o'.data=.seq vs n)(h4:o'.dict=none)(hv:zaN S s.heap (Pv a noX ow) vs.toList ds'):Rel S sh a noX ow (st.set i (.own ds')) {s with heap:=h',toks:=tk}:=
 R.own_put f hb hi ho (λ_ e=>nomatch hod.symm.trans e) (λ_ e=>nomatch hod.symm.trans e) (λ_ _ e _=>by rw[hoc]at e;simp at e) hsb λv q G=>by
  obtain⟨b',_,_,_,q1,q2,_⟩:=q;rw[hb]at q1;obtain rfl:=yj q1;exact⟨b,o',vs,n,hb,q2,h1,h2,h3,hv.goes G,h4⟩
@[reducible]noncomputable def zmA(i:Nat)(c:PE):PS:=λQ X st=>atO st i λ_=>c (λr st₁=>atO (r.seal st₁) i λds=>ds.length≤1000000∧Q .next ((r.seal st₁).set i (.own (ds++[r.d])))) X st
theorem znK{i:Nat}{x:Str}{p apos pos cpos:Pos}{e:Expr}{c:PE}(hi:sh.names[i]?=some x)(H:zau S sh e c)(hline:(apos.endLine==cpos.line)=true)(htrees:∀env,backTo cpos (starEach [e] env)=[(false,eval e env)]:=by intro;rfl)
  (hd:(x==("__debug__":Str))=false:=by decide):zbk S sh (.Expr (.Call (.Attribute (.Name x p) "append" apos) [e] [] cpos) pos) (zmA i c):=λa ow st s Q X g R q=>by
 have f:=g.f;left;refine zaO (zs5 q) λds0 h0 q=>?_;have R0:=zdr R;refine zcM R.slots λm hn hl hs=>?_;have hm:x∈sh.names:=yy hi;have hk:a.env.kindOf x=some .local:=by unfold Env.kindOf;exact f.scope▸(f.loc x hm)
 have hkk:a.env.scope.kind=.function:=f.scope▸f.kind;obtain⟨b,o,vs,n,h1,h2,h3,h4,h5,h6,h7⟩:=hs i x _ (zak.all_of hi) h0;clear h6;rw[f.ovn hm]at h2;refine wpAny_Expr ?_ (by unfold interactive;rw[hkk];rfl) (by rfl);refine wpAny_Call_append (by rfl) (by rw[htrees];rfl) hline (htrees _) ?_;refine wpAny_Name (wpAny_loadName_local hkk hk (f.locals▸hn) h2 ?_) hd;refine zlH b vs rfl (zkD o n h3 h4 h7 h5) ?_;refine yt (H a ow st s _ X f R q) (λv s₁ h=>?_) λ_ _ x=>zdG f R x;left;obtain⟨r,st₁,g,K,hr⟩:=h;refine zcM (zs5 g) λds g1 g2 g3=>?_;refine zb0 (zgN f R K hr) λK' hv=>?_;have R1:=R.step f K';refine zcM R1.slots λm₁ hn1 hl1 hs1=>?_;obtain⟨b1,o1,vs1,n₁,k1,k2,k3,k4,k5,k6,k7⟩:=hs1 i x _ (zak.all_of hi) g1;have hbb:b1=b:=by
  have:=zca k1;rw[h1]at this;exact(yj this).symm
 clear k2;obtain rfl:=hbb.symm;have hlen:vs1.size≤sizeLine:=by
  have:=k6.length;simp at this;exact yk (this▸g2) (by decide)
 refine zcM (K'.keep.weak h3 (zaY h4)) λo2 z1 z2 z3=>?_;have hvs:vs1=vs:=by
  clear k7 k4;rw[z1]at k3;obtain rfl:=yj k3;rw[z3,h5]at k5;injection k5 with k5;exact k5.symm
 clear h5;subst hvs;refine list_append_plainL (its:=vs1) (zkD o1 n₁ k3 k4 k7 k5) (λh' hp hsb=>?_) hlen;refine zBd hp λo3 n3 y1 y2 y3 y4=>?_;refine⟨.next,_,_,g3,R1.own_set f k1 g1 (tk:=s₁.toks) hsb k3 k4 k5 y1 y2 y4 y3 ?_,trivial⟩;rw[Array.toList_push];exact zaN.append (.cons hv .nil) k6
end
section
variable{S:St0}{sh:zak}{a:Act}{ow:Nat->Option Addr}{st:Sl}{s:Shared}
theorem zes.int{h:Heap}{P:Addr->Prop}{v:Value}{i:Int}(x:zes S h P v (.int i)):∃t,v=.int i t:=by
 left;rcases x with x|⟨_,_,_,_,_,_,q,_⟩
 ·exact x.inv
 ·exact nomatch q
theorem zes.str{h:Heap}{P:Addr->Prop}{v:Value}{l:List Nat}(x:zes S h P v (.str l)):∃t,v=.str (mk l) t:=by
 left;rcases x with x|⟨_,_,_,_,_,_,q,_⟩
 ·exact x.inv
 ·exact nomatch q
theorem zes.bool{h:Heap}{P:Addr->Prop}{v:Value}{b:Bool}(x:zes S h P v (.bool b)):v=.bool b:=by
 left;rcases x with x|⟨_,_,_,_,_,_,q,_⟩
 ·exact x.inv
 ·exact nomatch q
theorem zes.none{h:Heap}{P:Addr->Prop}{v:Value}(x:zes S h P v .none):v=.none:=by
 left;rcases x with x|⟨_,_,_,_,_,_,q,_⟩
 ·exact x.inv
 ·exact nomatch q
theorem zes.tup{h:Heap}{P:Addr->Prop}{v:Value}{ds:List D}(x:zes S h P v (.tup ds)):∃b o vs n,zpl S h P "tuple" v ds b o vs n:=by
 left;rcases x with x|⟨_,_,_,_,_,_,q,_⟩
 ·exact x.inv
 ·exact nomatch q
theorem zes.lst{h:Heap}{P:Addr->Prop}{v:Value}{ds:List D}(x:zes S h P v (.lst ds)):∃b o vs n,zpl S h P "list" v ds b o vs n:=by
 left;rcases x with x|⟨b,o,vs,n,ds',e1,e,h1,h2,h3,h4⟩
 ·exact x.inv
 ·cases e;exact⟨b,o,vs,n,e1,h1,h2,h3,h4⟩
theorem okP{d:D}{v:Value}{Q:Res->Prop}{tk:Nat}(R:Rel S sh a noX ow st s)(x:zcN S s.heap (Pv a noX ow) v d)(q:Q (.pl d))(hd:d.isExc=false:=by rfl):OkP S a ow st s Q v {s with toks:=tk}:=
 ⟨_,q,⟨.refl _,.refl _ _,rfl,rfl⟩,x,λz=>by exact zaF (hd.symm.trans z)⟩
theorem zbI{i:Int}{t tk:Nat}{Q:Res->Prop}(R:Rel S sh a noX ow st s)(q:Q (.pl (.int i))):OkP S a ow st s Q (.int i t) {s with toks:=tk}:=okP R (.int i t) q
theorem zcs{b:Bool}{tk:Nat}{Q:Res->Prop}(R:Rel S sh a noX ow st s)(q:Q (.pl (.bool b))):OkP S a ow st s Q (.bool b) {s with toks:=tk}:=okP R (.bool b) q
theorem zcU{x:Str}{t tk:Nat}{l:List Nat}{Q:Res->Prop}(R:Rel S sh a noX ow st s)(e:x=mk l)(q:Q (.pl (.str l))):OkP S a ow st s Q (.str x t) {s with toks:=tk}:=by subst e;exact okP R (.str l t) q
noncomputable def LIM:Nat:=1000000
theorem zaI(l:List Nat):(mk l).length=l.length:=by simp[mk,Str.length]
noncomputable def zzL(d1 d2:D)(Q:Res->Prop)(_:Err->Prop):Prop:=match d1 with
 |.int x=>oM d2.int? λy=>Q (.pl (.int (x+y)))
 |.str x=>oM d2.str? λy=>x.length+y.length≤LIM∧Q (.pl (.str (x++y)))
 |_=>False
theorem zpE{d1 d2:D}{Q:Res->Prop}{X:Err->Prop}(h:zzL d1 d2 Q X):(∃x y,d1=.int x∧d2=.int y∧Q (.pl (.int (x+y))))∨∃x y,d1=.str x∧d2=.str y∧x.length+y.length≤LIM∧Q (.pl (.str (x++y))):=by
 left;cases d1 with
 |int x=>let ⟨y,e,h⟩:=oM_inv h;exact .inl (zlH x y rfl (D.int?_inv e) h)
 |str x=>let ⟨y,e,h⟩:=oM_inv h;exact .inr (zlH x y rfl (D.str?_inv e) h)
 |_=>exact h.elim
theorem zlS{x y:List Nat}:mk x++mk y=mk (x++y):=by
 show Str.mk _=_;simp[mk]
set_option tactic.hygienic true in
theorem zpu{x y:List Nat}{t u:Tok}{Q:Res->Prop}(R:Rel S sh a noX ow st s)(hl:x.length+y.length≤LIM)(q:Q (.pl (.str (x++y)))) :
  (if(mk x).length==0 then Made.val (.str (mk y) u)else if(mk y).length==0 then Made.val (.str (mk x) t)else Made.str (mk x++mk y)).post (OkP S a ow st s Q) s:=by
 split
 ·rename_i h
  rw[zaI]at h;have:x=[]:=yM (by simpa using h);obtain rfl:=this.symm;exact zcU (tk:=s.toks) R rfl q
 ·split
  ·rename_i h
   rw[zaI]at h;have:y=[]:=yM (by simpa using h);subst this;rw[List.append_nil]at q;exact zcU (tk:=s.toks) R rfl q
  ·refine⟨?_,zcU R zlS q⟩
   simp only[zlS,zaI,List.length_append];exact yk hl (by decide)
theorem zvq:zc8 S sh (binaryOp .Add) zzL:=λa ow st s v1a v2a d1 d2 Q X f R h1 h2 q=>by
 left;rcases zpE q with⟨x,y,e1,e2,q⟩|⟨x,y,e1,e2,ql,q⟩<;>rw[e1]at h1<;>rw[e2]at h2
 ·obtain⟨t,rfl⟩:=h1.int
  obtain⟨u,rfl⟩:=h2.int;exact P.add_int (zbI R q)
 ·obtain⟨t,rfl⟩:=h1.str
  obtain⟨u,rfl⟩:=h2.str;exact P.add_str (zpu R ql q)
theorem zs4:zc8 S sh (inplaceOp .Add) zzL:=λa ow st s v1a v2a d1 d2 Q X f R h1 h2 q=>by
 left;rcases zpE q with⟨x,y,e1,e2,q⟩|⟨x,y,e1,e2,ql,q⟩<;>rw[e1]at h1<;>rw[e2]at h2
 ·obtain⟨t,rfl⟩:=h1.int
  obtain⟨u,rfl⟩:=h2.int;exact P.iadd_int (zbI R q)
 ·obtain⟨t,rfl⟩:=h1.str
  obtain⟨u,rfl⟩:=h2.str;exact P.iadd_str (zpu R ql q)
noncomputable def zss(d1 d2:D)(Q:Res->Prop)(_:Err->Prop):Prop:=zyO d1 d2 λx y=>Q (.pl (.int (x-y)))
theorem zfn:zc8 S sh (binaryOp .Sub) zss:=λa ow st s v1a v2a d1 d2 Q X f R h1 h2 q=>by
 left;refine zfB (zed q) λx y e1 e2 q=>?_;rw[e1]at h1;rw[e2]at h2;obtain⟨t,rfl⟩:=h1.int;obtain⟨u,rfl⟩:=h2.int;exact P.sub_int (zbI R q)
noncomputable def zxw(d1 d2:D)(Q:Res->Prop)(_:Err->Prop):Prop:=zyO d1 d2 λx y=>y≠0∧Q (.pl (.int (x.fmod y)))
theorem zi0:zc8 S sh (binaryOp .Mod) zxw:=λa ow st s v1a v2a d1 d2 Q X f R h1 h2 q=>by
 refine zfB (zed q) λx y e1 e2 q=>?_;rw[e1]at h1;rw[e2]at h2;left;obtain⟨t,rfl⟩:=h1.int;obtain⟨u,rfl⟩:=h2.int;exact AutoIntOps.mod_1 (λz=>q.1 (beq_iff_eq.mp z)) (zbI R q.2)
noncomputable def zqp(d1 d2:D)(Q:Res->Prop)(_:Err->Prop):Prop:=zyO d1 d2 λx y=>y≠0∧Builtin.divisionGoesByPylong x y=false∧Q (.pl (.int (x.fdiv y)))
theorem zmJ:zc8 S sh (binaryOp .FloorDiv) zqp:=λa ow st s v1a v2a d1 d2 Q X f R h1 h2 q=>by
 refine zfB (zed q) λx y e1 e2 q=>?_;rw[e1]at h1;rw[e2]at h2;left;obtain⟨t,rfl⟩:=h1.int;obtain⟨u,rfl⟩:=h2.int;exact AutoIntOps.floordiv_1 (λz=>q.1 (beq_iff_eq.mp z)) (by rw[q.2.1];decide) (zbI R q.2.2)
noncomputable def zqA(g:Int->Int->Bool)(d1 d2:D)(Q:Res->Prop)(_:Err->Prop):Prop:=zyO d1 d2 λx y=>Q (.pl (.bool (g x y)))
theorem zog:zc8 S sh (compareOp .Lt) (zqA λx y=>decide (x<y)):=λa ow st s v1a v2a d1 d2 Q X f R h1 h2 q=>by
 refine zfB (zed q) λx y e1 e2 q=>?_;rw[e1]at h1;rw[e2]at h2;left;obtain⟨t,rfl⟩:=h1.int;obtain⟨u,rfl⟩:=h2.int;exact P.lt_int (zcs (tk:=s.toks) R q)
theorem zlQ:zc8 S sh (compareOp .LtE) (zqA λx y=>decide (x≤y)):=λa ow st s v1a v2a d1 d2 Q X f R h1 h2 q=>by
 refine zfB (zed q) λx y e1 e2 q=>?_;rw[e1]at h1;rw[e2]at h2;left;obtain⟨t,rfl⟩:=h1.int;obtain⟨u,rfl⟩:=h2.int;exact P.le_int (zcs (tk:=s.toks) R q)
theorem zod:zc8 S sh (compareOp .GtE) (zqA λx y=>decide (x ≥ y)):=λa ow st s v1a v2a d1 d2 Q X f R h1 h2 q=>by
 refine zfB (zed q) λx y e1 e2 q=>?_;rw[e1]at h1;rw[e2]at h2;left;obtain⟨t,rfl⟩:=h1.int;obtain⟨u,rfl⟩:=h2.int;exact P.ge_int (zcs (tk:=s.toks) R q)
set_option tactic.hygienic true in
theorem zaw:zjx S sh:=λa ow st s v d b f R hv hd Q E k=>by
 have K:∀tk,Step a st st s {s with toks:=tk}:=λtk=>⟨.refl _,.refl _ _,rfl,rfl⟩;have two:∀l:Nat,l≤1000000->(l:Int)<2^63:=λl h=>by omega
 left;cases d
 case none=>obtain rfl:=hv.none;obtain rfl:false=b:=yj hd;exact truthy_none (k s (.refl ..))
 case bool b'=>obtain rfl:=hv.bool;obtain rfl:b'=b:=yj hd;exact wpAny_truthy_bool (k s (.refl ..))
 case int i=>obtain⟨t,rfl⟩:=hv.int;obtain rfl:(i != 0)=b:=yj hd;exact P.truthy_int (k s (.refl ..))
 case str l=>
  have hd:(if l.length≤1000000 then some (!l.isEmpty)else none)=some b:=hd;obtain⟨t,rfl⟩:=hv.str
  split at hd
  ·rename_i hl
   clear hv;obtain rfl:=yj hd;refine P.truthy_str (by rw[zaI];have:=two _ hl;lia) ?_;have:(((mk l).length:Int) != 0)=!l.isEmpty:=by rw[zaI];induction l with
    |nil=>rfl
    |cons c l=>simp;lia
   exact this▸(k _ (K _))
  ·exact zae hd
 case tup l=>
  have hd:(if l.length≤1000000 then some (!l.isEmpty)else none)=some b:=hd;obtain⟨b',o,vs,n,rfl,h1,h2,h3,h4⟩:=hv.tup
  split at hd
  ·rename_i hl
   cases hd;have hsz:vs.size=l.length:=by rw[←h4.length];simp
   refine truthy_tuple (items:=vs) ⟨o,h1,h2,n,h3⟩ (by rw[hsz];exact two _ hl) ?_;have:vs.isEmpty=l.isEmpty:=by cases l<;>simp_all [Array.isEmpty]
   rw[this];exact k _ (K _)
  ·exact zae hd
 case lst l=>
  have hd:(if l.length≤1000000 then some (!l.isEmpty)else none)=some b:=hd;obtain⟨b',o,vs,n,rfl,h1,h2,h3,h4⟩:=hv.lst
  split at hd
  ·rename_i hl
   cases hd;have hsz:vs.size=l.length:=by rw[←h4.length];simp
   refine wpAny_truthy_list (items:=vs) ⟨o,h1,h2,n,h3⟩ (by rw[hsz];exact two _ hl) ?_;have:vs.isEmpty=l.isEmpty:=by cases l<;>simp_all [Array.isEmpty]
   rw[this];exact k _ (K _)
  ·exact zae hd
 all_goals exact zae (show(none:Option Bool)=some b from hd)
end
mutual
noncomputable def D.py:D->PyData
 |.none=>.none
 |.bool b=>.bool b
 |.int i=>.int i
 |.str l=>.str (mk l)
 |.tup l=>.tuple (D.pys l)
 |.lst l=>.list (D.pys l)
 |_=>.none
noncomputable def D.pys:List D->List PyData
 |[]=>[]
 |d::ds=>d.py::D.pys ds
end
mutual
noncomputable def D.plain:D->Bool
 |.none|.bool _|.int _|.str _=>true
 |.tup l|.lst l=>D.plains l
 |_=>false
noncomputable def D.plains:List D->Bool
 |[]=>true
 |d::ds=>d.plain&&D.plains ds
end
section
variable{S:St0}{sh:zak}
theorem zcN.reads{h:Heap}{P:Addr->Prop}{v:Value}{d:D}(x:zcN S h P v d):d.plain=true->∃as,Reads h v d.py as:=by
 refine zcN.rec (motive_1:=λv d _=>d.plain=true->∃as,Reads h v d.py as) (motive_2:=λvs ds _=>D.plains ds=true->∃as,ReadsAll h vs (D.pys ds) as) ?_ ?_ ?_ ?_ ?_ ?_ ?_ ?_ ?_ ?_ ?_ ?_ ?_ ?_ ?_ ?_ x
 ·exact λ_=>⟨[],.none⟩
 ·exact λb _=>⟨[],.bool b⟩
 ·exact λi t _=>⟨[],.int i t⟩
 ·exact λl t _=>⟨[],.str (mk l) t⟩
 ·exact λh1 h2 h3 _ ih p=>let ⟨as,r⟩:=ih p;⟨as,.tuple h1 h2 h3 r⟩
 ·exact λh1 _ h2 h3 _ ih p=>let ⟨as,r⟩:=ih p;⟨_,.list h1 h2 h3 r⟩
 ·exact λ_ _ _ p=>zaF (show false=true from p)
 ·exact λ_ p=>zaF (show false=true from p)
 ·exact λ_ _ _ p=>zaF (show false=true from p)
 ·exact λ_ _ _ _ _ p=>zaF (show false=true from p)
 ·exact λ_ _ _ _ _ p=>zaF (show false=true from p)
 ·exact λ_ _ _ _ _ _ _ _ p=>zaF (show false=true from p)
 ·exact λ_ _ _ _ _ p=>zaF (show false=true from p)
 ·exact λ_ _ p=>zaF (show false=true from p)
 ·exact λ_=>⟨[],.nil⟩
 ·exact λ_ _ ia ib p=>let ⟨p1,p2⟩:=yw.mp p;let ⟨_,r⟩:=ia p1;let ⟨_,r'⟩:=ib p2;⟨_,.cons r r'⟩
theorem zaN.reads{h:Heap}{P:Addr->Prop}:∀{vs ds},zaN S h P vs ds->D.plains ds=true->∃as,ReadsAll h vs (D.pys ds) as
 |vs,[],x,_=>by cases x;exact⟨[],.nil⟩
 |vs,d::ds,x,p=>by
  cases x with
  |cons a b=>
   left;have p:=yw.mp p;obtain⟨_,r⟩:=a.reads p.1;obtain⟨_,r'⟩:=zaN.reads b p.2;exact⟨_,.cons r r'⟩
theorem zes.reads{h:Heap}{P:Addr->Prop}{v d}(x:zes S h P v d)(p:d.plain=true):∃as,Reads h v d.py as:=by
 left;rcases x with x|⟨b,o,vs,n,ds,rfl,rfl,h1,h2,h3,h4⟩
 ·exact x.reads p
 ·have p:D.plains ds=true:=p
  obtain⟨as,r⟩:=zaN.reads h4 p;exact⟨_,.list h1 h2 h3 r⟩
noncomputable def eqD(d1 d2:D):Bool:=PyData.eqv d1.py d2.py
noncomputable def okD(d:D):Bool:=d.plain&&SeqAt.shaped d.py
noncomputable def eqP:D->D->PV:=λd1 d2 Q _=>okD d1=true∧okD d2=true∧Q (.pl (.bool (eqD d1 d2)))
noncomputable def neP:D->D->PV:=λd1 d2 Q _=>okD d1=true∧okD d2=true∧Q (.pl (.bool (!eqD d1 d2)))
theorem zjh{a:Act}(f:a.Fits S sh):a.A.units+64<cLine:=by
 have:=f.units;have h:(9064:Nat)<cLine:=by decide
 lia
theorem zdp:zc8 S sh (compareOp .Eq) eqP:=λa ow st s v1a v2a d1 d2 Q X f R h1 h2 ⟨q1,q2,q⟩=>by
 left;obtain⟨p1,s1⟩:=yw.mp q1;obtain⟨p2,s2⟩:=yw.mp q2;obtain⟨as,r1⟩:=h1.reads p1;obtain⟨bs,r2⟩:=h2.reads p2;exact SeqAt.compareEq_shaped r1 r2 s1 s2 (zjh f) (zcs (tk:=s.toks) R q)
theorem zhZ:zc8 S sh (compareOp .NotEq) neP:=λa ow st s v1a v2a d1 d2 Q X f R h1 h2 ⟨q1,q2,q⟩=>by
 left;obtain⟨p1,s1⟩:=yw.mp q1;obtain⟨p2,s2⟩:=yw.mp q2;obtain⟨as,r1⟩:=h1.reads p1;obtain⟨bs,r2⟩:=h2.reads p2;exact SeqAt.compareNe_shaped r1 r2 s1 s2 (zjh f) (zcs (tk:=s.toks) R q)
end
section
variable{S:St0}{sh:zak}{a:Act}{ow:Nat->Option Addr}{st:Sl}{s:Shared}
theorem zgq(R:Rel S sh a noX ow st s){c:EC}(hc:c≠.toml){h':Heap}{e:Addr}{tk:Nat}(x:Heap.NewExc s.heap h' e c.name){m:List Nat}{X:Err->Prop}(q:X (c,m)):zup S a st s X (.ref e) {s with heap:=h',toks:=tk}:=by
 refine zfB x.there λob t h1 h2 h3=>?_;have hcls:S.cls c=.type c.name:=by induction c<;>first|rfl|exact absurd rfl hc
 exact⟨(c,m),q,⟨.refl _,.of_keeps x.keeps,rfl,rfl⟩,e,none,rfl,x.new,(λ_ z=>zae z),⟨ob,_,t,.none,h1,h2.trans hcls.symm,h3,rfl,rfl,.nil,λz=>absurd z hc,rfl⟩⟩
@[irreducible]noncomputable def zg4(l:List Nat)(i:Int):PV:=λQ X=>(decide (i < -(2^63:Int))||decide (i ≥ 2^63))=false∧match (seqIndex? i l.length).bind (l[·]?)with
 |some c=>Q (.pl (.str [c]))
 |none=>∀m,X (.index,m)
theorem item_str(hcalm:sh.calm=true)(f:a.Fits S sh)(R:Rel S sh a noX ow st s){l:List Nat}{t:Tok}{i:Int}{u:Tok}{Q:Res->Prop}{X:Err->Prop}(q:zg4 l i Q X):wpAny (model S.prog S.w) a.A (getItem (.str (mk l) t) (.int i u)) (OkP S a ow st s Q) (zup S a st s X) s:=by
 unfold zg4 at q;left;refine zb0 q λhr q=>?_;have hb:(seqIndex? i (mk l).length).bind ((mk l).cps[·]?)=(seqIndex? i l.length).bind (l[·]?):=by
  rw[zaI];simp[mk]
 cases hx:(seqIndex? i l.length).bind (l[·]?)with
 |some c=>
  rw[hx]at q;exact P.getItem_str hr (hb.trans hx) (zcU R rfl q)
 |none=>
  rw[hx]at q;refine getItem_meets (typeIs_str s (mk l) t) (by decide) F.slot_str_getitem F.entry_str_getitem (F.args_str_getitem_2 _ _) (raises_str_getitem (mk l) i t u hr (hb.trans hx)) ⟨(f.calm hcalm).1,λh' tk e hn=>?_⟩;exact zgq R (c:=.index) (by decide) hn (q [])
noncomputable def zzV(l:List D)(i:Int)(Q:Res->Prop):Prop:=(decide (i < -(2^63:Int))||decide (i ≥ 2^63))=false∧∃d,(seqIndex? i l.length).bind (l[·]?)=some d∧d.isExc=false∧Q (.pl d)
noncomputable def zrE(d1 d2:D)(Q:Res->Prop)(X:Err->Prop):Prop:=oM d2.int? λi=>match d1 with
 |.str l=>zg4 l i Q X
 |.lst l=>zzV l i Q
 |.tup l=>zzV l i Q
 |_=>False
theorem zub{vs:Array Value}{l:List D}{h:Heap}{P:Addr->Prop}(hv:zaN S h P vs.toList l){j:Nat}{d:D}(hj:l[j]?=some d):∃v,vs[j]?=some v∧zcN S h P v d:=by
 obtain⟨v,h1,h2⟩:=hv.get hj;exact⟨v,by rw[←Array.getElem?_toList];exact h1,h2⟩
set_option tactic.hygienic true in
theorem zrq(hcalm:sh.calm=true):zc8 S sh getItem zrE:=λa ow st s v1a v2a d1 d2 Q X f R h1 h2 q=>by
 left;refine zaO (oM_inv q) λi e q=>?_;rw[D.int?_inv e]at h2;obtain⟨u,rfl⟩:=h2.int;clear e;cases d1 with
 |str l=>
  obtain⟨t,rfl⟩:=h1.str;exact item_str hcalm f R q
 |tup l=>
  obtain⟨b,o,vs,n,rfl,g1,g2,g3,g4⟩:=h1.tup;obtain⟨hr,d,hd,he,q⟩:=q;obtain⟨j,hj,hd⟩:=Option.bind_eq_some_iff.mp hd;obtain⟨v,hv,hr'⟩:=zub g4 hd;have hsz:vs.size=l.length:=by rw[←g4.length];simp
  simp only[Bool.or_eq_false_iff,decide_eq_false_iff_not]at hr;exact getItem_tuple (items:=vs) ⟨o,g1,g2,n,g3⟩ (xd.mp hr.1) (Int.lt_of_not_ge hr.2) (hsz▸hj) hv (okP (tk:=s.toks) R hr' q he)
 |lst l=>
  obtain⟨b,o,vs,n,rfl,g1,g2,g3,g4⟩:=h1.lst;obtain⟨hr,d,hd,he,q⟩:=q;obtain⟨j,hj,hd⟩:=Option.bind_eq_some_iff.mp hd;obtain⟨v,hv,hr'⟩:=zub g4 hd;have hsz:vs.size=l.length:=by rw[←g4.length];simp
  simp only[Bool.or_eq_false_iff,decide_eq_false_iff_not]at hr;unfold seqIndex? at hj;by_cases hi:i<0
  ·rw[if_pos hi]at hj
   dsimp only at hj
   split at hj
   ·rename_i hc
    simp only[Bool.and_eq_true,decide_eq_true_eq]at hc;obtain rfl:=yj hj;exact wpAny_getItem_list_neg (items:=vs) ⟨o,g1,g2,n,g3⟩ hi (by rw[hsz];omega) (by omega) (hsz▸hv) (okP (tk:=s.toks) R hr' q he)
   ·exact zae hj
  ·rw[if_neg hi]at hj
   dsimp only at hj
   split at hj
   ·obtain rfl:=yj hj
    exact wpAny_getItem_list (items:=vs) ⟨o,g1,g2,n,g3⟩ (by omega) (by omega) hv (okP (tk:=s.toks) R hr' q he)
   ·exact zae hj
 |_=>exact q.elim
end
section
variable{S:St0}{sh:zak}
theorem letGo{prog:Program}{w:World}{A:Around}{E:Value->Shared->Prop}{s:Shared}{base:Expr}{o r:Value}{Q:Unit->Shared->Prop}(h:Q () s):wpAny (model prog w) A (letTemporaryGo base o r) Q E s:=wpAny_letTemporaryGo h
noncomputable def zph:D->Bool
 |.str _|.lst _|.tup _=>true
 |_=>false
set_option tactic.hygienic true in
theorem zjr{a:Act}{ow:Nat->Option Addr}{st:Sl}{s:Shared}(R:Rel S sh a noX ow st s){v:Value}{d:D}(h:zes S s.heap (Pv a noX ow) v d)(hd:zph d=true){E:Value->Shared->Prop}{A:Around}{Q:Bool->Shared->Prop}(q:Q false s) :
  wpAny (model S.prog S.w) A (getitemInPython v) Q E s:=by
 have fin:∀{T id:String},typeLookup (.type T) "__getitem__"=pure (some (.builtin id))->s.TypeIs v T->wpAny (model S.prog S.w) A (getitemInPython v) Q E s:=λhl hT=>by
  rw[getitemInPython_of_ne hT.not_modules];exact yl (wpAny_specialOf hT hl (yo q))
 left;cases d<;>simp only[zph,Bool.false_eq_true]at hd
 case str l=>obtain⟨t,rfl⟩:=h.str;exact fin F.slot_str_getitem.lookup (typeIs_str s _ t)
 case tup l=>
  obtain⟨b,o,vs,n,rfl,g1,g2,g3,g4⟩:=h.tup;exact fin F.slot_tuple_getitem.lookup ⟨o,g1,g2⟩
 case lst l=>
  obtain⟨b,o,vs,n,rfl,g1,g2,g3,g4⟩:=h.lst;exact fin F.slot_list_getitem.lookup ⟨o,g1,g2⟩
@[reducible]noncomputable def zbD(c₁ c₂:PE):PE:=λQ X st=>c₁ (λr1 st₁=>zzS (zph r1.d) (c₂ (λr2 st₂=>zrE r1.d r2.d (λr'=>Q r' st₂) (λx=>X x st₂)) X st₁)) X st
theorem zbe(hcalm:sh.calm=true){e1 e2:Expr}{pos}{c₁ c₂:PE}(H1a:zau S sh e1 c₁)(H2:zau S sh e2 c₂)(hsub:∀o i,subscripted e2 false o i=operate [o,i] (getItem o i):=by intros;rfl):zau S sh (.Subscript e1 e2 pos) (zbD c₁ c₂):=λa ow st s Q X f R q=>by
 rw[eval_Subscript];refine yl (yt (H1a a ow st s _ X f R q) (λv1a s₁ h=>yl (yH ?_)) λ_ _ x=>x);left;obtain⟨r1,st₁,h1,h2,h3⟩:=h;refine zb0 (zje h1) λhq h1=>?_;have R1:=R.step f h2;refine yt (H2 a _ st₁ s₁ _ X f R1 h1) (λv2a s₂ h=>yl (yX ?_)) λ_ _ x=>zaP h2 x;left;obtain⟨r2,st₂,g1,g2,g3⟩:=h;have K:=h2.trans g2;have c1:=h3.c.step f R1 g2;have c2:=g3.c;rw[zax g2.frz]at c1 c2;have R2:=R.step f K;refine yl (zjr R2 c1 hq ?_);rw[hsub];refine yl (wpAny_operating (yt (zrq hcalm a _ st₂ s₂ _ _ r1.d r2.d _ _ f R2 c1 c2 g1) (λv3 s3a x=>?_) λ_ _ x=>x.toE K));exact yl (letGo (yo (x.toE K)))
end
section
variable{S:St0}{sh:zak}
theorem zen(D0:Std S){x:Str}{id:String}{np pos:Pos}{e:Expr}{c:PE}{p:D->PV}(hx:sh.scope.names.lookup x=some .globalImplicit)(hg:S.mg x=none)(hn:x≠"__name__")(hb:bootBuiltins x=some (.builtin id))(H:zau S sh e c)(P:zlF S sh (λv=>call (.builtin id) [v]) p)
  (hs:∀env,starEach [e] env=[(false,eval e env)]:=by intro;rfl)(hd:(x==("__debug__":Str))=false:=by decide):zau S sh (.Call (.Name x np) [e] [] pos) (pe1 c p):=λa ow st s Q X f R q=>by
 refine Call_name1 (hs _) (zcm f hx (D0.g.keeps (R.stays f)) (D0.b.keeps (R.stays f)) hg ((D0.blt x hn).trans hb) ?_ hd);exact callWith_builtin1 (ev1 H P f R q)
noncomputable def zri:D->PV
 |.str l,Q,_=>l.length≤1000000∧Q (.pl (.int l.length))
 |.lst l,Q,_=>l.length≤1000000∧Q (.pl (.int l.length))
 |.tup l,Q,_=>l.length≤1000000∧Q (.pl (.int l.length))
 |_,_,_=>False
set_option tactic.hygienic true in
theorem zc6:zlF S sh (λv=>call (.builtin "len") [v]) zri:=λa ow st s v d Q X f R h q=>by
 left;cases d<;>try exact q.elim
 case str l=>
  refine zfc h.str λt hzz=>?_;subst hzz;refine zb0 q λhl q=>?_;refine P.len_str (by rw[zaI];omega) ?_;rw[zaI];exact zbI R q
 case lst l=>
  obtain⟨b,o,vs,n,rfl,g1,g2,g3,g4⟩:=h.lst;refine zb0 q λhl q=>?_;have hsz:vs.size=l.length:=by rw[←g4.length];simp
  refine Calls.call_len_list (items:=vs) ⟨o,g1,g2,n,g3⟩ (by rw[hsz];omega) ?_;rw[hsz];exact zbI R q
 case tup l=>
  obtain⟨b,o,vs,n,rfl,g1,g2,g3,g4⟩:=h.tup;refine zb0 q λhl q=>?_;have hsz:vs.size=l.length:=by rw[←g4.length];simp
  refine PyProof.Rows.len_tuple (items:=vs) ⟨o,g1,g2,n,g3⟩ (by rw[hsz];omega) ?_;rw[hsz];exact zbI R q
end
section
open PySem.Builtin PySem.Builtin.Str
noncomputable def za3(v:Option Int)(dflt n:Nat):Nat:=match v with
 |none=>dflt
 |some i=>(max 0 (min (if i<0 then i+n else i) (n:Int))).toNat
noncomputable def zbA{α:Type}(l:List α)(lo hi:Option Int):List α:=(l.drop (za3 lo 0 l.length)).take (za3 hi l.length l.length-za3 lo 0 l.length)
theorem ze0(v:Option Int)(d n:Nat)(h:d≤n):za3 v d n≤n:=by
 induction v with
 |none=>exact h
 |some i=>exact Int.toNat_le.mpr (Int.max_le.mpr ⟨yB n,Int.min_le_right ..⟩)
theorem zdO(a b:Nat):((max 0 (min ((a:Nat):Int) ((b:Nat):Int)):Int)).toNat=min a b:=by
 rcases Nat.le_total a b with h|h
 ·rw[Int.min_eq_left (Int.ofNat_le.mpr h),Nat.min_eq_left h,Int.max_eq_right (Int.natCast_nonneg _),Int.toNat_natCast]
 ·rw[Int.min_eq_right (Int.ofNat_le.mpr h),Nat.min_eq_right h,Int.max_eq_right (Int.natCast_nonneg _),Int.toNat_natCast]
theorem zie{a n:Nat}(d:Nat)(h:a≤n):za3 (some (a:Int)) d n=a:=by
 unfold za3;dsimp only;rw[if_neg (Int.not_lt.mpr (Int.natCast_nonneg a)),zdO,Nat.min_eq_left h]
theorem zmm(v:Option Int)(d n:Nat):((match v with|none=>((d:Nat):Int)|some i=>(max 0 (min (if i<0 then i+(n:Int)else i) (n:Int)):Int)):Int)=((za3 v d n:Nat):Int):=by
 induction v with
 |none=>rfl
 |some i=>exact(Int.toNat_of_nonneg (Int.le_max_left ..)).symm
theorem zt9(lo hi:Option Int)(n:Nat):strSliceIndices lo hi 1 n=sliceRange (za3 lo 0 n:Nat) (za3 hi n n:Nat) 1:=by
 rw[←zmm lo 0 n,←zmm hi n n];unfold strSliceIndices;dsimp only;simp only[show((1:Int) > 0)=True from eq_true (by decide),if_true]
 induction lo<;>induction hi<;>rfl
theorem ztD(lo hi:Option Int)(n:Nat):strSliceIndices lo hi 1 n=strSliceIndices (some (za3 lo 0 n:Int)) (some (za3 hi n n:Int)) 1 n:=by
 rw[zt9,zt9,zie 0 (ze0 lo 0 n (Nat.zero_le _)),zie n (ze0 hi n n (Nat.le_refl _))]
theorem zr4(a b:Nat):(sliceRange (a:Nat) (b:Nat) 1).length=b-a:=by
 unfold sliceRange;dsimp only;rw[if_pos (show(1:Int) > 0 by decide),List.length_map,List.length_range];by_cases h:a<b
 ·rw[if_pos (Int.ofNat_lt.mpr h),Int.add_sub_cancel,Int.ediv_one,←Int.ofNat_sub (Nat.le_of_lt h),Int.toNat_natCast]
 ·rw[if_neg λz=>h (Int.ofNat_lt.mp z),Nat.sub_eq_zero_of_le (Nat.le_of_not_lt h)];rfl
theorem znd(lo hi:Option Int)(n:Nat):(strSliceIndices lo hi 1 n).length=za3 hi n n-za3 lo 0 n:=by rw[zt9,zr4]
theorem ztJ(l:List Nat)(lo hi:Option Int):(strSliceIndices lo hi 1 (mk l).length).filterMap ((mk l).cps[·]?)=zbA l lo hi:=by
 rw[zaI];have h2:=ze0 hi l.length l.length (yr _);by_cases h:za3 lo 0 l.length≤za3 hi l.length l.length
 ·have:=StrLaws.sliced_plain (mk l) h (by rw[zaI];exact h2)
  rw[zaI]at this;rw[ztD,this];simp[mk,zbA]
 ·have z:za3 hi l.length l.length-za3 lo 0 l.length=0:=Nat.sub_eq_zero_of_le (yc (xh h))
  have e:strSliceIndices lo hi 1 l.length=[]:=yM (by rw[znd,z]);rw[e];unfold zbA;rw[z,List.take_zero];rfl
theorem zrz{l:List Nat}{a b:Nat}(h1:a≤l.length)(h2:b≤l.length)(h:b-a=l.length):(l.drop a).take (b-a)=l:=by
 rw[h]
 induction l with
 |nil=>exact ya _ List.drop_nil
 |cons x l=>
  have:a=0:=Nat.eq_zero_of_not_pos λha=>absurd (yA (Nat.sub_lt (yA (h▸yd _) (Nat.sub_le b a)) ha) h2) (h▸(Nat.lt_irrefl _));rw[this,List.drop_zero,List.take_length]
section
variable{S:St0}{sh:zak}{a:Act}{ow:Nat->Option Addr}{st:Sl}{s:Shared}
set_option tactic.hygienic true in
theorem zqf(R:Rel S sh a noX ow st s){l:List Nat}{t:Tok}{lo hi:Option (Int×Tok)}{Q:Res->Prop}(hl:l.length≤LIM)(q:Q (.pl (.str (zbA l (lo.map (·.1)) (hi.map (·.1)))))):(sliceMade (mk l) t lo hi none).post (OkP S a ow st s Q) s:=by
 have key:=ztJ l (lo.map (·.1)) (hi.map (·.1));unfold sliceMade slicePicked
 split
 ·rename_i h
  have hlen:(strSliceIndices (lo.map (·.1)) (hi.map (·.1)) 1 (mk l).length).length=(mk l).length:=by
   simp only[Bool.and_eq_true,beq_iff_eq]at h;exact h.2
  rw[znd,zaI]at hlen;have e:zbA l (lo.map (·.1)) (hi.map (·.1))=l:=zrz (ze0 _ 0 l.length (yb _)) (ze0 _ l.length l.length (yr _)) hlen;rw[e]at q;exact zcU (tk:=s.toks) R rfl q
 ·have hx:(⟨((strSliceIndices (lo.map (·.1)) (hi.map (·.1)) 1 (mk l).length).filterMap ((mk l).cps[·]?)).toArray⟩:Str)=mk (zbA l (lo.map (·.1)) (hi.map (·.1))):=by rw[key];rfl
  refine⟨?_,zcU R hx q⟩;have:(zbA l (lo.map (·.1)) (hi.map (·.1))).length≤l.length:=by unfold zbA;rw[List.length_take,List.length_drop];exact yk (Nat.min_le_right ..) (Nat.sub_le ..)
  show Str.length _≤sizeLine
  erw [hx]
  rw[zaI];exact yk (yk this hl) (by decide)
end
end
section
variable{S:St0}{sh:zak}
noncomputable abbrev PO:=(Option Int->Sl->Prop)->(Err->Sl->Prop)->Sl->Prop
noncomputable def zsT(v:Value):Option Int->Prop
 |none=>v=.none
 |some i=>∃t,v=.int i t
noncomputable def zlN(S:St0)(sh:zak)(o:Option Expr)(c:PO):Prop:=
 ∀(a:Act)(ow:Nat->Option Addr)(st:Sl)(s:Shared)(Q:Option Int->Sl->Prop)(X:Err->Sl->Prop),a.Fits S sh->Rel S sh a noX ow st s->c Q X st ->
  wpAny (model S.prog S.w) a.A (valueOrNone (evalOpt o a.env)) (λv s'=>∃i st',Q i st'∧Step a st st' s s'∧zsT v i) (zfA S a st s X) s
theorem ztw:zlN S sh none λQ _ st=>Q none st:=λa ow st s Q X f R q=>yo ⟨none,st,q,.refl ..,rfl⟩
@[reducible]noncomputable def zf0(c:PE):PO:=λQ X st=>c (λr st₁=>r.oM D.int? λi=>Q (some i) st₁) X st
theorem zaE{e:Expr}{c:PE}(H:zau S sh e c):zlN S sh (some e) (zf0 c):=λa ow st s Q X f R q=>by
 refine yt (H a ow st s _ X f R q) (λv s₁ h=>?_) λ_ _ x=>x;left;obtain⟨r,st₁,h1,h2,h3⟩:=h;refine zaO (Res.int_inv h1) λi hzz h1=>?_;subst hzz;obtain⟨h3,_⟩:=h3;refine zfc h3.inv λt hzz=>?_;subst hzz;exact⟨some i,st₁,h1,h2,t,rfl⟩
@[irreducible]noncomputable def zhM(l:List Nat)(lo hi:Option Int)(Q:Res->Prop):Prop:=l.length≤LIM∧Q (.pl (.str (zbA l lo hi)))
@[reducible]noncomputable def zwx(d:D)(lo hi:Option Int)(Q:Res->Prop):Prop:=oM d.str? λl=>zhM l lo hi Q
@[reducible]noncomputable def zfy(T:D->Option Int->Option Int->(Res->Prop)->Prop)(c:PE)(cl cu:PO):PE:=λQ X st=>c (λr st₁=>cl (λlo st₂=>cu (λhi st3=>T r.d lo hi λr'=>Q r' st3) X st₂) X st₁) X st
@[reducible]noncomputable def zb4(c:PE)(cl cu:PO):PE:=zfy zwx c cl cu
noncomputable def zoO(S:St0)(sh:zak)(T:D->Option Int->Option Int->(Res->Prop)->Prop):Prop:=
 ∀(a:Act)(ow:Nat->Option Addr)(st:Sl)(s:Shared)(v:Value)(d:D)(pl pu:Option (Int×Tok))(sl:Addr)(Q:Res->Prop)(E:Value->Shared->Prop),a.Fits S sh->Rel S sh a noX ow st s->zes S s.heap (Pv a noX ow) v d->s.heap.IsSliceOf sl (partValue pl) (partValue pu) .none->T d (pl.map (·.1)) (pu.map (·.1)) Q ->
  zph d=true∧wpAny (model S.prog S.w) a.A (getItem v (.ref sl)) (OkP S a ow st s Q) E s
theorem ztu{v:Value}{o:Option Int}(h:zsT v o):∃p:Option (Int×Tok),v=partValue p∧p.map (·.1)=o:=by
 induction o with
 |none=>exact⟨none,h,rfl⟩
 |some i=>obtain⟨t,rfl⟩:=h;exact⟨some (i,t),rfl,rfl⟩
theorem zqo(l u:Option Expr)(p:Pos)(env:Env):eval (.Slice l u none p) env=(do
  let l ←valueOrNone (evalOpt l env)
  let u ←holding [l] (valueOrNone (evalOpt u env))
  let s ←holding [l,u] (valueOrNone none)
  newFields "slice" [l,u,s]):=rfl
theorem znQ{T:D->Option Int->Option Int->(Res->Prop)->Prop}(hT:zoO S sh T){e:Expr}{lo hi:Option Expr}{p pos}{c:PE}{cl cu:PO}(H:zau S sh e c)(Hl:zlN S sh lo cl)(Hu:zlN S sh hi cu):zau S sh (.Subscript e (.Slice lo hi none p) pos) (zfy T c cl cu):=λa ow st s Q X f R q=>by
 rw[eval_Subscript];refine yl (yt (H a ow st s _ X f R q) (λv1a s₁ h=>yl (yH ?_)) λ_ _ x=>x);rw[zqo];left;obtain⟨r,st₁,h1,K1,h3⟩:=h;have R1:=R.step f K1;refine yl (yt (Hl a _ st₁ s₁ _ X f R1 h1) (λvl s₂ h=>yl (yH ?_)) λ_ _ x=>zaP K1 x);refine zfB h λil st₂ h2 K2 hl=>?_;have R2:=R1.step f K2;refine yt (Hu a _ st₂ s₂ _ X f R2 h2) (λvu s3a h=>yl (yH (yo ?_))) λ_ _ x=>zaP (K1.trans K2) x;unfold newFields;clear h2;left;obtain⟨iu,st3,hq,K3,hu⟩:=h;have R3:=R2.step f K3;obtain⟨pl,rfl,rfl⟩:=ztu hl;obtain⟨pu,rfl,rfl⟩:=ztu hu;have K:=(K1.trans K2).trans K3;refine wpAny_newObj_type ?_ (by first|size_fits|(unfold sizeOk;simp)|(unfold sizeOk;decide));refine yl (yX ?_);have c1:=(h3.c.step f R1 K2).step f R2 K3;rw[zax K2.frz,zax K3.frz]at c1;rw[zax K2.frz,zax K3.frz]at R3;have Kp:Step a st3 st3 s3a {s3a with heap:=s3a.heap.push {cls:=.type "slice",data:=.fields [partValue pl,partValue pu,.none].toArray}}:=zjP (.refl ..) _ _;have R4:=R3.step f Kp;have c2:=c1.step f R3 Kp;have KK:=K.trans Kp;obtain⟨hs,W⟩:=hT a _ st3 _ v1a r.d pl pu s3a.heap.objs.size (λr=>Q r st3) (zfA S a st s X) f R4 c2 (zga _ (yI _ rfl) rfl rfl) hq;refine yl (zjr R4 c2 hs ?_);show wpAny _ _ (do let r ←operate [_,_] (getItem _ _);letTemporaryGo e _ r;pure r) _ _ _;rw[zax (Frz.refl st3)]at W;exact yl (wpAny_operating (yt W (λv s' x=>yl (letGo (yo (x.toE KK)))) λ_ _ x=>x))
theorem zsh:zoO S sh zwx:=λa ow st s v d pl pu sl Q E f R h hs q=>by
 refine zaO (oM_inv q) λl hd hq=>?_;rw[D.str?_inv hd]at h⊢;refine⟨rfl,?_⟩;unfold zhM at hq;refine zb0 hq λhlen hq=>?_;obtain⟨t,rfl⟩:=h.str;exact wpAny_getItem_str_slice (l:=pl) (u:=pu) (st:=none) hs rfl (zqf R hlen hq)
theorem zbU{e:Expr}{lo hi:Option Expr}{p pos}{c:PE}{cl cu:PO}(H:zau S sh e c)(Hl:zlN S sh lo cl)(Hu:zlN S sh hi cu):zau S sh (.Subscript e (.Slice lo hi none p) pos) (zb4 c cl cu):=znQ zsh H Hl Hu
end
section
variable{S:St0}{sh:zak}
noncomputable def znb(S:St0)(h:Heap)(P:Addr->Prop):List Value->List D->Prop
 |[],[]=>True
 |v::vs,d::ds=>zes S h P v d∧znb S h P vs ds
 |_,_=>False
theorem zdh.cs{a:Act}{ow:Nat->Option Addr}{st:Sl}{hs h:Heap}:∀{vs rs},zdh S a ow st hs h vs rs->znb S h (Pv a noX ow) vs (rs.map Res.d)
 |[],[],_=>trivial
 |[],_::_,x=>x.elim
 |_::_,[],x=>x.elim
 |_::_,_::_,x=>⟨x.1.c,zdh.cs x.2⟩
noncomputable def zmM(S:St0)(sh:zak)(m:String)(p:List Nat->List D->PV):Prop:=
 ∀(a:Act)(ow:Nat->Option Addr)(st:Sl)(s:Shared)(l:List Nat)(t:Tok)(vs:List Value)(ds:List D)(Q:Res->Prop)(X:Err->Prop),a.Fits S sh->Rel S sh a noX ow st s->znb S s.heap (Pv a noX ow) vs ds->p l ds Q X ->
  wpAny (model S.prog S.w) a.A (call (.builtin m) (.str (mk l) t::vs)) (OkP S a ow st s Q) (zup S a st s X) s
@[reducible]noncomputable def zcI(c:PE)(cs:PEs)(p:List Nat->List D->PV):PE:=λQ X st=>c (λr st₁=>r.oM D.str? λl=>cs (λrs st₂=>p l (rs.map Res.d) (λr'=>Q r' st₂) (λx=>X x st₂)) X st₁) X st
theorem zxB{o:Expr}{name:Str}{m:String}{apos pos:Pos}{e:Expr}{es:List Expr}{cs:PEs}{p:List Nat->List D->PV}(Hs:zbT S sh (e::es) cs)(P:zmM S sh m p)
  (hm:∀{M:Model}{A:Around}{E:Value->Shared->Prop}{s:Shared}{x:Str}{t:Tok}{pl:Sem Bool}{Q:Value×List Value->Shared->Prop},Q (.builtin m,[.str x t]) s->wpAny M A (getMethod (.str x t) name pl) Q E s)
  (hline:(apos.endLine==pos.line)=true)(hbase:∀env,attributeBase o name env (eval o env)=eval o env:=by intro;rfl)
  (hform:∀env,methodCallForm ((e::es).length+([]:List Keyword).length) (backTo pos (starEach (e::es) env)) (backToKw pos (keywordEach [] env))=true:=by intro;rfl)
  (hplain:∀env,(backTo pos (starEach (e::es) env)).any (·.1)=false:=by intro;rfl)
  (he:∀env,starEach (e::es) env=(false,eval e env)::starEach es env:=by intro;rfl)  {a:Act}{ow:Nat->Option Addr}{st:Sl}{s:Shared}{Q:Res->Sl->Prop}{X:Err->Sl->Prop}(f:a.Fits S sh)(R:Rel S sh a noX ow st s)
  (H:wpAny (model S.prog S.w) a.A (eval o a.env) (OkE S a ow st s λr st₁=>r.oM D.str? λl=>cs (λrs st₂=>p l (rs.map Res.d) (λr'=>Q r' st₂) (λx=>X x st₂)) X st₁) (zfA S a st s X) s) :
  wpAny (model S.prog S.w) a.A (eval (.Call (.Attribute o name apos) (e::es) [] pos) a.env) (OkE S a ow st s Q) (zfA S a st s X) s:=by
 rw[arm_eval_Call,hbase];refine yl (yt H (λov s₁ h=>yl (yX ?_)) λ_ _ x=>x);obtain⟨r,st₁,q,K,hr⟩:=h;refine zaO (Res.str_inv q) λl hzz q=>?_;subst hzz;obtain⟨hr,_⟩:=hr;have R1:=R.step f K;refine zfc hr.inv λt hzz=>?_;subst hzz;unfold methodCall;rw[hform];refine yl (yH (hm ?_));have hpos:methodCallPos true o a.env apos pos=Pure.pure pos:=by unfold methodCallPos;simp[hline]
 refine yl (wpAny_of_eq hpos ?_);show wpAny _ _ (callWith pos (.builtin m) [.str (mk l) t] (backTo pos (starEach (e::es) a.env)) []) _ _ _;refine Calls.callWith_builtin (hplain _) ?_;have hb:backTo pos (starEach (e::es) a.env)=(false,eval e a.env)::backTo pos (starEach es a.env):=by rw[he];rfl
 have hgo:=Hs pos a _ st₁ s₁ _ X f R1 q;rw[hb]at hgo⊢;refine Calls.evalArgs_plain (yt hgo (λvs s₂ h=>?_) λ_ _ x=>zaP K x);refine zfB h λrs st₂ g1 g2 g3=>?_;have c2:=g3.cs;rw[zax g2.frz]at c2;have KK:=K.trans g2;exact yt (P a _ st₂ s₂ l t vs _ _ _ f (R.step f KK) c2 g1) (λ_ _ x=>x.toE KK) λ_ _ x=>x.toE KK
theorem zcA{o:Expr}{name:Str}{m:String}{apos pos:Pos}{e:Expr}{es:List Expr}{c:PE}{cs:PEs}{p:List Nat->List D->PV}(H:zau S sh o c)(Hs:zbT S sh (e::es) cs)(P:zmM S sh m p)
  (hm:∀{M:Model}{A:Around}{E:Value->Shared->Prop}{s:Shared}{x:Str}{t:Tok}{pl:Sem Bool}{Q:Value×List Value->Shared->Prop},Q (.builtin m,[.str x t]) s->wpAny M A (getMethod (.str x t) name pl) Q E s)
  (hline:(apos.endLine==pos.line)=true)(hbase:∀env,attributeBase o name env (eval o env)=eval o env:=by intro;rfl)
  (hform:∀env,methodCallForm ((e::es).length+([]:List Keyword).length) (backTo pos (starEach (e::es) env)) (backToKw pos (keywordEach [] env))=true:=by intro;rfl)
  (hplain:∀env,(backTo pos (starEach (e::es) env)).any (·.1)=false:=by intro;rfl)
  (he:∀env,starEach (e::es) env=(false,eval e env)::starEach es env:=by intro;rfl):zau S sh (.Call (.Attribute o name apos) (e::es) [] pos) (zcI c cs p):=λa ow st s Q X f R q=>
 zxB Hs P hm hline hbase hform hplain he f R (H a ow st s _ X f R q)
end
section
variable{S:St0}{sh:zak}
noncomputable def zdW(l:List Nat)(ds:List D)(Q:Res->Prop)(_:Err->Prop):Prop:=zuA cS cI ds (λp=>Q (.pl (.bool (Txt.startswith (mk l) (mk p))))) λp i=>Q (.pl (.bool (Txt.startswith3 (mk l) (mk p) i)))
theorem zd2{h:Heap}{P:Addr->Prop}{vs:List Value}{d:D}(x:znb S h P vs [d]):∃v,vs=[v]∧zes S h P v d:=by
 cases vs with
 |nil=>exact x.elim
 |cons v vs=>induction vs with
  |nil=>exact zbB v rfl x.1
  |cons _ _=>exact x.2.elim
theorem znR{h:Heap}{P:Addr->Prop}{vs:List Value}{d e:D}(x:znb S h P vs [d,e]):∃v w,vs=[v,w]∧zes S h P v d∧zes S h P w e:=by
 cases vs with
 |nil=>exact x.elim
 |cons v vs=>
  refine zaO (zd2 x.2) λw hzz y=>?_;subst hzz;exact zlH v w rfl x.1 y
theorem zdt:zmM S sh "str.startswith" zdW:=λa ow st s l t vs ds Q X f R h q=>by
 left;rcases zkg q with⟨p,e,q⟩|⟨p,i,e,q⟩<;>rw[e]at h
 ·refine zaO (zd2 h) λv hzz h1=>?_
  subst hzz;clear h;obtain⟨u,rfl⟩:=h1.str;exact SC.startswith (zcs (tk:=s.toks) R q)
 ·refine zfB (znR h) λv w hzz h1 h2=>?_
  subst hzz;clear h;obtain⟨u,rfl⟩:=h1.str;obtain⟨u',rfl⟩:=h2.int;exact SC.startswith3 (zcs (tk:=s.toks) R q)
end
section
variable{S:St0}{sh:zak}
theorem zut{op}{x:Expr}{pos}{c:PE}{p:D->PV}(H:zau S sh x c)(P:zlF S sh (unaryOp op) p):zau S sh (.UnaryOp op x pos) (pe1 c p):=λ_ _ _ _ _ _ f R q=>UnaryOp_ (ev1 H P f R q)
noncomputable def zxD:D->PV
 |.int i,Q,_=>Q (.pl (.int (-i)))
 |_,_,_=>False
theorem zjd:zlF S sh (unaryOp .USub) zxD:=λa ow st s v d Q X f R h q=>by
 left;cases d<;>first
  |exact q.elim
  |(obtain⟨t,rfl⟩:=h.int;exact P.neg_int (zbI R q))
end
section
variable{S:St0}{sh:zak}
end
section
variable{S:St0}{sh:zak}
noncomputable def zbm(i:Int):List Nat:=(Str.ofString (toString i)).cps.toList
theorem znN(i:Int):(Str.ofString (toString i))=mk (zbm i):=(ze6 _).symm
noncomputable def za2(l:List Nat):List Nat:=(reprText (mk l)).cps.toList
theorem zpb(l:List Nat):reprText (mk l)=mk (za2 l):=(ze6 _).symm
noncomputable def zzb:D->PV
 |.str l,Q,_=>l.length≤LIM∧Q (.pl (.str l))
 |.int i,Q,_=>i.natAbs.log2<1920∧Q (.pl (.str (zbm i)))
 |_,_,_=>False
theorem zez{n:Nat}(h:n≤LIM):n≤sizeLine:=yk h (by decide)
set_option tactic.hygienic true in
theorem zvk:zlF S sh (λv=>formatField v Str.empty) zzb:=λa ow st s v d Q X f R h q=>by
 left;cases d<;>first
  |exact q.elim
  |skip
 case int i=>
  obtain⟨t,rfl⟩:=h.int;exact PyProof.Rows.formatField_int_small q.1 (zcU R (znN i) q.2)
 case str l=>
  obtain⟨t,rfl⟩:=h.str;exact PyProof.Rows.formatField_str (λt' tk=>zcU R rfl q.2) (by rw[zaI];exact zez q.1)
noncomputable def zqW:D->PV
 |.str l,Q,_=>(za2 l).length≤LIM∧Q (.pl (.str (za2 l)))
 |_,_,_=>False
set_option tactic.hygienic true in
theorem ztT:zlF S sh (λv=>do let r ←holding [v] (pyReprObj v);formatField r Str.empty) zqW:=λa ow st s v d Q X f R h q=>by
 left;cases d<;>first
  |exact q.elim
  |skip
 case str l=>
  obtain⟨t,rfl⟩:=h.str;have hz:(reprText (mk l)).length≤sizeLine:=by rw[zpb,zaI];exact zez q.1
  refine yl (yH (wpAny_pyReprObj_str ?_ hz));exact PyProof.Rows.formatField_str (λt' tk=>zcU R (zpb l) q.2) hz
theorem zi1{e:Expr}{pos}{c:PE}(H:zau S sh e c):zau S sh (.FormattedValue e (-1) none pos) (pe1 c zzb):=λa ow st s Q X f R q=>
 wpAny_FormattedValue_plain (ev1 H zvk f R q)
theorem zj2{e:Expr}{pos}{c:PE}(H:zau S sh e c):zau S sh (.FormattedValue e 114 none pos) (pe1 c zqW):=λa ow st s Q X f R q=>by
 rw[arm_eval_FormattedValue];refine yl (yt (ev1 H ztT f R q) (λv s₁ h1=>?_) λ_ _ x=>x);refine yl (yX ?_);exact h1
noncomputable def zhc:List Nat->List PE->PE
 |acc,[],Q,_,st=>Q (.pl (.str acc)) st
 |acc,c::cs,Q,X,st=>c (λr st₁=>r.oM D.str? λy=>acc.length+y.length≤LIM∧zhc (acc++y) cs Q X st₁) X st
inductive zd9(S:St0)(sh:zak):List Expr->List PE->Prop
 |nil:zd9 S sh [] []
 |cons {e es c cs}:zau S sh e c->zd9 S sh es cs->zd9 S sh (e::es) (c::cs)
theorem zuy{a:Act}(f:a.Fits S sh){st0:Sl}{s₀:Shared}{X:Err->Sl->Prop}{Q:Res->Sl->Prop}{ow0:Nat->Option Addr}{es:List Expr}{cs:List PE}(J:zd9 S sh es cs):∀(acc:List Nat)(ow:Nat->Option Addr)(st:Sl)(s:Shared),acc.length≤LIM->Rel S sh a noX ow st s->Step a st0 st s₀ s->zhc acc cs Q X st ->
  Joins (model S.prog S.w) a.A (zfA S a st0 s₀ X) (evalEach es a.env) (mk acc) (λout s₁=>out.length≤sizeLine∧OkE S a ow0 st0 s₀ Q (.str out s₁.toks) {s₁ with toks:=s₁.toks+1}) s:=by
 induction J with
 |nil=>
  intro acc ow st s hl R K q;refine Joins_nil ⟨by rw[zaI];exact zez hl,?_⟩;exact⟨.pl (.str acc),st,q,⟨K.frz,K.keep,K.gens,K.os⟩,.str acc _,λz=>zaF z⟩
 |@cons e es c cs H _ ih=>
  intro acc ow st s hl R K q;refine Joins_cons (yt (H a ow st s _ X f R q) (λv s₁ h=>?_) λ_ _ x=>zaP K x);left;obtain⟨r,st₁,hq,h2,h3⟩:=h;obtain⟨y,rfl,hz,hq⟩:=Res.str_inv hq;refine zfc h3.1.inv λt hzz=>?_;subst hzz;refine zlH (mk y) t rfl ?_ ?_
  ·rw[zlS,zaI,List.length_append];exact zez hz
  ·rw[zlS]
   exact ih (acc++y) _ st₁ s₁ (by rw[List.length_append];exact hz) (R.step f h2) (K.trans h2) hq
theorem zjo{e1 e2:Expr}{es:List Expr}{pos}{cs:List PE}(J:zd9 S sh (e1::e2::es) cs):zau S sh (.JoinedStr (e1::e2::es) pos) (zhc [] cs):=λa ow st s Q X f R q=>
 wpAny_JoinedStr (zuy f J [] ow st s (yb _) R (.refl ..) q)
end
section
open Builtin Builtin.Str StrLaws
noncomputable def zee(l p:List Nat)(hi i:Nat):Bool:=decide (i+p.length≤hi)&&((l.drop i).take p.length==p)
theorem zpn{l p:List Nat}{hi i:Nat}:zee l p hi i=true↔At (mk l) (mk p) hi i:=by
 unfold zee At;simp only[subAt_eq,zaI,Bool.and_eq_true,decide_eq_true_eq];simp[mk]
noncomputable def ziW(l p:List Nat)(hi:Nat):List Nat->Nat->List Nat
 |[],_=>[]
 |i::is,free=>if(decide (free≤i)&&zee l p hi i)=true then i::ziW l p hi is (i+p.length)else ziW l p hi is free
theorem zlp(l p:List Nat)(hi limit:Nat):∀(is:List Nat)(st:Array Nat×Nat),(forIn is st (occBody (mk l) (mk p) hi limit)).run.fst.toList=st.fst.toList++(ziW l p hi is st.snd).take (limit-st.fst.size)
 |[],st=>by simp[ziW]
 |i::is,st=>by
  rw[List.forIn_cons];unfold occBody ziW;have hA:=zpn (l:=l) (p:=p) (hi:=hi) (i:=i);unfold At at hA;by_cases hc:(decide (st.snd≤i)&&zee l p hi i)=true
  ·rw[if_pos hc]
   simp only[Bool.and_eq_true,decide_eq_true_eq]at hc;by_cases hl:st.fst.size<limit
   ·rw[if_pos ⟨⟨⟨hl,hc.1⟩,(hA.mp hc.2).1⟩,(hA.mp hc.2).2⟩]
    have:=zlp l p hi limit is (st.fst.push i,i+(mk p).length);rw[zaI]at this;obtain⟨n,hn⟩:∃n,limit-st.fst.size=n+1:=⟨limit-st.fst.size-1,(Nat.succ_pred_eq_of_pos (Nat.sub_pos_of_lt hl)).symm⟩;rw[zaI];refine Eq.trans this ?_;rw[hn];simp only[Array.toList_push,Array.size_push,List.append_assoc,List.take_succ_cons,List.singleton_append]
    congr 2
    congr 1
    rw[Nat.sub_add_eq,hn];rfl
   ·rw[if_neg (λh=>hl h.1.1.1)]
    have:=zlp l p hi limit is st;have z:limit-st.fst.size=0:=Nat.sub_eq_zero_of_le (xa hl);rw[z]at this⊢;exact this
  ·rw[if_neg hc]
   have hc':¬(((st.fst.size<limit∧st.snd≤i)∧i+(mk p).length≤hi)∧subAt (mk l) (mk p) i=true):=λh=>hc (by
    simp only[Bool.and_eq_true,decide_eq_true_eq];exact⟨h.1.1.2,hA.mpr ⟨h.1.2,h.2⟩⟩)
   rw[if_neg hc'];exact zlp l p hi limit is st
theorem zwW(l p:List Nat)(lo hi limit:Nat):occurrences (mk l) (mk p) lo hi limit=(ziW l p hi (List.range' lo (hi+1-lo)) lo).take limit:=by
 rw[occ_eq,zlp];simp
theorem zja(l p:List Nat)(hi:Nat):∀(is:List Nat)(free:Nat),(ziW l p hi is free).length≤is.length
 |[],_=>yr _
 |i::is,free=>by
  rw[ziW]
  split
  ·exact yG (zja l p hi is _)
  ·exact xg (zja l p hi is _)
noncomputable def zkr(l p:List Nat)(lo hi:Nat):List Nat:=ziW l p hi (List.range' lo (hi+1-lo)) lo
theorem zot{l p:List Nat}{lo hi limit:Nat}(h:hi+1-lo≤limit):occurrences (mk l) (mk p) lo hi limit=zkr l p lo hi:=by
 rw[zwW];refine List.take_of_length_le (yk (zja ..) ?_);rw[List.length_range'];exact h
noncomputable def zbS(l p:List Nat)(lo hi:Nat):Option Nat:=(List.range' lo (hi+1-lo)).find? (zee l p hi)
theorem zjO(l p:List Nat)(hi:Nat):∀(is:List Nat)(free:Nat),(∀i∈is,free≤i)->(ziW l p hi is free).head?=is.find? (zee l p hi)
 |[],_,_=>rfl
 |i::is,free,h=>by
  rw[ziW];rw[List.find?_cons];have hi':=h i yq;cases q:zee l p hi i with
  |true=>simp[hi']
  |false=>
   simp only[Bool.and_false,Bool.false_eq_true,if_false];exact zjO l p hi is free λj hj=>h j (yn _ hj)
theorem zkN(l p:List Nat)(lo hi:Nat):(occurrences (mk l) (mk p) lo hi 1).head?=zbS l p lo hi:=by
 rw[zwW,List.head?_take,if_neg (by decide)];exact zjO _ _ _ _ _ λi h=>(List.mem_range'_1.mp h).1
theorem zf5{l p:List Nat}{lo hi:Nat}(h:zbS l p lo hi=none):occurrences (mk l) (mk p) lo hi 1=[]:=by
 have:=zkN l p lo hi;rw[h]at this;exact List.head?_eq_none_iff.mp this
theorem zgc{l p:List Nat}{lo hi i:Nat}(h:zbS l p lo hi=some i):∃r,occurrences (mk l) (mk p) lo hi 1=i::r:=by
 have:=zkN l p lo hi;rw[h]at this;exact⟨_,(List.head?_eq_some_iff.mp this).choose_spec⟩
noncomputable def zlX(l p:List Nat)(lo hi:Nat):Option Nat:=(List.range' lo (hi+1-lo)).reverse.find? (zee l p hi)
theorem zjL(l p:List Nat)(hi:Nat):∀(is:List Nat)(st:Option Nat),(forIn is st (lastBody (mk l) (mk p) hi)).run=(is.reverse.find? (zee l p hi)).or st
 |[],st=>by simp
 |i::is,st=>by
  rw[List.forIn_cons];unfold lastBody;have hA:=zpn (l:=l) (p:=p) (hi:=hi) (i:=i);unfold At at hA;rw[List.reverse_cons,List.find?_append];by_cases hc:zee l p hi i=true
  ·rw[if_pos (hA.mp hc)]
   refine Eq.trans (zjL l p hi is (some i)) ?_;simp[hc]
  ·rw[if_neg λh=>hc (hA.mpr h)]
   refine Eq.trans (zjL l p hi is st) ?_;have hc:zee l p hi i=false:=by simpa using hc
   simp[hc]
theorem zlt(l p:List Nat)(lo hi:Nat):lastOccurrence (mk l) (mk p) lo hi=zlX l p lo hi:=by
 rw[last_eq,zjL];simp[zlX]
noncomputable def zfY(n:Nat)(i:Int):Nat:=(max 0 (if i<0 then i+n else i)).toNat
section
variable{S:St0}{sh:zak}
@[irreducible]noncomputable def znZ(X:Err->Prop)(Q:Res->Prop)(calm:Bool)(o:Option Nat):Prop:=match o with
 |some j=>Q (.pl (.int j))
 |none=>calm=true∧∀m,X (.value,m)
theorem zhx{X:Err->Prop}{Q:Res->Prop}{calm:Bool}{j:Nat}(h:znZ X Q calm (some j)):Q (.pl (.int j)):=by unfold znZ at h;exact h
theorem zdI{X:Err->Prop}{Q:Res->Prop}{calm:Bool}(h:znZ X Q calm none):calm=true∧∀m,X (.value,m):=by unfold znZ at h;exact h
theorem zrI{X:Err->Prop}{Q:Res->Prop}{calm:Bool}{o:Option Nat}{j:Nat}(e:o=some j)(k:Q (.pl (.int j))):znZ X Q calm o:=by subst e;unfold znZ;exact k
theorem zvA{X:Err->Prop}{Q:Res->Prop}{calm:Bool}{o:Option Nat}(e:o=none)(hc:calm=true)(k:∀m,X (.value,m)):znZ X Q calm o:=by subst e;unfold znZ;exact⟨hc,k⟩
noncomputable def zpf(calm:Bool)(l:List Nat)(ds:List D)(Q:Res->Prop)(X:Err->Prop):Prop:=zuA cS cI ds (λp=>znZ X Q calm (zbS l p 0 l.length)) λp i=>znZ X Q calm (zbS l p (zfY l.length i) l.length)
theorem ziQ(x y:Str)(j:Int)(t u v:Tok)(i:Nat)(rest:List Nat)(h:occurrences x y (fromIndex x.length j) x.length 1=i::rest):Gives («str.index» ⟨[.str x t,.str y u,.int j v],[]⟩) (.int i):=by
 show Gives (match occurrences x y (fromIndex x.length j) (min x.length x.length) 1 with|i::_=>retInt i|[]=>(do rule "str.index.not-found";raiseError "ValueError" "substring not found")) _;rw[Nat.min_self,h];exact .of_eq rfl
theorem zis(x y:Str)(j:Int)(t u v:Tok)(h:occurrences x y (fromIndex x.length j) x.length 1=[]):Meets («str.index» ⟨[.str x t,.str y u,.int j v],[]⟩) (raisesNew "ValueError"):=by
 intro prog w A R s hS;show wpAny _ _ (match occurrences x y (fromIndex x.length j) (min x.length x.length) 1 with|i::_=>retInt i|[]=>_) _ _ s;rw[Nat.min_self,h]
 first
  |exact yl (wpAny_rule (by exact_raiseError plainExc_ValueError hS.1 hS.2))
  |exact yl (wpAny_rule (yl (by exact_raiseError plainExc_ValueError hS.1 hS.2)))
theorem zq7:zmM S sh "str.index" (zpf sh.calm):=λa ow st s l t vs ds Q X f R h q=>by
 left;rcases zkg q with⟨p,e,q⟩|⟨p,i,e,q⟩<;>rw[e]at h
 ·refine zaO (zd2 h) λv hzz h1=>?_
  subst hzz;clear h;obtain⟨u,rfl⟩:=h1.str;cases hf:zbS l p 0 l.length with
  |some j=>
   rw[hf]at q;obtain⟨r,hr⟩:=zgc hf;exact call_gives F.slot_str_index (typeIs_str _ _ _) F.entry_str_index (F.args_str_index_2 _ _) (gives_str_index (mk l) (mk p) t u j r (by rw[zaI];exact hr)) (zbI R (zhx q))
  |none=>
   rw[hf]at q;exact call_meets F.slot_str_index (typeIs_str _ _ _) F.entry_str_index (F.args_str_index_2 _ _) (raises_str_index (mk l) (mk p) t u (by rw[zaI];exact zf5 hf)) ⟨(f.calm (zdI q).1).1,λh' tk e hn=>zgq R (c:=.value) (by decide) hn ((zdI q).2 [])⟩
 ·refine zfB (znR h) λv w hzz h1 h2=>?_
  subst hzz;obtain⟨u,rfl⟩:=h1.str;obtain⟨u',rfl⟩:=h2.int;cases hf:zbS l p (zfY l.length i) l.length with
  |some j=>
   rw[hf]at q;obtain⟨r,hr⟩:=zgc hf;exact call_gives F.slot_str_index (typeIs_str _ _ _) F.entry_str_index (F.args_str_index_3 _ _ _) (ziQ (mk l) (mk p) i t u u' j r (by rw[zaI];exact hr)) (zbI R (zhx q))
  |none=>
   rw[hf]at q;exact call_meets F.slot_str_index (typeIs_str _ _ _) F.entry_str_index (F.args_str_index_3 _ _ _) (zis (mk l) (mk p) i t u u' (by rw[zaI];exact zf5 hf)) ⟨(f.calm (zdI q).1).1,λh' tk e hn=>zgq R (c:=.value) (by decide) hn ((zdI q).2 [])⟩
set_option tactic.hygienic true in
theorem zwM{h:Heap}{P:Addr->Prop}{vs:List Value}{d e g:D}(x:znb S h P vs [d,e,g]):∃v w u,vs=[v,w,u]∧zes S h P v d∧zes S h P w e∧zes S h P u g:=by
 cases vs with
 |nil=>exact x.elim
 |cons v vs=>
  refine zfB (znR x.2) λw u hzz y z=>?_;subst hzz;exact zuh v w u rfl x.1 y z
@[reducible]noncomputable def zmb(ds:List D)(k:List Nat->Prop)(k3:List Nat->Int->Int->Prop):Prop:=zqN cS ds λp ds=>match ds with
 |[]=>k p
 |d::ds=>oM d.int? λi=>one cI ds λj=>k3 p i j
theorem ziJ{l:List D}{k:List Nat->Prop}{k3:List Nat->Int->Int->Prop}(h:zmb l k k3):(∃x,l=[.str x]∧k x)∨∃x i j,l=[.str x,.int i,.int j]∧k3 x i j:=by
 left;refine zfw (zjX h) λx r1 e1 h=>?_
 induction r1 with
 |nil=>exact .inl (zbB x e1 h)
 |cons d r=>
  refine zaO (oM_inv h) λi e2 h=>?_;refine zaO (zfs h) λj e3 h=>?_;exact .inr (zw4 x i j (by simp only[e1,D.int?_inv e2,e3]) h)
noncomputable def zpa(l:List Nat)(ds:List D)(Q:Res->Prop)(_:Err->Prop):Prop:=zmb ds (λp=>Q (.pl (.int (zkr l p 0 l.length).length))) λp i j=>Q (.pl (.int (zkr l p (zfY l.length i) (min (zfY l.length j) l.length)).length))
noncomputable def zlR(calm:Bool)(l:List Nat)(ds:List D)(Q:Res->Prop)(X:Err->Prop):Prop:=zmb ds (λp=>znZ X Q calm (zlX l p 0 l.length)) λp i j=>znZ X Q calm (zlX l p (zfY l.length i) (min (zfY l.length j) l.length))
theorem zjC(x y:Str)(i j:Int)(t u v w:Tok):Gives («str.count» ⟨[.str x t,.str y u,.int i v,.int j w],[]⟩) (.int (occurrences x y (fromIndex x.length i) (min (fromIndex x.length j) x.length) (x.length+1)).length):=by
 show Gives (retInt (occurrences x y (fromIndex x.length i) (min (fromIndex x.length j) x.length) (x.length+1)).length) _;exact .of_eq rfl
theorem ziP(x y:Str)(i j:Int)(t u v w:Tok)(k:Nat)(h:lastOccurrence x y (fromIndex x.length i) (min (fromIndex x.length j) x.length)=some k):Gives («str.rindex» ⟨[.str x t,.str y u,.int i v,.int j w],[]⟩) (.int k):=by
 show Gives (match lastOccurrence x y (fromIndex x.length i) (min (fromIndex x.length j) x.length)with|some i=>retInt i|none=>(do rule "str.rindex.not-found";raiseError "ValueError" "substring not found")) _;rw[h];exact .of_eq rfl
theorem zh9(x y:Str)(i j:Int)(t u v w:Tok)(h:lastOccurrence x y (fromIndex x.length i) (min (fromIndex x.length j) x.length)=none):Meets («str.rindex» ⟨[.str x t,.str y u,.int i v,.int j w],[]⟩) (raisesNew "ValueError"):=by
 intro prog w A R s hS;show wpAny _ _ (match lastOccurrence x y (fromIndex x.length i) (min (fromIndex x.length j) x.length)with|some i=>retInt i|none=>_) _ _ s;rw[h]
 first
  |exact yl (wpAny_rule (by exact_raiseError plainExc_ValueError hS.1 hS.2))
  |exact yl (wpAny_rule (yl (by exact_raiseError plainExc_ValueError hS.1 hS.2)))
theorem zqi:zmM S sh "str.count" zpa:=λa ow st s l t vs ds Q X f R h q=>by
 left;rcases ziJ q with⟨p,e,q⟩|⟨p,i,j,e,q⟩<;>rw[e]at h
 ·refine zaO (zd2 h) λv hzz h1=>?_
  subst hzz;clear h;obtain⟨u,rfl⟩:=h1.str;refine SC.count ?_;have e:Txt.count (mk l) (mk p)=(zkr l p 0 l.length).length:=by
   unfold Txt.count;rw[zaI,zot (l:=l) (p:=p) (lo:=0) (hi:=l.length) (limit:=l.length+1) (Nat.le_refl _)]
  rw[e];exact zbI R q
 ·refine zuk (zwM h) λv w z hzz h1 h2 h3=>?_
  subst hzz;clear h;obtain⟨u,rfl⟩:=h1.str;obtain⟨u',rfl⟩:=h2.int;obtain⟨u'',rfl⟩:=h3.int;refine call_gives F.slot_str_count (typeIs_str _ _ _) F.entry_str_count (F.args_str_count_4 _ _ _ _) (zjC (mk l) (mk p) i j t u u' u'') ?_;rw[zaI,zot (Nat.le_trans (Nat.sub_le ..) (Nat.succ_le_succ (Nat.min_le_right ..)))];exact zbI R q
theorem zoJ:zmM S sh "str.rindex" (zlR sh.calm):=λa ow st s l t vs ds Q X f R h q=>by
 left;rcases ziJ q with⟨p,e,q⟩|⟨p,i,j,e,q⟩<;>rw[e]at h
 ·refine zaO (zd2 h) λv hzz h1=>?_
  subst hzz;clear h;obtain⟨u,rfl⟩:=h1.str;cases hf:zlX l p 0 l.length with
  |some j=>
   rw[hf]at q;exact call_gives F.slot_str_rindex (typeIs_str _ _ _) F.entry_str_rindex (F.args_str_rindex_2 _ _) (gives_str_rindex (mk l) (mk p) t u j (by rw[zaI,zlt];exact hf)) (zbI R (zhx q))
  |none=>
   rw[hf]at q;exact call_meets F.slot_str_rindex (typeIs_str _ _ _) F.entry_str_rindex (F.args_str_rindex_2 _ _) (raises_str_rindex (mk l) (mk p) t u (by rw[zaI,zlt];exact hf)) ⟨(f.calm (zdI q).1).1,λh' tk e hn=>zgq R (c:=.value) (by decide) hn ((zdI q).2 [])⟩
 ·refine zuk (zwM h) λv w z hzz h1 h2 h3=>?_
  subst hzz;clear h;obtain⟨u,rfl⟩:=h1.str;obtain⟨u',rfl⟩:=h2.int;obtain⟨u'',rfl⟩:=h3.int;cases hf:zlX l p (zfY l.length i) (min (zfY l.length j) l.length)with
  |some k=>
   rw[hf]at q;exact call_gives F.slot_str_rindex (typeIs_str _ _ _) F.entry_str_rindex (F.args_str_rindex_4 _ _ _ _) (ziP (mk l) (mk p) i j t u u' u'' k (by rw[zaI,zlt];exact hf)) (zbI R (zhx q))
  |none=>
   rw[hf]at q;exact call_meets F.slot_str_rindex (typeIs_str _ _ _) F.entry_str_rindex (F.args_str_rindex_4 _ _ _ _) (zh9 (mk l) (mk p) i j t u u' u'' (by rw[zaI,zlt];exact hf)) ⟨(f.calm (zdI q).1).1,λh' tk e hn=>zgq R (c:=.value) (by decide) hn ((zdI q).2 [])⟩
end
end
end Mine.Internal
end
section
open PySem PySem.W PySem.Calls PyProof.Rows
set_option tactic.hygienic false
set_option maxRecDepth 100000
namespace Mine.Internal.FZ
theorem plainAttrs_frozenset:PlainAttrs "frozenset":=
 ⟨(zbB ("object.__getattribute__") (by rw[typeLookup_type,builtinLookup_eq_fast];kernel_rfl) (by right)),by rw[typeLookup_type,builtinLookup_eq_fast];kernel_rfl⟩
theorem slot_isdisjoint:PySem.Slot "frozenset" "isdisjoint" "frozenset.isdisjoint":=
 PySem.Slot.of (owner:="frozenset") (n:="isdisjoint") (by rw[typeLookup_type,builtinLookup_eq_fast];kernel_rfl) (by right) (by right) (by right)
  (by first|exact .inl (by right)|exact .inr (by right)) (by rw[isSubtype_type];kernel_rfl)
theorem type_isdisjoint:typeOf (.builtin "frozenset.isdisjoint")=pure (.type "method_descriptor"):=by show builtinType _=_;rw[builtinType_eq_fast];kernel_rfl
theorem entry_isdisjoint:entryFor table "frozenset.isdisjoint"=some Builtin.«frozenset.isdisjoint»:=entryFor_of_tree (by kernel_rfl)
theorem args_isdisjoint(a b:Value):argsOk "frozenset.isdisjoint" ⟨[a,b],[]⟩:=by
 unfold argsOk;rw[signature?_of (id:="frozenset.isdisjoint") (n:="isdisjoint".toList.reverse) (o:="frozenset".toList.reverse) (by kernel_rfl) W.FB.owner_frozenset];kernel_rfl
theorem slot_issuperset:PySem.Slot "frozenset" "issuperset" "frozenset.issuperset":=
 PySem.Slot.of (owner:="frozenset") (n:="issuperset") (by rw[typeLookup_type,builtinLookup_eq_fast];kernel_rfl) (by right) (by right) (by right)
  (by first|exact .inl (by right)|exact .inr (by right)) (by rw[isSubtype_type];kernel_rfl)
theorem type_issuperset:typeOf (.builtin "frozenset.issuperset")=pure (.type "method_descriptor"):=by show builtinType _=_;rw[builtinType_eq_fast];kernel_rfl
theorem entry_issuperset:entryFor table "frozenset.issuperset"=some Builtin.«frozenset.issuperset»:=entryFor_of_tree (by kernel_rfl)
theorem args_issuperset(a b:Value):argsOk "frozenset.issuperset" ⟨[a,b],[]⟩:=by
 unfold argsOk;rw[signature?_of (id:="frozenset.issuperset") (n:="issuperset".toList.reverse) (o:="frozenset".toList.reverse) (by kernel_rfl) W.FB.owner_frozenset];kernel_rfl
theorem entry_isdisjoint_loop:entryFor table "frozenset.isdisjoint.loop"=some Builtin.«frozenset.isdisjoint.loop»:=entryFor_of_tree (by kernel_rfl)
theorem entry_issuperset_loop:entryFor table "frozenset.issuperset.loop"=some Builtin.«frozenset.issuperset.loop»:=entryFor_of_tree (by kernel_rfl)
theorem plain_isdisjoint_loop:plainId "frozenset.isdisjoint.loop"=true:=by kernel_rfl
theorem plain_issuperset_loop:plainId "frozenset.issuperset.loop"=true:=by kernel_rfl
end Mine.Internal.FZ
namespace Mine.Internal
section
variable{prog:Program}{w:World}{A:Around}{E:Value->Shared->Prop}
noncomputable def Looks(prog:Program)(w:World)(d:zdv)(v:Value)(b:Bool):Prop:=
 ∀(A:Around)(E:Value->Shared->Prop)(S:Addr)(s:Shared)(Q:Bool->Shared->Prop),s.heap.get? S=some (zar d)->(∀tk,Q b {s with toks:=tk})->wpAny (model prog w) A (setContains S v) Q E s
theorem zkk{d:zdv}{l:List Str}(F:zat prog w d l)(x:Str)(t:Tok):Looks prog w d (.str x t) (decide (x∈l)):=λA E S s Q ho q=>by
 unfold setContains;refine yH (yl ((PySem.strKind prog w).pyHash (k:=x) (v:=.str x t) (by show Value.isStrOf x (.str x t)=true;simp[Value.isStrOf]) ?_));refine yl (setFind_any (knd:=PySem.strKind prog w) (S:=λk=>decide (k∈l)) (by show Value.isStrOf x (.str x t)=true;simp[Value.isStrOf]) rfl ho rfl F.el (λk=>by rw[decide_eq_true_eq];exact F.mem k) F.bound F.fits λr hr=>yo ?_);rw[hr];exact q _
theorem znf{x:Str}{t:Tok}{s:Shared}{Q:Bool->Shared->Prop}(h:Q false s):wpAny (model prog w) A (eqBool (.str x t) .none) Q E s:=by
 unfold eqBool;refine yH ?_;rw[if_neg (by simp)];exact yl (EqNone.eq_str_none (wpAny_truthy_bool h))
theorem znp{d:zdv}{l:List Str}(Fs:zat prog w d l){S:Addr}{hn:Int}{Q:ScanMet->Shared->Prop}:∀(es:List (Int×Value))(i:Nat)(s:Shared),s.heap.get? S=some (zar d)->(∀e∈es,∃x t,e.2=.str x t)->A.units+1<cLine->Q .absent s ->
  wpAny (model prog w) A (setScanFrom S .none hn false es i) Q E s
 |[],i,s,ho,he,hu,q=>yo q
 |(h',y)::es,i,s,ho,he,hu,q=>by
  have hrest:=znp Fs (hn:=hn) es (i+1) s ho (λe h=>he e (yn _ h)) hu q;unfold setScanFrom;by_cases hh:(h'==hn)=true
  ·refine zer hh ?_
   refine zBj (he _ yq) λx t e=>?_;dsimp only at e;clear he;subst e;refine yl (wpAny_setEpoch_of ho rfl Fs.fits ?_);refine yl (znf ?_);simp only[Bool.and_false,Bool.false_eq_true,if_false];refine yl (wpAny_setEpoch_of ho rfl Fs.fits ?_);simp only[bne_self_eq_false,Bool.false_eq_true,↓reduceIte];exact hrest
  ·refine zbY hh ?_
   exact hrest
theorem zqw{d:zdv}{l:List Str}(Fs:zat prog w d l):∀(A:Around)(E:Value->Shared->Prop)(S:Addr)(s:Shared)(Q:Bool->Shared->Prop),A.units+10<cLine->s.heap.get? S=some (zar d)->(∀tk,Q false {s with toks:=tk})->wpAny (model prog w) A (setContains S .none) Q E s:=λA E S s Q hu ho q=>by
 unfold setContains;refine yH (yl ?_);show wpAny _ _ (pyHashByItsType .none) _ _ _;refine pyHash_slot (T:="NoneType") rfl F.slot_NoneType_hash F.entry_NoneType_hash (F.args_NoneType_hash_1 _) (PySem.beq_builtin_none _) (.inl rfl) (yl (yo (yl (wpAny_mkInt (yo (zny _ _ rfl ?_))))));have hel:∀e∈d.1.toList,∃x t,e.2=.str x t:=λe he=>by
  left;obtain⟨⟨k,hk,_⟩,_⟩:=Fs.el e he;obtain⟨t,q⟩:=Value.isStrOf_shape hk;exact zAv k t q
 unfold setFind setFindIn;refine yl (yl (wpAny_setState_of (s:={s with toks:=_}) ho rfl Fs.fits ?_));dsimp only;rw[byScan_of (knd:=PySem.strKind prog w) rfl Fs.bound Fs.el];simp only[↓reduceIte];refine yl (wpAny_rule (yl ?_));show wpAny _ _ (setScanFrom S .none _ false d.1.toList 0) _ _ _;refine znp Fs d.1.toList 0 _ ho hel (by lia) ?_;dsimp only;exact yo (yo (q _))
theorem zAN{d:zdv}{v:Value}{b:Bool}{S:Addr}{s:Shared}{Q:Bool->Shared->Prop}(ho:s.heap.get? S=some (zar d))(hL:∀(A':Around)(E:Value->Shared->Prop)(Q:Bool->Shared->Prop),A'.units≤A.units+1->(∀tk,Q b {s with toks:=tk})->wpAny (model prog w) A' (setContains S v) Q E s)
  (h:∀tk,Q b {s with toks:=tk}):wpAny (model prog w) A (contains (.ref S) v) Q E s:=by
 have hT:s.TypeIs (.ref S) "frozenset":=(zbB _ ho rfl);unfold contains
 try with_reducible refine yH ?_
 refine yl (wpAny_specialOf hT FB.slot_frozenset_contains.lookup ?_);show wpAny _ _ (if(some (Value.builtin "frozenset.__contains__")==some Value.none)=true then _ else _) _ E s;refine zbY (by rw[PySem.beq_builtin_none];exact yD) ?_;refine yl (wpAny_callSpecialUnlessNone?_slot (name:=ofString "__contains__") hT FB.slot_frozenset_contains
  (wpAny_call_entry FB.slot_frozenset_contains hT FB.entry_frozenset_contains ?_ (FB.args_frozenset_contains_2 _ _)))
 unfold Builtin.«frozenset.__contains__» Builtin.Frozenset.oneOther;simp only[List.isEmpty_nil,bind_assoc];unfold Builtin.Frozenset.addrOf Builtin.Frozenset.withSetAsKey;refine yl (yo ?_)
 try dsimp only
 refine yl (yo ?_)
 try dsimp only
 refine yl (wpAny_tryCatch ?_);refine hL A.in1 _ _ (yr _) λtk=>?_;show wpAny _ _ (ret (Value.bool b)) _ _ _;exact yo (zbB _ rfl (wpAny_truthy_bool (h _)))
end
section
variable{S:St0}{sh:zak}{a:Act}{ow:Nat->Option Addr}{st:Sl}{s:Shared}
theorem zes.fset{h:Heap}{P:Addr->Prop}{v:Value}{l:List (List Nat)}(x:zes S h P v (.fset l)):∃b d,v=.ref b∧h.get? b=some (zar d)∧zat S.prog S.w d (l.map mk):=by
 left;rcases x with x|⟨_,_,_,_,_,_,e,_⟩
 ·cases x;exact zlH _ _ rfl (by assumption) (by assumption)
 ·cases e
noncomputable def zrw:D->List (List Nat)->Option Bool
 |.str k,l=>some (decide (k∈l))
 |.none,_=>some false
 |_,_=>none
set_option tactic.hygienic true in
theorem zhz(f:a.Fits S sh)(R:Rel S sh a noX ow st s){v c:Value}{d:D}{l:List (List Nat)}{b:Bool}(hb:zrw d l=some b)(hv:zes S s.heap (Pv a noX ow) v d)(hc:zes S s.heap (Pv a noX ow) c (.fset l)){E:Value->Shared->Prop}{Q:Bool->Shared->Prop}
  (q:∀tk,Q b {s with toks:=tk}):wpAny (model S.prog S.w) a.A (contains c v) Q E s:=by
 refine zfB hc.fset λB dd hzz ho F=>?_;subst hzz;left;cases d
 case none=>
  obtain rfl:=hv.none;obtain rfl:false=b:=yj hb;exact zAN ho (λA' E' Q' hu q'=>zqw F A' E' B s Q' (by have:=zjh f;lia) ho q') q
 case str k=>
  have hb:decide (k∈l)=b:=yj hb;obtain⟨t,rfl⟩:=hv.str;have e:decide (mk k∈l.map mk)=b:=by
   rw[←hb];refine yW.mpr ⟨λh=>?_,λh=>List.mem_map_of_mem h⟩;refine zaO (List.mem_map.mp h) λx hx e=>?_;exact zm8 e▸hx
  exact zAN ho (λA' E' Q' hu q'=>by
   have:=zkk F (mk k) t A' E' B s Q' ho;rw[e]at this;exact this q') q
 all_goals exact zae (show(none:Option Bool)=some b from hb)
end
end Mine.Internal
end
section
open PySem PySem.W PySem.Calls PyProof.Rows
set_option tactic.hygienic false
set_option genInjectivity false
set_option genSizeOfSpec false
set_option maxRecDepth 100000
namespace Mine.Internal
section
open Builtin Builtin.Str
section
variable{S:St0}{sh:zak}{a:Act}{ow:Nat->Option Addr}{st:Sl}{s:Shared}
noncomputable def zB5(d e:D):Option Bool:=match e with
 |.str y=>(match d with
  |.str x=>some (zbS y x 0 y.length).isSome
  |_=>none)
 |.fset l=>zrw d l
 |_=>none
theorem zpc{d e:D}{b:Bool}(h:zB5 d e=some b):(∃x y,d=.str x∧e=.str y∧(zbS y x 0 y.length).isSome=b)∨∃l,e=.fset l∧zrw d l=some b:=by
 cases e with
 |str y=>cases d<;>first|((first|exact zae h|cases h);done)|exact .inl (zlH _ _ rfl rfl (yj h))
 |fset l=>exact .inr (zbB _ rfl h)
 |_=>exact zae h
noncomputable def inD:D->D->PV:=λd e Q _=>oM (zB5 d e) λb=>Q (.pl (.bool b))
noncomputable def zAh:D->D->PV:=λd e Q _=>oM (zB5 d e) λb=>Q (.pl (.bool (!b)))
theorem ziD(x y:List Nat):Txt.contains (mk y) (mk x)=(zbS y x 0 y.length).isSome:=by
 unfold Txt.contains;rw[zaI];cases h:zbS y x 0 y.length with
 |none=>rw[zf5 h];rfl
 |some i=>obtain⟨r,hr⟩:=zgc h;rw[hr];rfl
theorem zr0:zc8 S sh (compareOp .In) inD:=λa ow st s v1a v2a d1 d2 Q X f R h1 h2 q=>by
 left;refine zaO (oM_inv q) λb hb q=>?_;rcases zpc hb with⟨x,y,e1,e2,hb⟩|⟨l,e2,hb⟩
 ·rw[e1]at h1
  rw[e2]at h2;obtain⟨t,rfl⟩:=h1.str;obtain⟨u,rfl⟩:=h2.str;refine SB.contains ?_;rw[ziD,hb];exact zcs (tk:=s.toks) R q
 ·rw[e2]at h2
  show wpAny _ _ (do return Value.bool (←contains v2a v1a)) _ _ s;exact yl (zhz f R hb h1 h2 λtk=>yo (zcs (tk:=tk) R q))
theorem zpI:zc8 S sh (compareOp .NotIn) zAh:=λa ow st s v1a v2a d1 d2 Q X f R h1 h2 q=>by
 left;refine zaO (oM_inv q) λb hb q=>?_;rcases zpc hb with⟨x,y,e1,e2,hb⟩|⟨l,e2,hb⟩
 ·rw[e1]at h1
  rw[e2]at h2;obtain⟨t,rfl⟩:=h1.str;obtain⟨u,rfl⟩:=h2.str;refine SB.notContains ?_;rw[ziD,hb];exact zcs (tk:=s.toks) R q
 ·rw[e2]at h2
  show wpAny _ _ (do return Value.bool (!(←contains v2a v1a))) _ _ s;exact yl (zhz f R hb h1 h2 λtk=>yo (zcs (tk:=tk) R q))
end
section
variable{prog:Program}{w:World}
theorem zp3{A:Around}{E:Value->Shared->Prop}{I:Addr}{x:Str}{t:Tok}{i:Nat}{kind:String}(hk:kind="str_ascii_iterator"∨kind="str_iterator")(hA:A.handled=none){s:Shared}{Q:Option Value->Shared->Prop}(hit:s.heap.IsStrIter I kind x t i)(hx:x.cps[i]?=none)
  (q:∀h',Heap.ExtBut I s.heap h'->Q none {s with heap:=h'}):wpAny (model prog w) A (pyNext (.ref I)) Q E s:=by
 rcases hk with rfl|rfl
 ·exact wpAny_pyNext_ascii_end hA hit hx q
 ·exact wpAny_pyNext_wide_end hA hit hx q
theorem znY{A:Around}{E:Value->Shared->Prop}{I:Addr}{x:Str}{t:Tok}{i c:Nat}{kind:String}(hk:kind="str_ascii_iterator"∨kind="str_iterator"){s:Shared}{Q:Option Value->Shared->Prop}(hit:s.heap.IsStrIter I kind x t i)(hx:x.cps[i]?=some c)
  (q:∀h',h'.IsStrIter I kind x t (i+1)->Heap.SameBut I s.heap h'->Q (some (.str ⟨#[c]⟩ s.toks)) {s with heap:=h',toks:=s.toks+1}):wpAny (model prog w) A (pyNext (.ref I)) Q E s:=by
 rcases hk with rfl|rfl
 ·exact wpAny_pyNext_ascii_item hit hx q
 ·exact wpAny_pyNext_wide_item hit hx q
theorem ztY{d:zdv}{l:List Str}(Fs:zat prog w d l){T:Addr}{I:Addr}{x:Str}{t:Tok}{kind:String}(hk:kind="str_ascii_iterator"∨kind="str_iterator"){A:Around}(hA:A.handled=none){h₀:Heap}(hI0:h₀.get? I=none)(hT0:h₀.get? T=some (zar d)) :
  ∀(n i:Nat)(s:Shared)(R:Result->Shared->Prop),x.cps.size-i=n->(∀b o,h₀.get? b=some o->s.heap.get? b=some o)->s.heap.IsStrIter I kind x t i ->
   (∀h' tk,(∀b o,h₀.get? b=some o->h'.get? b=some o)->R (.ok (.ret (.bool ((x.cps.toList.drop i).all λc=>!decide ((⟨#[c]⟩:Str)∈l))))) {s with heap:=h',toks:=tk}) ->
   codeAny (model prog w) A (.builtin "frozenset.isdisjoint.loop" ⟨[.ref T,.ref I],[]⟩) R s:=by
 intro n
 induction n with
 |zero=>
  intro i s R hn hkp hit q;refine codeAny_builtin FZ.entry_isdisjoint_loop ?_;rw[Around.under_plainId FZ.plain_isdisjoint_loop _];unfold Builtin.«frozenset.isdisjoint.loop»;dsimp only;have hx:x.cps[i]?=none:=by rw[Array.getElem?_eq_none_iff];exact Nat.sub_eq_zero_iff_le.mp hn
  have hd:x.cps.toList.drop i=[]:=List.drop_eq_nil_of_le (yC▸(Nat.sub_eq_zero_iff_le.mp hn));rw[hd]at q;refine yl (zp3 (A:=A.in1) hk hA hit hx λh' hb=>?_);dsimp only;exact yo (q h' s.toks λb o e=>hb b o (λz=>by rw[z,hI0]at e;exact zae e) (hkp b o e))
 |succ n ih=>
  intro i s R hn hkp hit q;refine codeAny_builtin FZ.entry_isdisjoint_loop ?_;rw[Around.under_plainId FZ.plain_isdisjoint_loop _];unfold Builtin.«frozenset.isdisjoint.loop»;dsimp only;have hlt:i<x.cps.size:=Nat.lt_of_sub_eq_succ hn;have hx:x.cps[i]?=some x.cps[i]:=Array.getElem?_eq_getElem hlt;have hd:x.cps.toList.drop i=x.cps[i]::x.cps.toList.drop (i+1):=by
   rw[List.drop_eq_getElem_cons (by exact hlt)];simp
  rw[hd]at q;refine yl (znY hk hit hx λh' hi hb=>?_);dsimp only;have hkp':∀b o,h₀.get? b=some o->h'.get? b=some o:=λb o e=>(hb.2 b λz=>by rw[z,hI0]at e;exact zae e).trans (hkp b o e);refine yl (yH (zkk Fs _ _ _ _ T _ _ (hkp' _ _ hT0) λtk'=>?_));cases hc:decide ((⟨#[x.cps[i]]⟩:Str)∈l)with
  |true=>
   dsimp only;have:=q h' tk' hkp';rw[List.all_cons,hc]at this
   first
    |(refine zer rfl ?_;exact yo this)
    |(rw[if_neg (by decide)];exact yo this)
  |false=>
   have go:∀h'' tk'',(∀b o,h₀.get? b=some o->h''.get? b=some o)->R (.ok (.ret (.bool ((x.cps.toList.drop (i+1)).all λc=>!decide ((⟨#[c]⟩:Str)∈l))))) {s with heap:=h'',toks:=tk''}:=λh'' tk'' hk''=>by
    have:=q h'' tk'' hk'';rw[List.all_cons,hc]at this;exact this
   first
    |(refine zbY (by decide) ?_;exact yo ⟨plainId_quiet FZ.plain_isdisjoint_loop _,ih (i+1) _ R (by rw[←Nat.sub_sub,hn];rfl) hkp' hi go⟩)
    |(rw[if_pos rfl];exact yo ⟨plainId_quiet FZ.plain_isdisjoint_loop _,ih (i+1) _ R (by rw[←Nat.sub_sub,hn];rfl) hkp' hi go⟩)
theorem zqr{d:zdv}{l:List Str}(Fs:zat prog w d l){T:Addr}{I:Addr}{x:Str}{t:Tok}{kind:String}(hk:kind="str_ascii_iterator"∨kind="str_iterator"){A:Around}(hA:A.handled=none){h₀:Heap}(hI0:h₀.get? I=none)(hT0:h₀.get? T=some (zar d)) :
  ∀(n i:Nat)(s:Shared)(R:Result->Shared->Prop),x.cps.size-i=n->(∀b o,h₀.get? b=some o->s.heap.get? b=some o)->s.heap.IsStrIter I kind x t i ->
   (∀h' tk,(∀b o,h₀.get? b=some o->h'.get? b=some o)->R (.ok (.ret (.bool ((x.cps.toList.drop i).all λc=>decide ((⟨#[c]⟩:Str)∈l))))) {s with heap:=h',toks:=tk}) ->
   codeAny (model prog w) A (.builtin "frozenset.issuperset.loop" ⟨[.ref T,.ref I],[]⟩) R s:=by
 intro n
 induction n with
 |zero=>
  intro i s R hn hkp hit q;refine codeAny_builtin FZ.entry_issuperset_loop ?_;rw[Around.under_plainId FZ.plain_issuperset_loop _];unfold Builtin.«frozenset.issuperset.loop»;dsimp only;have hx:x.cps[i]?=none:=by rw[Array.getElem?_eq_none_iff];exact Nat.sub_eq_zero_iff_le.mp hn
  have hd:x.cps.toList.drop i=[]:=List.drop_eq_nil_of_le (yC▸(Nat.sub_eq_zero_iff_le.mp hn));rw[hd]at q;refine yl (zp3 (A:=A.in1) hk hA hit hx λh' hb=>?_);dsimp only;exact yo (q h' s.toks λb o e=>hb b o (λz=>by rw[z,hI0]at e;exact zae e) (hkp b o e))
 |succ n ih=>
  intro i s R hn hkp hit q;refine codeAny_builtin FZ.entry_issuperset_loop ?_;rw[Around.under_plainId FZ.plain_issuperset_loop _];unfold Builtin.«frozenset.issuperset.loop»;dsimp only;have hlt:i<x.cps.size:=Nat.lt_of_sub_eq_succ hn;have hx:x.cps[i]?=some x.cps[i]:=Array.getElem?_eq_getElem hlt;have hd:x.cps.toList.drop i=x.cps[i]::x.cps.toList.drop (i+1):=by
   rw[List.drop_eq_getElem_cons (by exact hlt)];simp
  rw[hd]at q;refine yl (znY hk hit hx λh' hi hb=>?_);dsimp only;have hkp':∀b o,h₀.get? b=some o->h'.get? b=some o:=λb o e=>(hb.2 b λz=>by rw[z,hI0]at e;exact zae e).trans (hkp b o e);refine yl (yH (zkk Fs _ _ _ _ T _ _ (hkp' _ _ hT0) λtk'=>?_));cases hc:decide ((⟨#[x.cps[i]]⟩:Str)∈l)with
  |false=>
   dsimp only;have:=q h' tk' hkp';rw[List.all_cons,hc]at this
   first
    |(rw[if_pos rfl];exact yo this)
    |(refine zbY (by decide) ?_;exact yo this)
  |true=>
   have go:∀h'' tk'',(∀b o,h₀.get? b=some o->h''.get? b=some o)->R (.ok (.ret (.bool ((x.cps.toList.drop (i+1)).all λc=>decide ((⟨#[c]⟩:Str)∈l))))) {s with heap:=h'',toks:=tk''}:=λh'' tk'' hk''=>by
    have:=q h'' tk'' hk'';rw[List.all_cons,hc]at this;exact this
   first
    |(rw[if_neg (by decide)];exact yo ⟨plainId_quiet FZ.plain_issuperset_loop _,ih (i+1) _ R (by rw[←Nat.sub_sub,hn];rfl) hkp' hi go⟩)
    |(refine zer rfl ?_;exact yo ⟨plainId_quiet FZ.plain_issuperset_loop _,ih (i+1) _ R (by rw[←Nat.sub_sub,hn];rfl) hkp' hi go⟩)
theorem znT{A:Around}{E:Value->Shared->Prop}{x:Str}{t:Tok}{s:Shared}{Q:Value->Shared->Prop}(q:∀kind I h',(kind="str_ascii_iterator"∨kind="str_iterator")->s.heap.get? I=none->(∀b o,s.heap.get? b=some o->h'.get? b=some o)->h'.IsStrIter I kind x t 0->Q (.ref I) {s with heap:=h'}):wpAny (model prog w) A (pyIter (.str x t)) Q E s:=by
 have hn:s.heap.get? s.heap.objs.size=none:=yT (yr _);left;cases ha:x.cps.all (·<128)with
 |true=>exact wpAny_pyIter_ascii ha (q _ _ _ (.inl rfl) hn (λb o e=>yE _ e) (zga _ (yI _ rfl) rfl rfl))
 |false=>exact wpAny_pyIter_wide ha (q _ _ _ (.inr rfl) hn (λb o e=>yE _ e) (zga _ (yI _ rfl) rfl rfl))
theorem zsG{d:zdv}{l:List Str}(Fs:zat prog w d l){T:Addr}{x:Str}{t:Tok}{A:Around}(hA:A.handled=none){E:Value->Shared->Prop}{s:Shared}{Q:Value->Shared->Prop}(ho:s.heap.get? T=some (zar d))
  (q:∀h' tk,(∀b o,s.heap.get? b=some o->h'.get? b=some o)->Q (.bool (x.cps.toList.all λc=>!decide ((⟨#[c]⟩:Str)∈l))) {s with heap:=h',toks:=tk}):wpAny (model prog w) A (call (.builtin "frozenset.isdisjoint") [.ref T,.str x t]) Q E s:=by
 have hT:s.TypeIs (.ref T) "frozenset":=(zbB _ ho rfl);refine wpAny_call (codeAny_call_builtin FZ.slot_isdisjoint.plain FZ.entry_isdisjoint (FZ.slot_isdisjoint.check _ _ _ _ _ _ _ _ hT (FZ.args_isdisjoint _ _) ?_));unfold Builtin.«frozenset.isdisjoint» Builtin.Frozenset.oneOther Builtin.Frozenset.addrOf;simp only[List.isEmpty_nil,bind_assoc];refine yl (yo ?_)
 try dsimp only
 refine yl (yo ?_)
 try dsimp only
 refine zbY (by simp) ?_;refine yl (wpAny_typeOf (typeIs_str _ x t) ?_);refine zbY (by decide) ?_;refine yl (znT λkind I h' hk hI hkp hit=>?_);refine yo ⟨plainId_quiet FZ.plain_isdisjoint_loop _,ztY Fs hk hA hI ho _ 0 _ _ rfl hkp hit λh'' tk hk''=>?_⟩;exact q h'' tk hk''
theorem zqR{d:zdv}{l:List Str}(Fs:zat prog w d l){T:Addr}{x:Str}{t:Tok}{A:Around}(hA:A.handled=none){E:Value->Shared->Prop}{s:Shared}{Q:Value->Shared->Prop}(ho:s.heap.get? T=some (zar d))
  (q:∀h' tk,(∀b o,s.heap.get? b=some o->h'.get? b=some o)->Q (.bool (x.cps.toList.all λc=>decide ((⟨#[c]⟩:Str)∈l))) {s with heap:=h',toks:=tk}):wpAny (model prog w) A (call (.builtin "frozenset.issuperset") [.ref T,.str x t]) Q E s:=by
 have hT:s.TypeIs (.ref T) "frozenset":=(zbB _ ho rfl);refine wpAny_call (codeAny_call_builtin FZ.slot_issuperset.plain FZ.entry_issuperset (FZ.slot_issuperset.check _ _ _ _ _ _ _ _ hT (FZ.args_issuperset _ _) ?_));unfold Builtin.«frozenset.issuperset» Builtin.Frozenset.oneOther Builtin.Frozenset.addrOf;simp only[List.isEmpty_nil,bind_assoc];refine yl (yo ?_)
 try dsimp only
 refine yl (yo ?_)
 try dsimp only
 unfold Builtin.Frozenset.isAnySet;have h1:isSubtype (.type "str") (.type "set")=pure false:=by rw[isSubtype_type];kernel_rfl
 have h2:isSubtype (.type "str") (.type "frozenset")=pure false:=by rw[isSubtype_type];kernel_rfl
 refine yl ?_;unfold orM;refine yl (wpAny_isInstance (typeIs_str _ x t) h1 ?_);refine wpAny_isInstance (typeIs_str _ x t) h2 ?_;refine zbY (by decide) ?_;refine yl (znT λkind I h' hk hI hkp hit=>?_);refine yo ⟨plainId_quiet FZ.plain_issuperset_loop _,zqr Fs hk hA hI ho _ 0 _ _ rfl hkp hit λh'' tk hk''=>?_⟩;exact q h'' tk hk''
end
section
variable{S:St0}{sh:zak}
noncomputable def zxZ(S:St0)(sh:zak)(m:String)(p:List (List Nat)->List D->PV):Prop:=
 ∀(a:Act)(ow:Nat->Option Addr)(st:Sl)(s:Shared)(v:Value)(l:List (List Nat))(vs:List Value)(ds:List D)(Q:Res->Prop)(X:Err->Prop),a.Fits S sh->Rel S sh a noX ow st s->zcN S s.heap (Pv a noX ow) v (.fset l)->znb S s.heap (Pv a noX ow) vs ds->p l ds Q X ->
  wpAny (model S.prog S.w) a.A (call (.builtin m) (v::vs)) (OkP S a ow st s Q) (zup S a st s X) s
@[reducible]noncomputable def zly(c:PE)(cs:PEs)(p:List (List Nat)->List D->PV):PE:=λQ X st=>c (λr st₁=>r.oM D.fset? λl=>cs (λrs st₂=>p l (rs.map Res.d) (λr'=>Q r' st₂) (λx=>X x st₂)) X st₁) X st
theorem zpP{o:Expr}{name:Str}{m:String}{apos pos:Pos}{e:Expr}{es:List Expr}{c:PE}{cs:PEs}{p:List (List Nat)->List D->PV}(H:zau S sh o c)(Hs:zbT S sh (e::es) cs)(P:zxZ S sh m p)
  (hsl:PySem.Slot "frozenset" name m)(hty:typeOf (.builtin m)=pure (.type "method_descriptor"))
  (hline:(apos.endLine==pos.line)=true)(hbase:∀env,attributeBase o name env (eval o env)=eval o env:=by intro;rfl)
  (hform:∀env,methodCallForm ((e::es).length+([]:List Keyword).length) (backTo pos (starEach (e::es) env)) (backToKw pos (keywordEach [] env))=true:=by intro;rfl)
  (hplain:∀env,(backTo pos (starEach (e::es) env)).any (·.1)=false:=by intro;rfl)
  (he:∀env,starEach (e::es) env=(false,eval e env)::starEach es env:=by intro;rfl):zau S sh (.Call (.Attribute o name apos) (e::es) [] pos) (zly c cs p):=λa ow st s Q X f R q=>by
 simp only[arm_eval_Call,hbase];refine yl (yt (H a ow st s _ X f R q) (λov s₁ h=>yl (yX ?_)) λ_ _ x=>x);obtain⟨r,st₁,q,K,hr⟩:=h;refine zaO (Res.fset_inv q) λl hzz q=>?_;subst hzz;obtain⟨hr,_⟩:=hr;have R1:=R.step f K;obtain⟨b,d,rfl,ho,hb,Fs⟩:=hr.inv;unfold methodCall;rw[hform];refine yl (yH (getMethod_builtin (T:="frozenset") (zbB _ ho rfl) FZ.plainAttrs_frozenset hsl hty (λc e=>by cases e;exact(zbB _ ho rfl)) ?_));have hpos:methodCallPos true o a.env apos pos=Pure.pure pos:=by unfold methodCallPos;simp[hline]
 refine yl (wpAny_of_eq hpos ?_);show wpAny _ _ (callWith pos (.builtin m) [.ref b] (backTo pos (starEach (e::es) a.env)) []) _ _ _;refine Calls.callWith_builtin (hplain _) ?_;have hb':backTo pos (starEach (e::es) a.env)=(false,eval e a.env)::backTo pos (starEach es a.env):=by rw[he];rfl
 have hgo:=Hs pos a _ st₁ s₁ _ X f R1 q;rw[hb']at hgo⊢;refine Calls.evalArgs_plain (yt hgo (λvs s₂ h=>?_) λ_ _ x=>zaP K x);refine zfB h λrs st₂ g1 g2 g3=>?_;have c2:=g3.cs;rw[zax g2.frz]at c2;have KK:=K.trans g2;have hr2:=hr.goes (R1.goes f (P':=Pv a noX (restr (restr ow st₁) st₂)) g2.keep λb _ q=>q.restr);rw[zax g2.frz]at hr2;exact yt (P a _ st₂ s₂ (.ref b) l vs _ _ _ f (R.step f KK) hr2 c2 g1) (λ_ _ x=>x.toE KK) λ_ _ x=>x.toE KK
theorem zts{c:Nat}{l:List (List Nat)}:decide ((⟨#[c]⟩:Str)∈l.map mk)=decide ([c]∈l):=
 yW.mpr ⟨λh=>by
  obtain⟨x,hx,e⟩:=List.mem_map.mp h;exact zm8 (a:=x) (b:=[c]) e▸hx,λh=>List.mem_map_of_mem (f:=mk) h⟩
noncomputable def zyW(calm:Bool):List (List Nat)->List D->PV
 |l,[.str x],Q,_=>calm=true∧Q (.pl (.bool (x.all λc=>!decide ([c]∈l))))
 |_,_,_,_=>False
noncomputable def zw5(calm:Bool):List (List Nat)->List D->PV
 |l,[.str x],Q,_=>calm=true∧Q (.pl (.bool (x.all λc=>decide ([c]∈l))))
 |_,_,_,_=>False
set_option tactic.hygienic true in
theorem zrJ:zxZ S sh "frozenset.isdisjoint" (zyW sh.calm):=λa ow st s v l vs ds Q X f R hv h q=>by
 left;rcases ds with _|⟨d,_|⟨d2,ds⟩⟩
 ·exact q.elim
 ·cases d<;>first
   |exact q.elim
   |skip
  rename_i x
  obtain⟨w,rfl,h1⟩:=zd2 h;clear h;obtain⟨u,rfl⟩:=h1.str;refine zfB (zes.fset (.inl hv)) λb d hzz ho Fs=>?_;subst hzz;refine zsG Fs (f.calm q.1).1 ho λh' tk hk=>?_;refine⟨_,q.2,⟨.refl _,.of_keeps hk,rfl,rfl⟩,?_,λz=>zaF z⟩;have e:((mk x).cps.toList.all λc=>!decide ((⟨#[c]⟩:Str)∈l.map mk))=(x.all λc=>!decide ([c]∈l)):=by
   rw[show(mk x).cps.toList=x from by simp[mk]];exact ya (λp=>x.all p) (funext λc=>ya _ zts)
  exact e▸(.bool _)
 ·clear h
  cases d<;>exact q.elim
set_option tactic.hygienic true in
theorem zq0:zxZ S sh "frozenset.issuperset" (zw5 sh.calm):=λa ow st s v l vs ds Q X f R hv h q=>by
 left;rcases ds with _|⟨d,_|⟨d2,ds⟩⟩
 ·exact q.elim
 ·cases d<;>first
   |exact q.elim
   |skip
  rename_i x
  obtain⟨w,rfl,h1⟩:=zd2 h;clear h;obtain⟨u,rfl⟩:=h1.str;refine zfB (zes.fset (.inl hv)) λb d hzz ho Fs=>?_;subst hzz;refine zqR Fs (f.calm q.1).1 ho λh' tk hk=>?_;refine⟨_,q.2,⟨.refl _,.of_keeps hk,rfl,rfl⟩,?_,λz=>zaF z⟩;have e:((mk x).cps.toList.all λc=>decide ((⟨#[c]⟩:Str)∈l.map mk))=(x.all λc=>decide ([c]∈l)):=by
   rw[show(mk x).cps.toList=x from by simp[mk]];exact ya (λp=>x.all p) (funext λc=>zts)
  exact e▸(.bool _)
 ·clear h
  cases d<;>exact q.elim
end
end
section
open Builtin
section
variable{S:St0}{sh:zak}
noncomputable def zm0(S:St0)(sh:zak)(fv:Value)(p:List D->PV):Prop:=
 ∀(a:Act)(ow:Nat->Option Addr)(st:Sl)(s:Shared)(vs:List Value)(ds:List D)(Q:Res->Prop)(X:Err->Prop),a.Fits S sh->Rel S sh a noX ow st s->znb S s.heap (Pv a noX ow) vs ds->p ds Q X ->
  wpAny (model S.prog S.w) a.A (call fv vs) (OkP S a ow st s Q) (zup S a st s X) s
@[reducible]noncomputable def peN(cs:PEs)(p:List D->PV):PE:=λQ X st=>cs (λrs st₁=>p (rs.map Res.d) (λr'=>Q r' st₁) (λx=>X x st₁)) X st
theorem zpY(D0:Std S){x:Str}{id:String}{np pos:Pos}{e:Expr}{es:List Expr}{cs:PEs}{p:List D->PV}(hx:sh.scope.names.lookup x=some .globalImplicit)(hg:S.mg x=none)(hn:x≠"__name__")(hb:bootBuiltins x=some (.builtin id))(H:zbT S sh (e::es) cs)(P:zm0 S sh (.builtin id) p)
  (hplain:∀env,(backTo pos (starEach (e::es) env)).any (·.1)=false:=by intro;rfl)(he:∀env,starEach (e::es) env=(false,eval e env)::starEach es env:=by intro;rfl)(hd:(x==("__debug__":Str))=false:=by decide):zau S sh (.Call (.Name x np) (e::es) [] pos) (peN cs p):=λa ow st s Q X f R q=>by
 show wpAny _ _ (do callWith pos (←eval (.Name x np) a.env) [] (backTo pos (starEach (e::es) a.env)) (backToKw pos (keywordEach [] a.env))) _ _ _;refine yl (zcm f hx (D0.g.keeps (R.stays f)) (D0.b.keeps (R.stays f)) hg ((D0.blt x hn).trans hb) ?_ hd);refine Calls.callWith_builtin (hplain _) ?_;have hb':backTo pos (starEach (e::es) a.env)=(false,eval e a.env)::backTo pos (starEach es a.env):=by rw[he];rfl
 have hgo:=H pos a _ st s _ X f R q;rw[hb']at hgo⊢;refine Calls.evalArgs_plain (yt hgo (λvs s₂ h=>?_) λ_ _ x=>x);refine zfB h λrs st₂ g1 K g3=>?_;rw[List.nil_append];exact yt (P a _ st₂ s₂ vs _ _ _ f (R.step f K) g3.cs g1) (λ_ _ x=>x.toE K) λ_ _ x=>x.toE K
theorem zgz(D0:Std S){x:Str}{id:String}{np pos:Pos}{e:Expr}{es:List Expr}{cs:PEs}{p:List D->PV}(hx:sh.scope.names.lookup x=some .globalImplicit)(hg:S.mg x=none)(hn:x≠"__name__")(hb:bootBuiltins x=some (.type id))(H:zbT S sh (e::es) cs)(P:zm0 S sh (.type id) p)
  (hplain:∀env,(backTo pos (starEach (e::es) env)).any (·.1)=false:=by intro;rfl)(he:∀env,starEach (e::es) env=(false,eval e env)::starEach es env:=by intro;rfl)(hd:(x==("__debug__":Str))=false:=by decide):zau S sh (.Call (.Name x np) (e::es) [] pos) (peN cs p):=λa ow st s Q X f R q=>by
 show wpAny _ _ (do callWith pos (←eval (.Name x np) a.env) [] (backTo pos (starEach (e::es) a.env)) (backToKw pos (keywordEach [] a.env))) _ _ _;refine yl (zcm f hx (D0.g.keeps (R.stays f)) (D0.b.keeps (R.stays f)) hg ((D0.blt x hn).trans hb) ?_ hd);refine PySem.callWith_type (hplain _) ?_;have hb':backTo pos (starEach (e::es) a.env)=(false,eval e a.env)::backTo pos (starEach es a.env):=by rw[he];rfl
 have hgo:=H pos a _ st s _ X f R q;rw[hb']at hgo⊢;refine Calls.evalArgs_plain (yt hgo (λvs s₂ h=>?_) λ_ _ x=>x);refine zfB h λrs st₂ g1 K g3=>?_;rw[List.nil_append];exact yt (P a _ st₂ s₂ vs _ _ _ f (R.step f K) g3.cs g1) (λ_ _ x=>x.toE K) λ_ _ x=>x.toE K
variable{a:Act}{ow:Nat->Option Addr}{st:Sl}{s:Shared}
theorem zo6{d:D}{v:Value}{Q:Res->Prop}{h':Heap}{tk:Nat}(hk:∀b o,s.heap.get? b=some o->h'.get? b=some o)(x:zcN S h' (Pv a noX ow) v d)(q:Q (.pl d))(hd:d.isExc=false:=by rfl):OkP S a ow st s Q v {s with heap:=h',toks:=tk}:=
 ⟨_,q,⟨.refl _,.of_keeps hk,rfl,rfl⟩,x,λz=>by exact zaF (hd.symm.trans z)⟩
noncomputable def zBc(ds:List D)(Q:Res->Prop)(_:Err->Prop):Prop:=one cI ds λi=>0≤i∧i≤1114111∧Q (.pl (.str [i.toNat]))
theorem zlA:zm0 S sh (.builtin "chr") zBc:=λa ow st s vs ds Q X f R h q=>by
 refine zaO (zfs q) λi e q=>?_;rw[e]at h;refine zaO (zd2 h) λv hzz h1=>?_;subst hzz;obtain⟨u,rfl⟩:=h1.int;exact chr_of_range q.1 q.2.1 (zcU R rfl q.2.2)
noncomputable def zBY(calm:Bool)(ds:List D)(Q:Res->Prop)(_:Err->Prop):Prop:=one cA ds λl=>calm=true∧∃ns:List Int,l=ns.map D.int∧Q (.pl (.int ns.sum))
theorem zuq{h:Heap}{P:Addr->Prop}:∀{vs:List Value}{ns:List Int},zaN S h P vs (ns.map D.int)->∃xs:Array (Int×Tok),vs=(intItems xs).toList∧xs.toList.map (·.1)=ns
 |vs,ns,x=>by
  induction ns generalizing vs with
  |nil=>cases x;exact zbB (#[]) (by simp[intItems]) rfl
  |cons n ns ih=>
   cases x with
   |cons a b=>
    refine zaO (ih _ b) λxs hzz e=>?_;subst hzz;cases a with
    |int _ t=>exact zbB (#[(n,t)]++xs) (by simp[intItems]) (by simp[e])
theorem zuR:zm0 S sh (.builtin "sum") (zBY sh.calm):=λa ow st s vs ds Q X f R h q=>by
 obtain⟨l,e,hc,ns,e2,q⟩:=zfs q;rw[e]at h;left;refine zaO (zd2 h) λv hzz h1=>?_;subst hzz;clear h;rw[e2]at h1;obtain⟨b,o,vs,n,rfl,g1,g2,g3,g4⟩:=h1.lst;refine zaO (zuq g4) λxs e1 e2=>?_;have e1:vs=intItems xs:=by
  have:=ya List.toArray e1;exact this
 clear g4;subst e1;refine sum_intListG (f.calm hc).1 ⟨o,g1,g2,n,g3⟩ λh' tk t' hk=>?_;have:preSum (numAt xs) xs.size=ns.sum:=by
  have hz:=nums_intItems (xs:=xs);rw[preSum_eq,List.take_of_length_le (by simp)];exact ya List.sum e2
 rw[this];exact zo6 hk (.int _ _) q
noncomputable def zjY(ds:List D)(Q:Res->Prop)(_:Err->Prop):Prop:=zuA cI cI ds (λn=>-1000000≤n∧n≤1000000∧Q (.pl (.rng ((List.range n.toNat).map λj:Nat=>.int (0+(j:Int)))))) λx y=>-1000000≤x∧x≤1000000∧-1000000≤y∧y≤1000000∧Q (.pl (.rng ((List.range (y-x).toNat).map λj:Nat=>.int (x+(j:Int)))))
theorem zkO{x y:Int}:((y-x).toNat:Int)=Builtin.Range.rangeSize x y 1:=by
 unfold Builtin.Range.rangeSize;rw[if_pos (by decide)]
 split<;>lia
theorem zn5{x y:Int}(h1:-1000000≤x)(h2:x≤1000000)(h3:-1000000≤y)(h4:y≤1000000):Builtin.Range.small x y 1=true:=by
 have hs:=zkO (x:=x) (y:=y);unfold Builtin.Range.small Builtin.Range.rangeFitsLong;rw[←hs];simp;omega
theorem zgp:zm0 S sh (.type "range") zjY:=λa ow st s vs ds Q X f R h q=>by
 have hn:s.heap.get? s.heap.objs.size=none:=yT (yr _);have mk:∀(x y:Int)(t u v:Tok)(tk:Nat),-1000000≤x->x≤1000000->-1000000≤y->y≤1000000->Q (.pl (.rng ((List.range (y-x).toNat).map λj:Nat=>.int (x+(j:Int))))) ->
   OkP S a ow st s Q (.ref s.heap.objs.size) {s with heap:=s.heap.push {cls:=.type "range",data:=.fields #[.int x t,.int y u,.int 1 v]},toks:=tk}:=λx y t u v tk h1 h2 h3 h4 q=>
  zo6 (λb o e=>yE _ e) (.rng (yI _ rfl) (R.fresh0 f hn) zkO (zn5 h1 h2 h3 h4) (zmQ _ _).symm) q
 left;rcases zkg q with⟨n,e,q1,q2,q⟩|⟨i,j,e,q1,q2,q3,q4,q⟩<;>rw[e]at h
 ·refine zaO (zd2 h) λv hzz h1=>?_
  subst hzz;clear h;refine zfc h1.int λu hzz=>?_;subst hzz;refine call_range_1 (mk 0 n _ _ _ _ (by decide) (by decide) q1 q2 ?_);rw[Int.sub_zero];exact q
 ·refine zfB (znR h) λv w hzz h1 h2=>?_
  subst hzz;clear h;refine zfc h1.int λu hzz=>?_;subst hzz;refine zfc h2.int λu' hzz=>?_;subst hzz;exact call_range_2 (mk i j _ _ _ _ q1 q2 q3 q4 q)
noncomputable def zBS(d1 d2:D)(Q:Res->Prop)(_:Err->Prop):Prop:=zyO d1 d2 λx y=>2≤x∧0≤y∧x≤1000000000∧y≤10000∧Q (.pl (.int (x^y.toNat)))
theorem zx2{x y:Int}(h1:2≤x)(h2:0≤y)(h3:x≤1000000000)(h4:y≤10000):(Builtin.Int.intBits x:Int)*y≤300000:=by
 have hb:Builtin.Int.intBits x≤30:=by
  unfold Builtin.Int.intBits
  split
  ·decide
  ·have:x.natAbs.log2<30:=(Nat.log2_lt (by omega)).mpr (by omega)
   lia
 exact Int.mul_le_mul (yV.mpr hb) h4 h2 (by decide)
theorem zvZ:zc8 S sh (binaryOp .Pow) zBS:=λa ow st s v1a v2a d1 d2 Q X f R h1 h2 q=>by
 left;obtain⟨x,y,e1,e2,q1,q2,q3,q4,q⟩:=zed q;rw[e1]at h1;rw[e2]at h2;refine zfc h1.int λt hzz=>?_;subst hzz;refine zfc h2.int λu hzz=>?_;subst hzz;have hp:=zx2 q1 q2 q3 q4;clear h1 h2 e1 e2;clear q4;by_cases hy:y=0
 ·subst hy
  exact AutoIntOps.pow_0 (by clear hp R;omega) rfl (zbI R (by simpa using q))
 ·refine AutoIntOps.pow_4 q2 (by simpa using hy) (by clear hp R q;simp;lia) (by clear hp R q;simp;lia) ?_ (zbI R q)
  have h3:(300000:Int)≤bitsLine:=by right
  unfold Builtin.Int.intTooBig;rw[decide_eq_true_eq];exact xd.mpr (Int.le_trans hp h3)
end
end
section
open Builtin
section
variable{S:St0}{sh:zak}{a:Act}{ow:Nat->Option Addr}{st:Sl}{s:Shared}
theorem zmp{o:Obj}{c:Value}{d:Data}(hc:o.cls=c)(hd:o.data=d):o={cls:=c,dict:=o.dict,data:=d,slots:=o.slots}:=by
 cases o;simp only at hc hd;subst hc hd;rfl
noncomputable def zde:D->D->PV
 |.lst x,.lst y,Q,_=>x.length+y.length≤LIM∧Q (.fr (x++y))
 |.tup x,.tup y,Q,_=>x.length+y.length≤LIM∧Q (.pl (.tup (x++y)))
 |d,e,Q,X=>zzL d e Q X
theorem zsd(f:a.Fits S sh)(R:Rel S sh a noX ow st s){v1a v2a:Value}{x y:List D}{Q:Res->Prop}(h1:zes S s.heap (Pv a noX ow) v1a (.tup x))(h2:zes S s.heap (Pv a noX ow) v2a (.tup y))(hl:x.length+y.length≤LIM)(q:Q (.pl (.tup (x++y)))){E:Value->Shared->Prop} :
  wpAny (model S.prog S.w) a.A (call (.builtin "tuple.__add__") [v1a,v2a]) (OkP S a ow st s Q) E s:=by
 left;obtain⟨b,o,vs,n,rfl,g1,g2,g3,g4⟩:=h1.tup;obtain⟨b',o',ws,n',rfl,k1,k2,k3,k4⟩:=h2.tup;have ho:=zmp g2 g3;have ho':=zmp k2 k3;clear h2;rw[ho]at g1;clear h1;rw[ho']at k1;have e1:vs.size=x.length:=by rw[←g4.length];simp
 have e2:ws.size=y.length:=by rw[←k4.length];simp
 left;by_cases hv:vs.isEmpty=true
 ·refine call_meets PySem.F.slot_tuple_add (zbB _ g1 rfl) PySem.F.entry_tuple_add (PySem.F.args_tuple_add_2 _ _) (tuple_addW0 b b' vs ws n n' _ _ _ _ hv) ⟨g1,k1,?_⟩
  have hx:x=[]:=yM (e1.symm.trans (yF hv));subst hx;exact okP (tk:=s.toks) R (.tup k1 rfl rfl k4) q
 ·by_cases hw:ws.isEmpty=true
  ·refine call_meets PySem.F.slot_tuple_add ⟨_,g1,rfl⟩ PySem.F.entry_tuple_add (PySem.F.args_tuple_add_2 _ _) (tuple_addW1 b b' vs ws n n' _ _ _ _ hv hw) ⟨g1,k1,?_⟩
   have hy:y=[]:=yM (e2.symm.trans (yF hw));clear e2 k4 hl;subst hy;rw[List.append_nil]at q;exact okP (tk:=s.toks) R (.tup g1 rfl rfl g4) q
  ·refine call_meets PySem.F.slot_tuple_add ⟨_,g1,rfl⟩ PySem.F.entry_tuple_add (PySem.F.args_tuple_add_2 _ _) (tuple_addW2 b b' vs ws n n' _ _ _ _ hv hw (by rw[e1,e2];exact zez hl)) ⟨g1,k1,?_⟩
   have hk:∀b o,s.heap.get? b=some o->(s.heap.push {cls:=.type "tuple",data:=.seq (vs++ws)}).get? b=some o:=λb o e=>yE _ e;refine⟨_,q,⟨.refl _,.of_keeps hk,rfl,rfl⟩,.tup (yI _ rfl) rfl rfl ?_,λz=>zaF z⟩;rw[Array.toList_append];exact zaN.append (k4.goes (R.goes f (.of_keeps hk) λ_ _ q=>q)) (g4.goes (R.goes f (.of_keeps hk) λ_ _ q=>q))
theorem zhB{h:Heap}{P:Addr->Prop}{v:Value}{x:List D}{s:Shared}(hs:s.heap=h)(h1:zes S h P v (.tup x)):s.TypeIs v "tuple":=by
 obtain⟨b,o,vs,n,rfl,g1,g2,g3,g4⟩:=h1.tup;exact zbB o (hs▸g1) g2
set_option tactic.hygienic true in
theorem zan:zc8 S sh (binaryOp .Add) zde:=λa ow st s v1a v2a d1 d2 Q X f R h1 h2 q=>by
 cases d1<;>first
  |exact zvq a ow st s v1a v2a _ _ Q X f R h1 h2 q
  |skip
 case tup x=>
  cases d2<;>first
   |exact q.elim
   |skip
  exact wpAny_binaryOp_concat (zhB rfl h1) (zhB rfl h2) noFill_tuple_add seq_tuple_add (zsd f R h1 h2 q.1 q.2)
 case lst x=>
  cases d2<;>first
   |exact q.elim
   |skip
  rename_i y
  refine zb0 q λhl q=>?_;left;obtain⟨b,o,vs,n,rfl,g1,g2,g3,g4⟩:=h1.lst;obtain⟨b',o',ws,n',rfl,k1,k2,k3,k4⟩:=h2.lst;have ho:=zmp g2 g3;have ho':=zmp k2 k3;rw[ho]at g1;rw[ho']at k1;have e1:vs.size=x.length:=by rw[←g4.length];simp
  have e2:ws.size=y.length:=by rw[←k4.length];simp
  refine concat_meets (zbB _ g1 rfl) (zbB _ k1 rfl) noFill_list_add seq_list_add PySem.F.slot_list_add PySem.F.entry_list_add (PySem.F.args_list_add_2 _ _) (list_addW b b' vs ws n n' _ _ _ _ (by rw[e1,e2];exact zez hl)) ⟨g1,k1,?_⟩;have hk:∀b o,s.heap.get? b=some o->(s.heap.push {cls:=.type "list",data:=.seq (vs++ws)}).get? b=some o:=λb o e=>yE _ e;have hn:s.heap.get? s.heap.objs.size=none:=yT (yr _);have G:zeY S s.heap (s.heap.push {cls:=.type "list",data:=.seq (vs++ws)}) (Pv a noX ow) (Pv a (λc=>c=s.heap.objs.size) ow):=zgd λb hb q=>by
   rcases q with q|q|q|q
   ·exact .inl q
   ·exact .inr (.inl q)
   ·rw[q,hn]at hb;exact zaF hb
   ·exact .inr (.inr (.inr q))
  refine⟨_,q,⟨.refl _,.of_keeps hk,rfl,rfl⟩,_,_,_,_,rfl,hn,yI _ rfl,rfl,rfl,?_,rfl⟩;rw[Array.toList_append];exact zaN.append (k4.goes G) (g4.goes G)
noncomputable def zec:D->D->PV
 |.tup x,.tup y,Q,_=>x.length+y.length≤LIM∧Q (.pl (.tup (x++y)))
 |d,e,Q,X=>zzL d e Q X
theorem zlZ:typeLookup (.type "tuple") (dunderI "add")=pure none:=by rw[typeLookup_type,builtinLookup_eq_fast];kernel_rfl
set_option tactic.hygienic true in
theorem zaU:zc8 S sh (inplaceOp .Add) zec:=λa ow st s v1a v2a d1 d2 Q X f R h1 h2 q=>by
 cases d1<;>first
  |exact zs4 a ow st s v1a v2a _ _ Q X f R h1 h2 q
  |skip
 case tup x=>
  cases d2<;>first
   |exact q.elim
   |skip
  exact wpAny_inplaceOp_concat (zhB rfl h1) (zhB rfl h2) zlZ noFill_tuple_add seq_tuple_add (zsd f R h1 h2 q.1 q.2)
noncomputable def zAb(x:List Nat)(n:Int):List Nat:=(List.replicate n.toNat x).flatten
noncomputable def zzd(d e:D)(Q:Res->Prop)(_:Err->Prop):Prop:=oM d.str? λx=>oM e.int? λn=>n≤1000000∧-1000000≤n∧x.length*n.toNat≤LIM∧Q (.pl (.str (zAb x n)))
theorem ztg(x:List Nat):∀(n:Nat)(acc:Array Nat),(List.replicate n (mk x).cps).foldl (·++·) acc=acc++((List.replicate n x).flatten).toArray
 |0,acc=>rfl
 |n+1,acc=>by
  rw[List.replicate_succ,List.foldl_cons,ztg x n,List.replicate_succ,List.flatten_cons];simp[mk]
set_option tactic.hygienic true in
theorem zxK(x:List Nat)(n:Int):Txt.mul (mk x) n=mk (zAb x n):=by
 unfold Txt.mul zAb;by_cases h1:n<1
 ·rw[if_pos h1,show n.toNat=0 by lia];rfl
 ·rw[if_neg h1]
  split
  ·rename_i h
   clear h1;rw[zaI,Bool.or_eq_true]at h;rcases h with h|h
   ·have:n=1:=by exact yF h
    clear h;subst this;simp
   ·have:x=[]:=yM (by exact yF h)
    clear h;subst this;rw[show(List.replicate n.toNat ([]:List Nat)).flatten=[]from by simp]
  ·rw[ztg];simp[mk]
theorem zyb{x:List Nat}{n:Int}(q1:n≤1000000)(q3:x.length*n.toNat≤LIM)(h1:0<n):(x.length:Int)≤(2^63-1)/n:=by
 refine Int.le_ediv_of_mul_le h1 ?_;obtain⟨m,rfl⟩:=Int.eq_ofNat_of_zero_le (Int.le_of_lt h1);have h5:x.length*m≤1000000:=q3;exact Int.le_trans (yV.mpr h5) (by decide)
theorem zsF{n:Int}(q1:n≤1000000)(q2:-1000000≤n):(decide (n < -(2^63:Int))||decide (n ≥ 2^63))=false:=by
 rw[decide_eq_false (Int.not_lt.mpr (Int.le_trans (by decide) q2)),decide_eq_false (Int.not_le.mpr (Int.lt_of_le_of_lt q1 (by decide)))];rfl
theorem zpj:zc8 S sh (binaryOp .Mult) zzd:=λa ow st s v1a v2a d1 d2 Q X f R h1 h2 q=>by
 refine zaO (oM_inv q) λx e1 q=>?_;refine zCm (oM_inv q) λn e2 q1 q2 q3 q=>?_;rw[D.str?_inv e1]at h1;rw[D.int?_inv e2]at h2;obtain⟨t,rfl⟩:=h1.str;obtain⟨u,rfl⟩:=h2.int;refine SB.mul ⟨zsF q1 q2,λh1 h2 h3=>?_,λh1 h2=>?_⟩ λt' k=>zcU R (zxK x n) q
 ·rw[zaI]at h3
  exact absurd h3 (xd.mpr (zyb q1 q3 (Int.lt_of_lt_of_le (by decide:(0:Int)<1) (xd.mp h1))))
 ·rw[zaI]
  unfold Builtin.Str.tooLong;exact yx (yg.mpr (zez q3))
@[reducible]noncomputable def zoP(c₁ c₂ c3:PE)(p1 p2:D->D->PV):PE:=λQ X st=>c₁ (λr1 st₁=>c₂ (λr2 st₂=>p1 r1.d r2.d (λr=>r.oM D.bool? λb=>ifB b (c3 (λr3 st3=>p2 r2.d r3.d (λr'=>Q r' st3) (λx=>X x st3)) X st₂) (Q (.pl (.bool false)) st₂)) (λx=>X x st₂)) X st₁) X st
theorem zpt{l m r:Expr}{o1 o2 pos}{c₁ c₂ c3a:PE}{p1 p2:D->D->PV}(H1a:zau S sh l c₁)(H2:zau S sh m c₂)(H3:zau S sh r c3a)(P1:zc8 S sh (compareOp o1) p1)(P2:zc8 S sh (compareOp o2) p2)(hm:lastMarks [o1,o2] [m,r]=false:=by with_unfolding_all rfl) :
  zau S sh (.Compare l [o1,o2] [m,r] pos) (zoP c₁ c₂ c3a p1 p2):=λa ow st s Q X f R q=>by
 refine Compare_chain (yt (H1a a ow st s _ X f R q) (λv1a s₁ h=>?_) λ_ _ x=>x) hm;left;obtain⟨r1,st₁,h1,h2,h3⟩:=h;have R1:=R.step f h2;refine chain_link (yt (H2 a _ st₁ s₁ _ X f R1 h1) (λv2a s₂ h=>?_) λ_ _ x=>zaP h2 x);left;obtain⟨r2,st₂,g1,g2,g3⟩:=h;have K:=h2.trans g2;have R2:=R.step f K;have c1:=h3.c.step f R1 g2;have c2:=g3.c;rw[zax g2.frz]at c1 c2;refine yt (P1 a _ st₂ s₂ _ _ r1.d r2.d _ _ f R2 c1 c2 g1) (λv3 s3a h=>?_) λ_ _ x=>x.toE K;refine zcM h λr hq K3 hr=>?_;refine zaO (Res.bool_inv hq) λb hzz hq=>?_;subst hzz;obtain⟨hr,_⟩:=hr;have KK:=K.trans K3;obtain rfl:=hr.inv;refine wpAny_truthy_bool ?_;clear hr
 induction b with
 |false=>exact⟨_,st₂,(ziL hq),KK,.bool _,λz=>zaF z⟩
 |true=>
  show wpAny _ _ _ _ _ _;have R3:=R.step f KK;refine chain_last (yt (H3 a _ st₂ s3a _ X f R3 (ziG hq)) (λv4a s4a h=>?_) λ_ _ x=>zaP KK x);left;obtain⟨r3,st3,k1,k2,k3⟩:=h;have KKK:=KK.trans k2;have c2':=(c2.step f R2 K3);rw[zax (Frz.refl st₂)]at c2';have c2'':=c2'.step f R3 k2;have c3:=k3.c;rw[zax k2.frz]at c2'' c3;exact yt (P2 a _ st3 s4a _ _ r2.d r3.d _ _ f (R.step f KKK) c2'' c3 k1) (λ_ _ x=>x.toE KKK) λ_ _ x=>x.toE KKK
end
end
end Mine.Internal
end
section
open PySem PySem.W PySem.Calls PyProof.Rows
set_option tactic.hygienic false
set_option genInjectivity false
set_option genSizeOfSpec false
set_option maxRecDepth 100000
open Builtin NumText
namespace Mine.Internal
section
noncomputable def ztA(c:Nat):Nat:=(NumText.digit? c).getD 0
noncomputable def zeR(c:Nat):Bool:=(48≤c&&c≤57)||(97≤c&&c≤102)||(65≤c&&c≤70)
noncomputable def ze4(l:List Nat):Nat:=l.foldl (λacc c=>acc*16+ztA c) 0
theorem zw2{c:Nat}(h:zeR c=true):c<128:=by
 rcases Nat.lt_or_ge c 128 with q|q
 ·exact q
 ·have hn:∀n,n<128->decide (c≤n)=false:=λn hn=>yx λz=>yg.mpr q (yY z hn)
  have:zeR c=false:=by
   unfold zeR;simp only[hn 57 (by decide),hn 102 (by decide),hn 70 (by decide)];simp only[Bool.and_false,Bool.or_false]
  exact zaF (this.symm.trans h)
theorem zf4{c:Nat}(h:zeR c=true):(c==95)=false∧NumText.blank c=false∧(c==120||c==88)=false∧c≠43∧c≠45∧48≤c∧c<128:=by
 have:∀c:Fin 128,zeR c.1=true->(c.1==95)=false∧NumText.blank c.1=false∧(c.1==120||c.1==88)=false∧c.1≠43∧c.1≠45∧48≤c.1∧c.1<128:=by right
 exact this ⟨c,zw2 h⟩ h
theorem zoz{c:Nat}(h:zeR c=true):NumText.digit? c=some (ztA c)∧ztA c<16:=by
 have:∀c:Fin 128,zeR c.1=true->NumText.digit? c.1=some (ztA c.1)∧ztA c.1<16:=by right
 exact this ⟨c,zw2 h⟩ h
theorem znV:∀(l:List Nat)(ds:Array Nat)(b:Bool),l.all zeR=true->l.foldlM (NumText.step 16) (ds,b)=some (ds++(l.map ztA).toArray,if l=[]then b else true)
 |[],ds,b,_=>rfl
 |c::l,ds,b,h=>by
  simp only[List.all_cons,Bool.and_eq_true]at h;refine zb0 (zoz h.1) λe hd=>?_;rw[List.foldlM_cons];have h95:(c==95)=false:=(zf4 h.1).1;have hs:NumText.step 16 (ds,b) c=some (ds.push (ztA c),true):=by
   unfold NumText.step;rw[h95];simp only[Bool.false_eq_true,if_false];rw[e];dsimp only;rw[if_pos hd]
  rw[hs];refine(znV l _ true h.2).trans ?_;simp
set_option tactic.hygienic true in
theorem zvd{l:List Nat}(hl:l.all zeR=true)(hne:l≠[]):(int_private% "readNumeral") 0 16 l=(int_private% "Numeral.value") (ze4 l:Int):=by
 refine(readNumeral_eq 0 16 l).trans ?_;have hx:∀c∈l,zeR c=true:=yO.mp hl;have nb:∀c,zeR c=true->NumText.blank c=false:=λc h=>by
  exact(zf4 h).2.1
 have d0:l.dropWhile NumText.blank=l:=by
  clear hl
  induction l with
  |nil=>rfl
  |cons c r=>rw[List.dropWhile_cons,nb c (hx c List.mem_cons_self)];rfl
 have s0:NumText.sign l=(false,l):=by
  clear d0 hl
  induction l with
  |nil=>rfl
  |cons c r=>
   have h:=zf4 (hx c yq);unfold NumText.sign
   split
   ·rename_i e;injection e with e1 e2;first|exact absurd e1 h.2.2.2.1|exact absurd e1 h.2.2.2.2.1
   ·rename_i e;injection e with e1 e2;first|exact absurd e1 h.2.2.2.1|exact absurd e1 h.2.2.2.2.1
   ·rfl
 have b0:NumText.based 16 l=(16,false,l):=by
  unfold NumText.based
  split
  ·rename_i p hp
   have hp16:p≠16:=by
    unfold NumText.prefix? at hp
    split at hp
    ·rename_i c r
     have:(c==120||c==88)=false:=(zf4 (hx c (by simp))).2.2.1;rw[this]at hp;simp only[Bool.false_eq_true,if_false]at hp
     split at hp
     ·left
      obtain rfl:=yj hp;decide
     ·split at hp
      ·obtain rfl:=yj hp;decide
      ·exact zae hp
    ·exact zae hp
   have:((16:Nat)==0||(16:Nat)==p)=false:=by rw[beq_false_of_ne (Ne.symm hp16)];rfl
   rw[this];rfl
  ·rfl
 have r0:(l.reverse.dropWhile NumText.blank).reverse=l:=by
  have:l.reverse.dropWhile NumText.blank=l.reverse:=by
   cases hr:l.reverse with
   |nil=>rfl
   |cons c r=>
    have hc:c∈l:=by rw[←List.mem_reverse,hr];exact yq
    rw[List.dropWhile_cons,nb c (hx c hc)];rfl
  rw[this,List.reverse_reverse]
 have g0:NumText.digits? 16 l=some (l.map ztA).toArray:=by
  unfold NumText.digits?;rw[znV l #[] false hl];simp[hne]
 rw[d0,s0];dsimp only;rw[b0];dsimp only;rw[r0,g0];have e1:(![2,4,8,16,32].contains 16&&(0:Nat) != 0&&decide ((l.map ztA).toArray.size > 0))=false:=by rfl
 have e2:((16:Nat)==10&&decide ((l.map ztA).toArray.size > 6000))=false:=by rfl
 have e3:(l.map ztA).toArray.foldl (λacc d=>acc*16+d) 0=ze4 l:=by
  unfold ze4;rw[List.foldl_toArray,List.foldl_map]
 unfold NumText.judge;dsimp only;refine(if_neg (by rw[e1];exact yD)).trans ((if_neg (by rw[e2];exact yD)).trans ?_);rw[e3];rfl
end
namespace HX
theorem zrH{M:Model}{A:Around}{E:Value->Shared->Prop}{s:Shared}{Q:Value->Shared->Prop}{v:Value}{text:List Nat}{n:Int}
  (hs:(text.takeWhile (· != 0)).length≤640)(hr:(int_private% "readNumeral") 0 16 (text.takeWhile (· != 0))=(int_private% "Numeral.value") n)
  (ha:((text.takeWhile (· != 0)).length==text.length)=true)(h:Q (.int n s.toks) {s with toks:=s.toks+1}) :
  wpAny M A ((int_private% "intFromText") v text 16) Q E s:=by
 obtain⟨hp,g,d,tk,os⟩:=s
 repeat (any_goals (first
  |assumption
  |(with_reducible refine wpAny_ite_true (yv hs) ?_)
  |(with_reducible refine wpAny_ite_true (yv ha) ?_)
  |wp_step))
 all_goals (try rw[hr])
 all_goals (try dsimp only)
 repeat (any_goals (first
  |assumption
  |(with_reducible refine wpAny_ite_true (yv hs) ?_)
  |(with_reducible refine wpAny_ite_true (yv ha) ?_)
  |wp_step))
structure Hid(p:Prop):Prop where
 out:p
set_option maxHeartbeats 4000000 in
theorem gives_text16{x:PySem.Str}{u v:Tok}{n:Int}(hs:(numSeenOf x).length≤640)(hr:(int_private% "readNumeral") 0 16 (numSeenOf x)=(int_private% "Numeral.value") n)(ha:((numSeenOf x).length==(numTextOf x).length)=true):Gives (Builtin.«int.__new__» ⟨[.type "int",.str x u,.int 16 v],[]⟩) (.int n):=
 .of_wp λM A E s Q h=>by
  obtain⟨hp,g,d,tk,os⟩:=s;have f1:=F.conv_sub_int;have f2:=F.madeHere_int;have f3:=W.KIN.str_int;have f4:=W.KIN.str_idx;have f5:=W.KIN.str_trunc;have f6:typeOf (.str x u)=pure (.type "str"):=rfl;have hk:=Hid.mk (ym hs (ym hr ha));clear hs hr ha
  repeat (any_goals (first
   |assumption
   |((with_reducible show wpAny _ _ ((int_private% "intFromText") _ _ _) _ _ _);refine zrH hk.out.1 hk.out.2.1 hk.out.2.2 ?_)
   |wp_step))
  all_goals first|exact(zbB _ rfl h)|skip
theorem zkF(a b:Value):checkTypeCall "int" ⟨[a,b],[]⟩=pure ():=by kernel_rfl
theorem zmh(a b:Value):checkBuiltinCall "int.__new__" ⟨[.type "int",a,b],[]⟩=pure ():=by kernel_rfl
theorem zoo(o a b:Value):argsOk "object.__init__" ⟨[o,a,b],[]⟩:=by kernel_rfl
theorem call_int_2{prog:Program}{w:World}{A:Around}{E:Value->Shared->Prop}{s:Shared}{x y:Value}{S:PySem.Spec}{Q:Value->Shared->Prop}(g:Meets (Builtin.«int.__new__» ⟨[.type "int",x,y],[]⟩) S)(h:S A.in1 (wants (λobj s₁=>s₁.TypeIs obj "int"∧Q obj s₁) E) s) :
  wpAny (model prog w) A (call (.type "int") [x,y]) Q E s:=
 callType_new F.called_int F.newNe_int (zkF x y) (zmh x y) (λobj=>zoo obj x y) F.entry_int_new g h
end HX
theorem zuS{l:List Nat}(h:l.all zeR=true):numTextOf (mk l)=l∧numSeenOf (mk l)=l:=by
 have hx:∀c∈l,48≤c∧c<128:=λc hc=>(zf4 (yO.mp h c hc)).2.2.2.2.2;have e1:numTextOf (mk l)=l:=by
  unfold numTextOf;rw[if_pos (by simp only[mk];simp;intro c hc;exact(hx c hc).2)];simp[mk]
 refine⟨e1,?_⟩;unfold numSeenOf;rw[e1];have tw:∀l:List Nat,(∀c∈l,c≠0)->l.takeWhile (· != 0)=l:=λl=>by
  induction l with
  |nil=>intro _;rfl
  |cons c r ih=>intro h;rw[List.takeWhile_cons,if_pos (by simpa using h c List.mem_cons_self),ih λd hd=>h d (List.mem_cons_of_mem _ hd)]
 exact tw l λc hc=>Nat.ne_of_gt (yA (by decide) (hx c hc).1)
section
variable{S:St0}{sh:zak}
noncomputable def zzJ(d:D)(Q:Res->Prop):Prop:=match d with
 |.int n=>Q (.pl (.int n))
 |.str x=>x.length≤640∧∃n,PySem.intText? (mk x)=some n∧Q (.pl (.int n))
 |_=>False
noncomputable def intD(ds:List D)(Q:Res->Prop)(_:Err->Prop):Prop:=match ds with
 |[]=>False
 |d::ds=>match ds with
  |[]=>zzJ d Q
  |e::ds=>Mine.Internal.zy8 ds (Mine.Internal.oM d.str? λx=>Mine.Internal.oM e.int? λb=>b=16∧x≠[]∧x.all zeR=true∧x.length≤640∧Q (.pl (.int (ze4 x))))
theorem zmg:zm0 S sh (.type "int") intD:=λa ow st s vs ds Q X f R h q=>by
 cases ds with
 |nil=>exact q.elim
 |cons d ds=>
  cases ds with
  |nil=>
   left;refine zaO (zd2 h) λv hzz h1=>?_;subst hzz;clear h;cases d with
   |int n=>
    obtain⟨u,rfl⟩:=h1.int;exact call_int_int (zbI (tk:=s.toks) R q)
   |str x=>
    obtain⟨u,rfl⟩:=h1.str;obtain⟨hl,n,hn,q⟩:=q;exact W.KIN.call_text hn (by rw[zaI];exact hl) (zbI R q)
   |_=>exact q.elim
  |cons e ds=>
   obtain⟨e1,q⟩:=zi4 q;left;refine zaO (oM_inv q) λx e2 q=>?_;refine zCG (oM_inv q) λb e3 hb hne hx hl q=>?_;simp only[e1,D.str?_inv e2,D.int?_inv e3,hb]at h;refine zfB (znR h) λv w hzz h1 h2=>?_;subst hzz;clear h;obtain⟨u,rfl⟩:=h1.str;obtain⟨u',rfl⟩:=h2.int;refine zb0 (zuS hx) λe1 e2=>?_;exact HX.call_int_2 (HX.gives_text16 (n:=ze4 x) (e2.symm▸hl) (by rw[e2];exact zvd hx hne) (by rw[e1,e2];simp)).meets (show(Made.int (ze4 x)).post _ s from⟨rfl,zbI R q⟩)
end
end Mine.Internal
end
section
open PySem PySem.W PySem.Calls PyProof.Rows
set_option tactic.hygienic false
set_option genInjectivity false
set_option genSizeOfSpec false
set_option maxRecDepth 100000
namespace Mine.Internal
section
variable{S:St0}{sh:zak}
@[reducible]noncomputable def zwo(c:PE):PE:=λQ X st=>c (λr st₁=>r.oM D.str? λm=>Q (.pl (.exc .toml m)) st₁) X st
theorem zxj(D0:Std S){np pos:Pos}{e:Expr}{c:PE}(hx:sh.scope.names.lookup (ofString "TOMLDecodeError")=some .globalImplicit)(H:zau S sh e c)
  (hs:∀env,backTo pos (starEach [e] env)=[(false,eval e env)]:=by intro;rfl):zau S sh (.Call (.Name "TOMLDecodeError" np) [e] [] pos) (zwo c):=λa ow st s Q X f R q=>by
 refine zfc D0.own λC O=>?_;have k:=R.stays f;show wpAny _ _ (do callWith pos (←eval (.Name "TOMLDecodeError" np) a.env) [] (backTo pos (starEach [e] a.env)) (backToKw pos (keywordEach [] a.env))) _ _ _;refine yl (zfe f hx (D0.g.keeps k) O.bound ?_);rw[hs];show wpAny _ _ (callWith pos (.ref C) [] [(false,eval e a.env)] []) _ _ _;unfold callWith;refine yl (yH (Calls.evalArgs_plain (Calls.spliced_cons (yt (H a ow st s _ X f R q) (λv s₁ h1=>Calls.spliced_nil (yl (yX ?_))) λ_ _ x=>x))));left;obtain⟨r,st₁,hq,K,hr⟩:=h1;refine zaO (Res.str_inv hq) λm hzz hq=>?_;subst hzz;obtain⟨hr,_⟩:=hr;have R1:=R.step f K;obtain⟨zz,hC,hN,hqn,OT⟩:=zgR (O.keeps (R1.stays f));have hcls:S.cls .toml=.ref C:=St0.cls_toml O.bound;refine zfc hr.inv λt hzz=>?_;subst hzz;clear hr;obtain⟨hp,g,dr,tk,os⟩:=s₁;refine yl (wpAny_keeperOf_exc hC ?_);refine yl (wpAny_call_exc_subT F.excBase_ValueError OT.tail hC hN (hqn _ (.head _)) (λh' e' hm=>yl (yH (wpAny_point (yo ?_)))) (by show 1≤sizeLine;decide));refine zcM hm.there λt' z1 z2 z3=>?_;have hn:=hm.new;refine⟨.pl (.exc .toml m),st₁,hq,K.trans ⟨.refl _,.of_keeps hm.keeps,rfl,rfl⟩,.exc (hcls▸z1) ?_ z3 rfl ⟨0,rfl⟩,λ_=>(zbB e' rfl (K.keep.new hn))⟩;exact λp=>R1.fresh0 f hn p
end
end Mine.Internal
end
section
open PySem PySem.W PySem.Calls PyProof.Rows
set_option tactic.hygienic false
set_option maxRecDepth 100000
namespace Mine.Internal
namespace MPX
theorem slot_getitem:PySem.Slot "mappingproxy" "__getitem__" "mappingproxy.__getitem__":=
 PySem.Slot.of (owner:="mappingproxy") (n:="__getitem__") (by rw[typeLookup_type,builtinLookup_eq_fast];kernel_rfl) (by right) (by right) (by right)
  (by first|exact .inl (by right)|exact .inr (by right)) (by rw[isSubtype_type];kernel_rfl)
theorem entry_getitem:entryFor table "mappingproxy.__getitem__"=some Builtin.«mappingproxy.__getitem__»:=entryFor_of_tree (by kernel_rfl)
theorem args_getitem(a b:Value):argsOk "mappingproxy.__getitem__" ⟨[a,b],[]⟩:=by unfold argsOk;kernel_rfl
end MPX
noncomputable def lkp(l:List (List Nat×List Nat))(k:List Nat):Option (List Nat):=match l with
 |[]=>none
 |p::r=>if p.1=k then some p.2 else lkp r k
theorem zn9{k v:List Nat}:∀{l:List (List Nat×List Nat)},lkp l k=some v->(k,v)∈l
 |[],h=>zae h
 |p::r,h=>by
  by_cases e:p.1=k
  ·have h:(if p.1=k then some p.2 else lkp r k)=some v:=h
   rw[if_pos e]at h;obtain rfl:=yj h;exact e▸yq
  ·have h:(if p.1=k then some p.2 else lkp r k)=some v:=h
   rw[if_neg e]at h;exact yn _ (zn9 h)
noncomputable def zu5(k:List Nat):Option (List Nat):=lkp zff k
inductive zCT(S:St0)(M D:Addr)(oM:Obj)(vs:Array Value)(f:Str->Option Value):Prop
 |mk (qa:S.mg "BASIC_STR_ESCAPE_REPLACEMENTS"=some (.ref M)) (qb:S.base.get? M=some oM) (qc:oM.cls=.type "mappingproxy") (qd:oM.data=.fields vs) (qe:vs[0]?=some (.ref D)) (qf:(D==sysModules)=false) (qg:S.base.MapOf (PySem.strKind S.prog S.w) D f) (qh:∀k v,zu5 k=some v->∃t,f (mk k)=some (.str (mk v) t)) (qi:∀k,zu5 k=none->f (mk k)=none)
noncomputable def zav(S:St0):Prop:=∃M D oM vs f,zCT S M D oM vs f
section
variable{S:St0}{sh:zak}
@[irreducible]noncomputable def zvS{α:Type}(o:Option α)(P:α->Prop)(N:Prop):Prop:=match o with
 |some v=>P v
 |none=>N
theorem zv5{α:Type}{o:Option α}{P:α->Prop}{N:Prop}{v:α}(e:o=some v)(k:P v):zvS o P N:=by subst e;unfold zvS;exact k
theorem zvV{α:Type}{o:Option α}{P:α->Prop}{N:Prop}(e:o=none)(k:N):zvS o P N:=by subst e;unfold zvS;exact k
theorem ztj{α:Type}{P:α->Prop}{N:Prop}{v:α}(h:zvS (some v) P N):P v:=by unfold zvS at h;exact h
theorem zry{α:Type}{P:α->Prop}{N:Prop}(h:zvS none P N):N:=by unfold zvS at h;exact h
@[reducible]noncomputable def zx0(calm:Bool)(c:PE):PE:=λQ X st=>c (λr st₁=>r.oM D.str? λk=>zvS (zu5 k) (λv=>Q (.pl (.str v)) st₁) (calm=true∧∀m,X (.key,m) st₁)) X st
theorem MapOf.stays{prog:Program}{w:World}{K:Type}[DecidableEq K]{knd:PySem.KeyKind prog w K}{h h':Heap}{d:Addr}{f:K->Option Value}(m:h.MapOf knd d f)(k:h.StaysIn h'):h'.MapOf knd d f:=by
 refine zBq m λo es ep h1 h2=>?_;exact zw4 o es ep (k _ _ h1) h2
theorem zAe(D0:Std S)(E0:zav S){p pos:Pos}{e:Expr}{c:PE}(hx:sh.scope.names.lookup (ofString "BASIC_STR_ESCAPE_REPLACEMENTS")=some .globalImplicit)(H:zau S sh e c)
  (hsub:∀o i,subscripted e false o i=operate [o,i] (getItem o i):=by intros;rfl):zau S sh (.Subscript (.Name "BASIC_STR_ESCAPE_REPLACEMENTS" p) e pos) (zx0 sh.calm c):=λa ow st s Q X f R q=>by
 obtain⟨M,D,oM,vs,fm,e1,e2,e3,e4,e5,e6,e7,e8,e9⟩:=E0;rw[eval_Subscript];refine yl (zfe f hx (D0.g.keeps (R.stays f)) e1 (yl (yH ?_)));refine yt (H a ow st s _ X f R q) (λv2a s₂ h=>yl (yX ?_)) λ_ _ x=>x;left;obtain⟨r,st₁,hq0,K,hr⟩:=h;refine zaO (Res.str_inv hq0) λk hzz hq=>?_;subst hzz;clear hq0;obtain⟨hr,_⟩:=hr;have R1:=R.step f K;have stay:=R1.stays f;have hT:s₂.TypeIs (.ref M) "mappingproxy":=(zbB oM (stay _ _ e2) e3);have sp:wpAny (model S.prog S.w) a.A (getitemInPython (.ref M)) (λb s'=>b=false∧s'=s₂) (λ_ _=>False) s₂:=by
  rw[getitemInPython_of_ne hT.not_modules];exact yl (wpAny_specialOf hT MPX.slot_getitem.lookup (yo ⟨rfl,rfl⟩))
 refine yl (yt sp (λb s' ⟨h1,h2⟩=>?_) λ_ _ x=>x.elim);clear sp;subst h1 h2;rw[hsub];refine zfc hr.inv λt hzz=>?_;subst hzz;have hm:=MapOf.stays e7 stay;have hkey:(PySem.strKind S.prog S.w).is (mk k) (.str (mk k) t)=true:=by show Value.isStrOf (mk k) (.str (mk k) t)=true;simp[Value.isStrOf]
 refine yl (wpAny_operating ?_);unfold getItem
 try with_reducible refine yH ?_
 refine yl (wpAny_sequenceKey hT (by decide) ?_);refine yl (wpAny_callSpecial?_slot (name:=ofString "__getitem__") hT MPX.slot_getitem
  (wpAny_call_entry MPX.slot_getitem hT MPX.entry_getitem ?_ (MPX.args_getitem _ _)))
 unfold Builtin.«mappingproxy.__getitem__»;dsimp only;have hs:slotArgs "__getitem__" 1 ⟨[.ref M,.str (mk k) t],[]⟩=pure (.ref M,[.str (mk k) t]):=rfl;refine yl (wpAny_of_eq hs ?_);dsimp only;refine yl (wpAny_field (stay _ _ e2) e4 e5 ?_);refine yl ?_;left;cases he:zu5 k with
 |some v=>
  refine zfc (e8 k v he) λt' hv=>?_;rw[he]at hq;replace hq:=ztj hq;refine wpAny_getItem_of hkey hm hv ?_;refine yo (zbB _ rfl (yo (yl (letGo (yo ?_)))));exact⟨.pl (.str v),st₁,hq,⟨K.frz,K.keep,K.gens,K.os⟩,.str v _,λz=>zaF z⟩
 |none=>
  have hv:=e9 k he;rw[he]at hq;replace hq:=zry hq;refine wpAny_getItem_missing_of hkey e6 (f.calm hq.1).1 hm hv λh' e' hn=>?_;exact zup.toE (X:=X) K (zgq (X:=λx=>X x st₁) R1 (c:=.key) (by decide) hn (hq.2 []))
end
end Mine.Internal
end
section
open PySem PySem.W PySem.Calls PyProof.Rows
set_option tactic.hygienic false
set_option genInjectivity false
set_option genSizeOfSpec false
set_option maxRecDepth 100000
namespace Mine.Internal
section
variable{S:St0}{sh:zak}{a:Act}
theorem zsL{env:Env}{pos:Pos}{fl:Nat}{name:Str}{p:Arguments}{scope:Scope}{body:FuncBody}{A:Around}{E:Value->Shared->Prop}{s:Shared}{Q:Value->Shared->Prop}
  (hcf:zeT S env.code)(hst:S.base.StaysIn s.heap)(ht:TabAt S s.heap)(hn:S.base.get? S.tab=none)
  (q:∀c' h' tk,zdU [S.tab] s.heap h'->zdx h' c'->Q (.ref c') {s with heap:=h',toks:=tk}):wpAny (model S.prog S.w) A (functionCode env pos fl name Q0 p scope body) Q E s:=by
 obtain⟨c,o,vs,file,tf,flags,tg,inF,text,tt,hc,ho,hcls,hd,h11,h18,h7,h9,h10⟩:=hcf;refine zaO ht λps hP hT=>?_;have hne:c≠S.tab:=λz=>by rw[z,hn]at ho;exact zae ho
 have ho':=hst _ _ ho;have h11':vs.getD 11 .none=.ref S.tab:=by rw[Array.getD_eq_getD_getElem?,h11];rfl
 cases hca:codeAmong pos ps.toList with
 |some v=>
  refine zaO (hT.among hca) λc' hzz hq=>?_;subst hzz;unfold functionCode codeAt;rw[hc,if_neg (show ¬((Value.ref c==Value.none)=true)from Bool.false_ne_true)];refine yl (wpAny_fieldsOf ho' hd ?_);rw[h11'];refine yl (wpAny_fieldsOf hP rfl ?_);rw[hca];exact yo (q c' s.heap s.toks (.refl _ _) hq)
 |none=>
  refine wpAny_functionCodeX hc ⟨o,vs,file,tf,flags,tg,inF,text,tt,_,ho',hd,h11',h18,h7,h9,h10,hP,rfl,hT.ok,hne⟩ ⟨(zkD o vs ho' hcls hd h11),hP⟩ hca λc' h' tk hx hge hlt hok hrec htab hnew=>?_;have hq:zdx h' c':=by
   left;obtain⟨P',_,_,⟨⟨oc,ws,z1,z2,z3,_⟩,_⟩⟩:=hnew;refine zBI hrec λc₂ o2 vs2 t2 e2 g2a d2 r2=>?_;cases e2;rw[z1]at g2a;obtain rfl:=yj g2a;exact⟨oc,vs2,t2,z1,z2,d2,r2⟩
  refine q c' h' tk (λb ob e=>?_) hq;by_cases hb:b=S.tab
  ·subst hb
   rw[hP]at e;obtain rfl:=yj e;refine⟨λz=>absurd yq z,_,htab.2,λn=>absurd ⟨rfl,_,rfl⟩ n,λws _ hw=>?_⟩;left;cases hw;exact zbB (#[rawInt pos.line,rawInt pos.col,.ref c']) rfl (.cons hq .nil)
  ·exact⟨λ_=>hx b ob hb e,ob,hx b ob hb e,.refl _ _⟩
theorem zA7(D0:Std S){i:Nat}{params:Arguments}{body:List Stmt}{scope:Scope}{pos:Pos}(hin:sh.inner=true)(hi:sh.names[i]?=some (ofString "coord_repr"))(hlf:S.lf=⟨ofString "coord_repr",params,body,scope,(S.mg "__name__").getD .none⟩)
  (hB:S.base.BuiltinsAt S.mg S.tab)(hfree:∀x∈scope.names,x.2≠.free)(hdoc:docOf body=none)(hexec:PlainDefTree (ofString "coord_repr") params body scope pos) :
  zbk S sh (.FunctionDef (ofString "coord_repr") params body [] none [] scope none (ofString "coord_repr") pos) λQ _ st=>Q .next (st.set i (.val .lfn)):=λa ow st s Q X g R q=>by
 have f:=g.f;obtain⟨hcf,hqual⟩:=f.code hin;rw[hexec];have hm:ofString "coord_repr"∈sh.names:=yy hi;have hk:a.env.kindOf (ofString "coord_repr")=some .local:=by unfold Env.kindOf;exact f.scope▸(f.loc _ hm)
 have hq0:qualnameIn a.env (ofString "coord_repr") (ofString "coord_repr")=Q0:=by
  unfold qualnameIn;rw[hk,hqual];decide +kernel
 rw[hq0];refine yl (yX (yl (yH ?_)));have hc:closureFor scope a.env=pure []:=closureFor_none hfree;simp only[makeFunction,List.zip_nil_right,List.filterMap_nil,List.isEmpty_nil,if_true,pure_bind,hc,hdoc];refine yl (zsL hcf (R.stays f) R.tab D0.tab λc' h1 tk K hq=>?_);have K1:Step a st st s {s with heap:=h1,toks:=tk}:=⟨.refl _,K.mono λb hb=>by rw[List.mem_singleton.mp hb,←f.tab];exact yn _ yq,rfl,rfl⟩;have R1:=R.step f K1;have e0:=zdr R;rw[e0]at R1;have hst:=R1.stays f;left;obtain⟨bm,o,hbm,hne0,_,hneP,hbo,hcls,hdict,hdata⟩:=hB;have hg:=D0.g.keeps hst;have hgl:a.env.globals=mainGlobals:=f.glob;refine yl (wpAny_builtinsFor (hgl▸hg) hbm hne0 (hst _ _ hbo) hcls hdict hdata ?_);refine yl (wpAny_nsGet (hgl▸hg) ?_);simp only[newObj];refine yl (wpAny_alloc (yo ?_));have hn:h1.get? h1.objs.size=none:=yT (yr _);generalize ho:({cls:=.type "function",data:=.func _}:Obj)=oF;have K2:Step a st st {s with heap:=h1,toks:=tk} {s with heap:=h1.push oF,toks:=tk}:=⟨.refl _,.push _ _,rfl,rfl⟩;have R2:=R1.step f K2;rw[e0]at R2;have hv:zcN S (h1.push oF) (Pv a noX ow) (.ref h1.objs.size) .lfn:=by
  refine .lfn (c:=c') (o:=oF) (yI _ (ya _ ho.symm)) ?_ (hq.keep (.push _ _) (F:=[]));rw[←ho,hlf];simp only[LF.fd,hgl]
 refine yl (yX (yl (wpAny_bindName (zgT f R2 hi hv λs' R' _=>yo ⟨.next,_,_,q,R',trivial⟩))))
end
section
variable{S:St0}{sh:zak}
theorem zoU{M:Model}{A:Around}{E:Value->Shared->Prop}{s:Shared}{pos:Pos}{a:Addr}{args:List (Bool×Sem Value)}{Q:Value->Shared->Prop}(hp:args.any (·.1)=false)
  (h:wpAny M A (evalArgs (.ref a) true args []) (λx s₁=>(∃o fd,s₁.heap.get? a=some o∧o.data=.func fd)∧wpAny M A (call (.ref a) x.pos x.kw) Q E s₁) E s) :
  wpAny M A (callWith pos (.ref a) [] args []) Q E s:=by
 unfold callWith;refine yl (yH (yt h (λx s₁ h1=>yl (yX ?_)) λ_ _ x=>x));obtain⟨⟨o,fd,ho,hd⟩,h1⟩:=h1;rw[show(args.any (·.1)||([]:List (Option Str×Sem Value)).any (·.1.isNone))=false by rw[hp];rfl];refine yl (m:=keeperOf (.ref a)) ?_;unfold keeperOf;refine yl (wpAny_load ho ?_);rw[hd];refine yo ?_;have tail:∀{t:Sem Value},wpAny M A t Q E s₁->wpAny M A (t >>= λr=>holding [r] point >>= λ_=>pure r) Q E s₁:=
  λht=>yl (yt ht (λr s₂ hr=>yl (yH (wpAny_point (yo hr)))) λ_ _ x=>x)
 dsimp only
 split
 ·exact tail h1
 ·exact tail (by unfold callMarked;exact Calls.wpAny_keep h1)
@[reducible]noncomputable def zxe(n:Nat)(calm:Bool)(sh:zak)(cf:PE)(ca:PEs)(Φ:List D->PD):PE:=λQ X st=>cf (λr st₁=>r=.pl .lfn∧n≤sh.rank∧(calm=true->sh.calm=true) ∧
 ca (λrs st₂=>Φ (rs.map Res.d) (λd=>Q (.pl d) (zbs rs st₂)) (λx=>X x (zbs rs st₂))) X st₁) X st
theorem zvN{n:Nat}{calm:Bool}{Φ:List D->PD}(hC:zkG S n calm Φ){id:Str}{p pos:Pos}{e:Expr}{es:List Expr}{cf:PE}{ca:PEs}(Hf:zau S sh (.Name id p) cf)(Ha:zbT S sh (e::es) ca)
  (hplain:∀env,(backTo pos (starEach (e::es) env)).any (·.1)=false:=by intro;rfl)(he:∀env,starEach (e::es) env=(false,eval e env)::starEach es env:=by intro;rfl):zau S sh (.Call (.Name id p) (e::es) [] pos) (zxe n calm sh cf ca Φ):=λa ow st s Q X f R q=>by
 show wpAny _ _ (do callWith pos (←eval (.Name id p) a.env) [] (backTo pos (starEach (e::es) a.env)) (backToKw pos (keywordEach [] a.env))) _ _ _;refine yl (yt (Hf a ow st s _ X f R q) (λfv s₁ h=>?_) λ_ _ x=>x);obtain⟨r,st₁,⟨rfl,hrk,hcm,q⟩,K1,hr,_⟩:=h;have R1:=R.step f K1;obtain⟨b,rfl⟩:∃b,fv=.ref b:=by cases hr;exact⟨_,rfl⟩
 show wpAny _ _ (callWith pos (.ref b) [] (backTo pos (starEach (e::es) a.env)) []) _ _ _;refine zoU (hplain _) ?_;have hb':backTo pos (starEach (e::es) a.env)=(false,eval e a.env)::backTo pos (starEach es a.env):=by rw[he];rfl
 have hgo:=Ha pos a _ st₁ s₁ _ X f R1 q;rw[hb']at hgo⊢;refine Calls.evalArgs_plain (yt hgo (λvs s₂ h=>?_) λ_ _ x=>zaP K1 x);refine zfB h λrs st₂ g1 K2 g3=>?_;have R2:=R1.step f K2;have hr2:=hr.goes (R1.goes f (P':=Pv a noX (restr (restr ow st₁) st₂)) K2.keep λb _ q=>q.restr);refine zb0 (zi5 f R1 rs vs st₂ K2 g3) λK' hvs=>?_;have R':=R1.step f K';have hr3:=hr.goes (R1.goes f (P':=Pv a noX (restr (restr ow st₁) (zbs rs st₂))) K'.keep λb _ q=>q.restr);have hst:=R2.stays f;refine⟨by cases hr2 with|lfn h1 h2 _=>exact(zny _ _ h1 h2),?_⟩;have C:ziB S a.A a.fr a.hands (Pv a noX (restr (restr ow st₁) (zbs rs st₂))) n calm s₂:={
  frames:=f.fronts,stays:=hst,fun_:=R'.frames
  depth:=by have:=f.depth;lia
  units:=by have:=f.units;lia
  guards:=f.guards,calm:=λh=>f.calm (hcm h),hand:=f.hand,hands:=R'.hands,gens:=R'.gens,tab:=R'.tab,tabP:=.inl (f.tab▸f.tabP),frP:=λb hb=>f.inP b (f.LFsub b hb)
  P:=λb q=>by
   rcases q with q|q|q|⟨i,q⟩
   ·obtain⟨o,ho⟩:=yL.mp (f.Pdom b q)
    exact R'.keep.there ho
   ·obtain⟨m,⟨o,_,_,ho,_⟩,_⟩:=R'.slots
    rw[q,ho];rfl
   ·exact q.elim
   ·exact R'.own_there q}
 have KK:=K1.trans K';refine yt (hC (.ref b) a.A _ a.hands _ s₂ vs _ _ _ C hr3 hvs g1) (λv s4a h=>?_) λev s4a h=>?_
 ·left
  obtain⟨d,qd,hvr,hnew,hk,hg,hos⟩:=h;replace hk:=hk.mono (G:=a.L::a.F) λb hb=>by
   rcases yz.mp hb with q|q
   ·exact q▸f.tab▸yn _ yq
   ·exact f.LFsub b q
  have K4:Step a st (zbs rs st₂) s s4a:=KK.trans ⟨.refl _,hk,hg,hos⟩;refine⟨.pl d,_,qd,K4,?_,λz=>?_⟩
  ·rw[zax K'.frz]at hvr;exact hvr
  ·refine zaO (hnew z) λe' h1 h2=>?_
   exact zbB e' h1 (KK.keep.new h2)
 ·obtain⟨x,e',T,qx,rfl,hn,hT,hO,hk,hg,hos⟩:=h
  replace hk:=hk.mono (G:=a.L::a.F) λb hb=>by
   rcases yz.mp hb with q|q
   ·exact q▸f.tab▸yn _ yq
   ·exact f.LFsub b q
  exact⟨x,_,qx,KK.trans ⟨.refl _,hk,hg,hos⟩,e',T,rfl,KK.keep.new hn,λb hb=>KK.keep.new (hT b hb),hO a.L⟩
end
structure zgM(prog:Program)(w:World)(h0 h:Heap)(D:Addr)(Sf:Str->Bool)(n:Nat):Prop where
 new:h0.get? D=none
 set:h.SetOf (PySem.strKind prog w) D Sf n
 keep:∀b o,h0.get? b=some o->h.get? b=some o
section
variable{prog:Program}{w:World}{A:Around}{E:Value->Shared->Prop}
theorem zuI{s:Shared}{h0:Heap}{D:Addr}{Sf:Str->Bool}{n:Nat}{k:Str}{t:Tok}{Q:Bool->Shared->Prop}(F:zgM prog w h0 s.heap D Sf n)(hn:n+1<scanBound)
  (h:∀h' n',n'≤n+1->zgM prog w h0 h' D (λk'=>Sf k'||decide (k'=k)) n'->∀b,Q b {s with heap:=h',toks:=s.toks+1}):wpAny (model prog w) A (setAdd D (.str k t)) Q E s:=by
 unfold setAdd;refine yH (yl ((PySem.strKind prog w).pyHash (k:=k) (isStrOf_self k t) ?_));refine wpAny_setAddHashed_of (s:={s with toks:=s.toks+1}) (isStrOf_self k t) rfl F.set hn λh' hsb hS'=>?_;refine h h' _ ?_ ⟨F.new,hS',λb o e=>?_⟩ _
 ·split
  ·exact yi n
  ·exact yr _
 ·have hb:b≠D:=λz=>by rw[z,F.new]at e;exact zae e
  exact(hsb.2 b hb).trans (F.keep b o e)
theorem zkW{s:Shared}{h0:Heap}{D:Addr}{Sf:Str->Bool}{n:Nat}{Q:Unit->Shared->Prop}(F:zgM prog w h0 s.heap D Sf n)
  (h:∀h',zgM prog w h0 h' D Sf n->Q () {s with heap:=h'}):wpAny (model prog w) A (setUnled D) Q E s:=by
 obtain⟨o,es,ep,t,ho,hex,hd,hel,hmem,hb,hf,hn⟩:=F.set;have hf':({t with led:=false}:SetTable).fits es.size=true:=by cases t;exact hf
 unfold setUnled;refine yl (wpAny_setState_of ho hd hf ?_);dsimp only;refine wpAny_storeSet_of ho hd ?_ (fits_of_scanBound hb);refine zb0 (SetOf_store (knd:=PySem.strKind prog w) ho hex hd hel hmem hb hf') λ_ hS=>?_;rw[hn]at hS;refine h _ ⟨F.new,hS,λb o' e=>?_⟩;have hbD:b≠D:=λz=>by rw[z,F.new]at e;exact zae e
 exact((Heap.SameBut.update s.heap D (Obj.putSet es {t with led:=false})).2 b hbD).trans (F.keep b o' e)
inductive zin:List Value->List (List Nat)->Prop
 |nil:zin [] []
 |cons {l t vs ls}:zin vs ls->zin (.str (mk l) t::vs) (l::ls)
inductive zc4:List Expr->List (List Nat)->Prop
 |nil:zc4 [] []
 |cons {x:Str} {l k pos es ls} (h:x.cps.toList=l):zc4 es ls->zc4 (.Constant (.str x) k pos::es) (l::ls)
theorem zc4.plain{es ls}(h:zc4 es ls):es.all kdsPlain=true:=by
 induction h with
 |nil=>rfl
 |cons _ _ ih=>rw[List.all_cons,ih];rfl
theorem zc4.length{es ls}(h:zc4 es ls):es.length=ls.length:=by
 induction h with
 |nil=>rfl
 |cons _ _ ih=>rw[List.length_cons,List.length_cons,ih]
theorem all_strs{env:Env}{es ls}(h:zc4 es ls):∀{s:Shared}{Q:List Value->Shared->Prop},(∀vs,zin vs ls->∀tk,Q vs {s with toks:=tk})->KdsAll (model prog w) A E env es Q s:=by
 induction h with
 |nil=>intro s Q h;exact h [] .nil s.toks
 |cons e _ ih=>
  intro s Q h;refine wpAny_Constant_str (ih λvs hv tk=>?_);have hc:=h _ (zin.cons (t:=s.toks) hv) tk;rw[←e,ze6]at hc;exact hc
theorem zwi{vs ls}(hv:zin vs ls){h0:Heap}{D:Addr}{Q:Value->Shared->Prop}:∀{s:Shared}{Sf:Str->Bool}{n:Nat},zgM prog w h0 s.heap D Sf n->n+ls.length<scanBound ->
  (∀h' n' tk,zgM prog w h0 h' D (λk=>Sf k||ls.any λl=>decide (k=mk l)) n'->Q (.ref D) {s with heap:=h',toks:=tk})->KdsFill (model prog w) A E true D Q vs s:=by
 induction hv with
 |nil=>
  intro s Sf n F hn h;refine kds_fill_unled rfl (zkW F λh' F'=>h h' n s.toks ?_);have:(λk=>Sf k||([]:List (List Nat)).any λl=>decide (k=mk l))=Sf:=funext λk=>Bool.or_false _;exact this.symm▸F'
 |cons _ ih=>
  intro s Sf n F hn h;rw[List.length_cons]at hn;refine kds_fill_cons (zuI F (by lia) λh' n' hn' F' b=>ih F' (by lia) λh'' n'' tk F''=>h h'' n'' tk ?_);simp only[List.any_cons,←Bool.or_assoc];exact F''
theorem zrO{env:Env}{s:Shared}{Q:Bool->Shared->Prop}{c:Addr}{o:Obj}{vs}(e:env.code=.ref c)(ho:s.heap.get? c=some o)(hd:o.data=.fields vs)(h:∀b,Q b s):wpAny (model prog w) A (inMainModule env) Q E s:=by
 unfold inMainModule
 try dsimp only
 rw[e]
 split
 ·exact yo (h _)
 ·refine yl (wpAny_fieldsOf ho hd ?_)
  split
  ·exact yl (wpAny_askSetting (yo (h _)))
  ·exact yo (h _)
theorem zux{env:Env}{s:Shared}{Q:Value->Shared->Prop}{es ls}{pos:Pos}(hE:zc4 es ls)(hlen:ls.length≤30)(hroad:displayRoad 0 es=.unsure){c:Addr}{o:Obj}{vs}(e:env.code=.ref c)(ho:s.heap.get? c=some o)(hd:o.data=.fields vs)
  (h:∀D h' n' tk,zgM prog w s.heap h' D (λk=>false||ls.any λl=>decide (k=mk l)) n'->Q (.ref D) {s with heap:=h',toks:=tk}):wpAny (model prog w) A (eval (.Set es 0 pos) env) Q E s:=by
 rw[arm_eval_Set];refine yl (yX ?_);refine yl (zrO e ho hd λb=>?_);rw[kds_star es hE.plain,List.map_map];refine kds_core (ts:=(evalEach es env).map λt=>do let v ←t;standAt pos;pure v) (by rw[hroad];rfl) ?_ ?_ ?_ λled=>?_
 ·refine List.findIdx?_eq_none_iff.mpr λx hx=>?_
  refine zaO (List.mem_map.mp hx) λt _ hzz=>?_;subst hzz;rfl
 ·rw[List.length_map,kds_len,hE.length];exact hlen
 ·rw[List.map_map];try rfl
 ·refine kds_all pos es _ _ (all_strs hE λus hu tk=>?_)
  rw[hroad];refine zwi hu (h0:=s.heap) (Sf:=λ_=>false) (n:=0) ⟨yT (yr _),(setObjOf_fresh led).setOf (yI _ rfl) (by decide),λb o e=>yE _ e⟩ (by unfold scanBound;lia) λh' n' tk F=>h _ h' n' tk F
theorem zAs(l:List Nat)(ls:List (List Nat)):(false||ls.any λl'=>decide (mk l=mk l'))=decide (l∈ls):=by
 rw[Bool.false_or]
 induction ls with
 |nil=>simp
 |cons x xs ih=>
  rw[List.any_cons,ih];by_cases e:l=x
  ·simp[e]
  ·have:mk l≠mk x:=λz=>e (zm8 z)
   simp[e,this]
end
@[reducible]noncomputable def zrr(c:PE)(ls:List (List Nat)):PT:=λQ X st=>c (λr st₁=>oM r.d.str? λl=>Q (decide (l∈ls)) st₁) X st
theorem zre{S:St0}{sh:zak}(hcalm:sh.calm=true){e:Expr}{c:PE}{es:List Expr}{ls:List (List Nat)}{pos pos':Pos}(H:zau S sh e c)(hE:zc4 es ls)(hlen:ls.length≤30)(hroad:displayRoad 0 es=.unsure)(hm:behindInMarks .In (.Set es 0 pos')=true) :
  zdg S sh (.Compare e [.In] [.Set es 0 pos'] pos) (zrr c ls):=λa ow st s Q X f R q=>by
 refine kdi_test hm (yt (H a ow st s _ X f R q) (λv s₁ h=>?_) λ_ _ x=>x);left;obtain⟨r,st₁,h1,h2,h3⟩:=h;refine zaO (oM_inv h1) λl hl h1=>?_;have R1:=R.step f h2;have h3c:=h3.c;clear h3;rw[D.str?_inv hl]at h3c;refine zfc h3c.str λt hzz=>?_;subst hzz;refine zrm (f.codeA hcalm) λc' o vs e1 e2 e3=>?_;refine zux hE hlen hroad e1 (R1.stays f _ _ e2) e3 λD h' n' tk F=>kdi_mark (zkW F λh'' F'=>?_);refine wpAny_inSet_of (k:=mk l) (isStrOf_self (mk l) t) rfl F'.set ?_;rw[zAs];exact wpAny_truthy_bool (zbB st₁ h1 (h2.trans ⟨.refl _,.of_keeps F'.keep,rfl,rfl⟩))
@[reducible]noncomputable def zai(d:D):PE:=λQ _ st=>Q (.pl d) st
@[reducible]noncomputable def zt5(b:Bool):PT:=λQ _ st=>Q b st
@[reducible]noncomputable def zam:PS:=λQ _ st=>Q .next st
@[reducible]noncomputable def zt6:PS:=λQ _ st=>Q .cont st
@[reducible]noncomputable def zag:PEs:=λQ _ st=>Q [] st
@[reducible]noncomputable def zBK(i:Nat):PS:=λQ _ st=>Q .next (st.set i (.val .lfn))
@[reducible]noncomputable def zf7:PO:=λQ _ st=>Q none st
section
variable{S:St0}{sh:zak}
theorem zgC{b k pos}:zau S sh (.Constant (.bool b) k pos) (zai (.bool b)):=zxJ
theorem zaB{i k pos}:zau S sh (.Constant (.int i) k pos) (zai (.int i)):=zAK
theorem zaL{x:Str}{l:List Nat}{k pos}(h:x.cps.toList=l):zau S sh (.Constant (.str x) k pos) (zai (.str l)):=h▸zBa
theorem zzP{x:Str}{pos}{d:D}{v:Value}(D:Std S)(hx:sh.scope.names.lookup x=some .globalImplicit)(hv:S.mg x=some v)(hr:∀h P,S.base.StaysIn h->zcN S h P v d)(he:d.isExc=false)(hd:(x==("__debug__":Str))=false):zau S sh (.Name x pos) (zai d):=zyl D hx hv hr he hd
theorem zzD{pos}:zbk S sh (.Pass pos) zam:=zyX
theorem zw3{pos}:zbk S sh (.Continue pos) zt6:=zxg
theorem zal:zaG S sh [] zam:=zx5
theorem zaq:zbT S sh [] zag:=zxt
theorem zmO{pos}:zdg S sh (.BoolOp .And [] pos) (zt5 true):=zm7
theorem zur{pos}:zdg S sh (.BoolOp .Or [] pos) (zt5 false):=zov
theorem zgF:zlN S sh none zf7:=ztw
theorem zA9{k pos}:zdg S sh (.Constant (.bool true) k pos) (zdf (zai (.bool true))):=za0 zaw zgC (by intros;rfl)
end
@[irreducible]noncomputable def zbu(r:Option (Except Err D)):PD:=λQ X=>match r with
 |some (.ok d)=>Q d
 |some (.error e)=>X e
 |none=>False
theorem zhQ{Q:D->Prop}{X:Err->Prop}(h:zbu none Q X):False:=by unfold zbu at h;exact h
theorem zcb(d:D)(Q:D->Prop)(X:Err->Prop):zbu (some (.ok d)) Q X=Q d:=by unfold zbu;rfl
theorem zjm(e:Err)(Q:D->Prop)(X:Err->Prop):zbu (some (.error e)) Q X=X e:=by unfold zbu;rfl
theorem zf2{d:D}{Q:D->Prop}{X:Err->Prop}(h:zbu (some (.ok d)) Q X):Q d:=by unfold zbu at h;exact h
noncomputable abbrev Fn:=List D->List D->Option (Except Err D)
noncomputable def zay(l:List (Str×Ctr)):Tab:=λn=>l.lookup n
theorem zaD.nil{S:St0}:zaD S (zay []):=⟨λn c v h=>by simp[zay]at h⟩
theorem zaD.cons{S:St0}{l:List (Str×Ctr)}{n:Str}{c:Ctr}{a:Addr}{o:Obj}{fd:FuncData}(hm:S.mg n=some (.ref a))(ho:S.base.get? a=some o)(hd:o.data=.func fd)(h:ziO S (.ref a) c.rank c.calm c.kws c.Φ)(t:zaD S (zay l)):zaD S (zay ((n,c)::l)):=⟨λn' c' v h1 h2=>by
 unfold zay at h1;by_cases e:n'=n
 ·subst e
  rw[List.lookup_cons_self]at h1;obtain rfl:=yj h1;rw[hm]at h2;obtain rfl:=yj h2;exact⟨h,a,o,fd,rfl,ho,hd⟩
 ·rw[List.lookup,show(n'==n)=false from by simpa using e]at h1
  exact t.ok n' c' v h1 h2⟩
theorem ziO.mono{S:St0}{f:Value}{n n':Nat}{calm:Bool}{kws:List Str}{Φ Φ':List D->List D->PD}(h:ziO S f n calm kws Φ)(hn:n≤n')(k:∀ds dk Q X,Φ' ds dk Q X->Φ ds dk Q X):ziO S f n' calm kws Φ':=
 λA fr hands P s vs ks ds dk Q X C hv hk hl q=>h A fr hands P s vs ks ds dk Q X {C with depth:=by have:=C.depth;lia,units:=by have:=C.units;lia} hv hk hl (k _ _ _ _ q)
theorem zkG.mono{S:St0}{n n':Nat}{calm:Bool}{Φ Φ':List D->PD}(h:zkG S n calm Φ)(hn:n≤n')(k:∀ds Q X,Φ' ds Q X->Φ ds Q X):zkG S n' calm Φ':=
 λv A fr hands P s vs ds Q X C hl hv q=>h v A fr hands P s vs ds Q X {C with depth:=by have:=C.depth;lia,units:=by have:=C.units;lia} hl hv (k _ _ _ q)
section
variable{S:St0}{sh:zak}
noncomputable def Gl(S:St0)(gl:List (Str×D)):Prop:=∀n d,gl.lookup n=some d->∃v,S.mg n=some v∧∀h P,S.base.StaysIn h->zcN S h P v d
theorem zqJ{gl:List (Str×D)}{x:Str}{pos}{d:D}(D0:Std S)(G:Gl S gl)(hx:sh.scope.names.lookup x=some .globalImplicit)(hl:gl.lookup x=some d)(he:d.isExc=false)(hd:(x==("__debug__":Str))=false):zau S sh (.Name x pos) (zai d):=
 let ⟨_,h1,h2⟩:=G x d hl
 zzP D0 hx h1 h2 he hd
@[reducible]noncomputable def peC(tb:Tab)(rank:Nat)(calm:Bool)(cf:PE)(ca:PEs)(kws:List Str)(ck:PEs):PE:=λQ X st=>cf (λr st₁=>∃n c,r=.pl (.fn n)∧tb n=some c∧c.kws=kws∧c.rank≤rank∧(c.calm=true->calm=true) ∧
 ca (λrs st₂=>ck (λrk st3=>c.Φ (rs.map Res.d) (rk.map Res.d) (λd=>Q (.pl d) (zbs (rs++rk) st3)) (λx=>X x (zbs (rs++rk) st3))) X st₂) X st₁) X st
theorem zBm{tb:Tab}{rank:Nat}{calm:Bool}(hr:sh.rank=rank)(hc:sh.calm=calm)(TB:zaD S tb){id:Str}{p pos:Pos}{e:Expr}{es:List Expr}{ks:List Keyword}{cf:PE}{ca ck:PEs}{kws:List Str}(Hf:zau S sh (.Name id p) cf)(Ha:zbT S sh (e::es) ca)(Hk:KwS S sh ks kws ck)
  (he:∀env,starEach (e::es) env=(false,eval e env)::starEach es env:=by intro;rfl):zau S sh (.Call (.Name id p) (e::es) ks pos) (peC tb rank calm cf ca kws ck):=by
 subst hr hc;exact zxb TB Hf Ha Hk he
end
noncomputable def zm1:D:=.fset [[32],[9]]
noncomputable def zdT:D:=.fset [[32],[9],[10]]
noncomputable def zig:List Nat:=[0,1,2,3,4,5,6,7,8,9,10,11,12,13,14,15,16,17,18,19,20,21,22,23,24,25,26,27,28,29,30,31,127]
noncomputable def zbQ:D:=.fset ((zig.filter (· != 9)).map λc=>[c])
noncomputable def zco:D:=zbQ
noncomputable def zaX:D:=.fset ((zig.filter λc=>c != 9&&c != 10).map λc=>[c])
noncomputable def zaR:D:=zaX
noncomputable def zwY:List Nat:=[48,49,50,51,52,53,54,55,56,57,97,98,99,100,101,102,65,66,67,68,69,70]
noncomputable def zfF:D:=.fset (zwY.map λc=>[c])
noncomputable def znF:D:=.fn (ofString "skip_chars")
noncomputable def zmX:D:=.fn (ofString "skip_until")
noncomputable def zeu:D:=.fn (ofString "parse_one_line_basic_str")
noncomputable def zcW:D:=.fn (ofString "parse_basic_str_escape")
noncomputable def zbF:D:=.fn (ofString "parse_basic_str_escape_multiline")
noncomputable def ziR:D:=.fn (ofString "parse_hex_char")
noncomputable def zg0:D:=.fn (ofString "parse_literal_str")
noncomputable def zgb:D:=.fn (ofString "parse_multiline_str")
noncomputable def zh3:D:=.fn (ofString "parse_basic_str")
noncomputable def zkz:D:=.fn (ofString "suffixed_err")
noncomputable def zeQ:D:=.fn (ofString "is_unicode_scalar_value")
noncomputable def zo2:List Str:=[ofString "len",ofString "abs",ofString "chr",ofString "ord",ofString "min",ofString "max",ofString "sum",ofString "range",ofString "tuple",ofString "list",ofString "int",ofString "str",ofString "isinstance",ofString "divmod",
 ofString "RecursionError",ofString "IndexError",ofString "ValueError",ofString "KeyError"]
noncomputable def NoG(S:St0):Prop:=∀x∈zo2,S.mg x=none
@[reducible]noncomputable def peK(F:Fn)(ca ck:PEs):PE:=λQ X st=>ca (λrs st₂=>ck (λrk st3=>zbu (F (rs.map Res.d) (rk.map Res.d)) (λd=>Q (.pl d) (zbs (rs++rk) st3)) (λx=>X x (zbs (rs++rk) st3))) X st₂) X st
@[reducible]noncomputable def zCw(F:Fn)(cf:PE)(ca:PEs):PE:=λQ X st=>cf (λr st₁=>r.oM D.lfn? λ_=>ca (λrs st₂=>zbu (F (rs.map Res.d) []) (λd=>Q (.pl d) (zbs rs st₂)) (λx=>X x (zbs rs st₂))) X st₁) X st
section
variable{S:St0}{sh:zak}
theorem ztS{n₀:Nat}{gl:List (Str×D)}{tb:Tab}(D0:Std S)(G:Gl S gl)(TB:zc5 n₀ S tb){c:Ctr}{F:Fn}{id:Str}{p pos:Pos}{e:Expr}{es:List Expr}{ks:List Keyword}{ca ck:PEs}{kws:List Str}
  (hl:gl.lookup id=some (.fn id))(ht:tb id=some c)(hΦ:c.Φ=λds dk=>zbu (F ds dk))(hkw:c.kws=kws)(hr:c.rank≤sh.rank)(hc:c.calm=true->sh.calm=true)
  (hx:sh.scope.names.lookup id=some .globalImplicit)(hd:(id==("__debug__":Str))=false)(Ha:zhE n₀ S sh (e::es) ca)(Hk:KwS S sh ks kws ck)
  (he:∀env,starEach (e::es) env=(false,eval e env)::starEach es env):zeg n₀ S sh (.Call (.Name id p) (e::es) ks pos) (peK F ca ck):=by
 have H:=zpM TB (zqJ (pos:=p) D0 G hx hl rfl hd) Ha Hk (pos:=pos) he;intro a ow st s Q X hn f R q;refine H a ow st s Q X hn f R (zCQ id c rfl ht hkw hr hc ?_);rw[hΦ];exact q
theorem ziY{gl:List (Str×D)}{tb:Tab}(D0:Std S)(G:Gl S gl)(TB:zaD S tb){c:Ctr}{F:Fn}{id:Str}{p pos:Pos}{e:Expr}{es:List Expr}{ks:List Keyword}{ca ck:PEs}{kws:List Str}
  (hl:gl.lookup id=some (.fn id))(ht:tb id=some c)(hΦ:c.Φ=λds dk=>zbu (F ds dk))(hkw:c.kws=kws)(hr:c.rank≤sh.rank)(hc:c.calm=true->sh.calm=true)
  (hx:sh.scope.names.lookup id=some .globalImplicit)(hd:(id==("__debug__":Str))=false)(Ha:zbT S sh (e::es) ca)(Hk:KwS S sh ks kws ck)
  (he:∀env,starEach (e::es) env=(false,eval e env)::starEach es env:=by intro;rfl):zau S sh (.Call (.Name id p) (e::es) ks pos) (peK F ca ck):=(ztS D0 G TB.n hl ht hΦ hkw hr hc hx hd Ha.t Hk he).s
theorem zBG{e:Expr}{c:PE}(H:zau S sh e c):zau S sh e (λQ X st=>∃Q',(∀r st,Q' r st->Q r st)∧c Q' X st):=λa ow st s Q X f R ⟨Q',h,q⟩=>
 yt (H a ow st s Q' X f R q) (λv s' ⟨r,st',h1,h2,h3⟩=>⟨r,st',h _ _ h1,h2,h3⟩) λ_ _ x=>x
theorem zCj{n:Nat}{calm:Bool}{F:Fn}(hr:n≤sh.rank)(hc:calm=true->sh.calm=true)(hC:zkG S n calm (λds=>zbu (F ds []))){id:Str}{p pos:Pos}{e:Expr}{es:List Expr}{cf:PE}{ca:PEs}(Hf:zau S sh (.Name id p) cf)(Ha:zbT S sh (e::es) ca)
  (hplain:∀env,(backTo pos (starEach (e::es) env)).any (·.1)=false:=by intro;rfl)(he:∀env,starEach (e::es) env=(false,eval e env)::starEach es env:=by intro;rfl):zau S sh (.Call (.Name id p) (e::es) [] pos) (zCw F cf ca):=by
 have H:=zvN hC (zBG Hf) Ha (pos:=pos) hplain he;intro a ow st s Q X f R q;refine H a ow st s Q X f R (zbB _ (λr st' h=>let ⟨h1,h2⟩:=Res.lfn_inv h;⟨h1,hr,hc,h2⟩) q)
end
noncomputable def zBT:List Nat:=[101,110,100,32,111,102,32,100,111,99,117,109,101,110,116]
noncomputable def zfE:List Nat:=[108,105,110,101,32]
noncomputable def zjy:List Nat:=[44,32,99,111,108,117,109,110,32]
noncomputable def zzm:List Nat:=[32,40,97,116,32]
noncomputable def zlf:List Nat:=[41]
noncomputable def zfz:List Nat:=[85,110,116,101,114,109,105,110,97,116,101,100,32,115,116,114,105,110,103]
noncomputable def zbX:List Nat:=[70,111,117,110,100,32,105,110,118,97,108,105,100,32,99,104,97,114,97,99,116,101,114,32]
noncomputable def zhu:List Nat:=[69,120,112,101,99,116,101,100,32]
noncomputable def zgW:List Nat:=[73,108,108,101,103,97,108,32,99,104,97,114,97,99,116,101,114,32]
noncomputable def ztG:List Nat:=[85,110,101,115,99,97,112,101,100,32,39,92,39,32,105,110,32,97,32,115,116,114,105,110,103]
noncomputable def zAV:List Nat:=[73,110,118,97,108,105,100,32,104,101,120,32,118,97,108,117,101]
noncomputable def zAF:List Nat:=[69,115,99,97,112,101,100,32,99,104,97,114,97,99,116,101,114,32,105,115,32,110,111,116,32,97,32,85,110,105,99,111,100,101,32,115,99,97,108,97,114,32,118,97,108,117,101]
noncomputable def okT(s:List Nat):Bool:=decide (s.length≤300000)&&s.all λc=>decide (c<1114112)&&decide ((za2 [c]).length≤1000)
noncomputable def zev(s:List Nat)(p:Nat):Nat:=(s.take p).count 10+1
noncomputable def zkp(s:List Nat)(p:Nat):Nat:=((s.take p).reverse.takeWhile (· != 10)).length+1
noncomputable def zaQ(s:List Nat)(p:Nat):List Nat:=if s.length≤p then zBT else zfE++zbm (zev s p)++zjy++zbm (zkp s p)
noncomputable def zcH(s:List Nat)(p:Nat)(m:List Nat):List Nat:=m++zzm++zaQ s p++zlf
noncomputable def zds(s:List Nat)(cs:List (List Nat))(p:Nat):Nat:=p+((s.drop p).takeWhile λc=>decide ([c]∈cs)).length
noncomputable def zcD(s:List Nat)(cs:List (List Nat))(p:Nat):Nat:=p+((s.drop p).takeWhile λc=>!decide ([c]∈cs)).length
noncomputable def cut(s:List Nat)(a b:Nat):List Nat:=(s.drop a).take (b-a)
noncomputable abbrev R:=Except (List Nat) (Nat×List Nat)
noncomputable def zeo(s:List Nat)(p:Nat)(e:List Nat)(cs:List (List Nat))(eof:Bool):Except (List Nat) Nat:=
 match (match zbS s e p s.length with|some j=>Except.ok j|none=>if eof then .error (zcH s s.length (zhu++za2 e))else .ok s.length)with
 |.error m=>.error m
 |.ok np=>if(cut s p np).all λc=>!decide ([c]∈cs)then .ok np else .error (zcH s (zcD s cs p) (zbX++za2 (cut s (zcD s cs p) (zcD s cs p+1))))
noncomputable def zdc(n:Nat):Bool:=decide (n≤55295)||(decide (57344≤n)&&decide (n≤1114111))
noncomputable def zwK(s:List Nat)(p k:Nat):R:=
 let h:=cut s p (p+k)
 if h.length≠k∨¬h.all zeR then .error (zcH s p zAV)
 else if zdc (ze4 h)then .ok (p+k,[ze4 h])else .error (zcH s (p+k) zAF)
noncomputable def wsL:List (List Nat):=[[32],[9]]
noncomputable def zCu:List (List Nat):=[[32],[9],[10]]
noncomputable def zBe(s:List Nat)(p:Nat):R:=
 if cut s p (p+2)=[92,10]then .ok (zds s zCu (p+2),[])
 else match s[zds s wsL (p+2)]? with
  |none=>.ok (zds s wsL (p+2),[])
  |some c=>if c=10 then .ok (zds s zCu (zds s wsL (p+2)+1),[])else .error (zcH s (zds s wsL (p+2)) ztG)
noncomputable def zze(s:List Nat)(p:Nat):R:=
 if cut s p (p+2)=[92,117]then zwK s (p+2) 4
 else if cut s p (p+2)=[92,85]then zwK s (p+2) 8
 else match zu5 (cut s p (p+2))with
  |some v=>.ok (p+2,v)
  |none=>.error (zcH s (p+2) ztG)
noncomputable def zmF(s:List Nat)(p:Nat)(ml:Bool):R:=
 if ml=true∧(cut s p (p+2)=[92,32]∨cut s p (p+2)=[92,9]∨cut s p (p+2)=[92,10])then zBe s p else zze s p
noncomputable def zqF:List (List Nat):=(zig.filter (· != 9)).map λc=>[c]
noncomputable def zkq:List (List Nat):=(zig.filter λc=>c != 9&&c != 10).map λc=>[c]
noncomputable def zfG(ml:Bool):List (List Nat):=if ml then zkq else zqF
noncomputable def bOn(s:List Nat)(ml:Bool)(k:List Nat->Nat->R)(acc:List Nat)(p c:Nat):R:=if c=34 then
   if ml=false then .ok (p+1,acc)
   else if cut s p (p+3)=[34,34,34]then .ok (p+3,acc)
   else k (acc++[34]) (p+1)
  else if c=92 then match zmF s p ml with
   |.error m=>.error m
   |.ok (p',t)=>k (acc++t) p'
  else if[c]∈zfG ml then .error (zcH s p (zgW++za2 [c]))
  else k (acc++[c]) (p+1)
noncomputable def bAt(s:List Nat)(ml:Bool)(k:List Nat->Nat->R)(acc:List Nat)(p:Nat)(o:Option Nat):R:=match o with
 |none=>.error (zcH s p zfz)
 |some c=>bOn s ml k acc p c
noncomputable def zgE(s:List Nat)(ml:Bool):Nat->List Nat->Nat->R
 |0,_,p=>.error (zcH s p zfz)
 |n+1,acc,p=>bAt s ml (zgE s ml n) acc p s[p]?
noncomputable def zdu(s:List Nat)(ml:Bool)(acc:List Nat)(p:Nat):R:=zgE s ml (s.length+1-p) acc p
noncomputable def zcv(s:List Nat)(ml:Bool)(p:Nat):R:=zdu s ml [] p
noncomputable def zrc(s:List Nat)(p:Nat):R:=match zeo s (p+1) [39] zqF true with
 |.error m=>.error m
 |.ok np=>.ok (np+1,cut s (p+1) np)
termination_by s.length+1-p
decreasing_by all_goals (have:=(yp.mp h).1;omega)
noncomputable def toR:R->Except Err D
 |.ok (p,t)=>.ok (.tup [.int p,.str t])
 |.error m=>.error (.toml,m)
noncomputable def toN:Except (List Nat) Nat->Except Err D
 |.ok n=>.ok (.int n)
 |.error m=>.error (.toml,m)
noncomputable def okB(B:Nat)(s:List Nat)(p:Int):Bool:=okT s&&(decide (0≤p)&&decide (p≤B))
noncomputable def zy7(s:List Nat)(p:Int):Bool:=okB 400000 s p
noncomputable def zzq:Bool:=true
noncomputable abbrev zkh:=Option (Except Err D)
noncomputable def gO(c:Bool)(k:zkh):zkh:=match c with
 |true=>k
 |false=>none
noncomputable def zng(l:List D)(k:zkh):zkh:=match l with
 |[]=>k
 |_::_=>none
noncomputable def zdo{α:Type}(A:Dc α)(l:List D)(k:α->List D->zkh):zkh:=match l with
 |[]=>none
 |d::l=>match A.of d with
  |some x=>k x l
  |none=>none
theorem zcK{l:List D}{k:zkh}{Q:D->Prop}{X:Err->Prop}(h:zbu (zng l k) Q X):l=[]∧zbu k Q X:=by
 induction l with
 |nil=>exact⟨rfl,h⟩
 |cons _ _=>exact(zhQ h).elim
theorem zbc{α:Type}{A:Dc α}{l:List D}{k:α->List D->zkh}{Q:D->Prop}{X:Err->Prop}(h:zbu (zdo A l k) Q X):∃x r,l=A.to x::r∧zbu (k x r) Q X:=by
 induction l with
 |nil=>exact(zhQ h).elim
 |cons d l=>
  cases e:A.of d with
  |none=>unfold zdo at h;dsimp only at h;rw[e]at h;exact(zhQ h).elim
  |some x=>
   unfold zdo at h;dsimp only at h;rw[e]at h;exact zny x l (by rw[A.inv e]) h
theorem zdR{c:Bool}{k:zkh}{Q:D->Prop}{X:Err->Prop}(h:zbu (gO c k) Q X):c=true∧zbu k Q X:=by
 cases c with
 |true=>exact⟨rfl,h⟩
 |false=>exact(zhQ h).elim
theorem zfS{c:Bool}{k:zkh}{Q:D->Prop}{X:Err->Prop}(e:c=true)(h:zbu k Q X):zbu (gO c k) Q X:=by subst e;exact h
noncomputable def zBi{α:Type}(A:Dc α)(k:α->zkh):Fn:=λds dk=>zdo A ds λx ds=>zng ds (zng dk (k x))
noncomputable def zzg{α β:Type}(A:Dc α)(B:Dc β)(k:α->β->zkh):Fn:=λds dk=>zdo A ds λx ds=>zdo B ds λy ds=>zng ds (zng dk (k x y))
noncomputable def zzc{α β γ:Type}(A:Dc α)(B:Dc β)(C:Dc γ)(k:α->β->γ->zkh):Fn:=λds dk=>zdo A ds λx ds=>zdo B ds λy ds=>zdo C ds λz ds=>zng ds (zng dk (k x y z))
noncomputable def zuu{α β γ:Type}(A:Dc α)(B:Dc β)(C:Dc γ)(k:α->β->γ->zkh):Fn:=λds dk=>zdo A ds λx ds=>zdo B ds λy ds=>zng ds (zdo C dk λz dk=>zng dk (k x y z))
noncomputable def zA6{α β γ δ ε:Type}(A:Dc α)(B:Dc β)(C:Dc γ)(E:Dc δ)(F:Dc ε)(k:α->β->γ->δ->ε->zkh):Fn:=λds dk=>zdo A ds λx ds=>zdo B ds λy ds=>zdo C ds λz ds=>zng ds (zdo E dk λu dk=>zdo F dk λv dk=>zng dk (k x y z u v))
section
variable{α β γ δ ε:Type}{A:Dc α}{B:Dc β}{C:Dc γ}{E:Dc δ}{F:Dc ε}{ds dk:List D}{Q:D->Prop}{X:Err->Prop}
theorem zpm{k:α->zkh}(h:zbu (zBi A k ds dk) Q X):∃x,ds=[A.to x]∧dk=[]∧zbu (k x) Q X:=by
 refine zfw (zbc h) λx r1 e1 g1=>?_;obtain⟨e2,g2⟩:=zcK g1;obtain⟨e3,g3⟩:=zcK g2;exact⟨x,by rw[e1,e2],e3,g3⟩
theorem zhe{k:α->β->zkh}(h:zbu (zzg A B k ds dk) Q X):∃x y,ds=[A.to x,B.to y]∧dk=[]∧zbu (k x y) Q X:=by
 left;refine zfw (zbc h) λx r1 e1 g1=>?_;refine zfw (zbc g1) λy r2 e2 g2=>?_;obtain⟨e3,g3⟩:=zcK g2;refine zb0 (zcK g3) λe4 g4=>?_;exact zlH x y (by rw[e1,e2,e3]) e4 g4
theorem zhI{k:α->β->γ->zkh}(h:zbu (zzc A B C k ds dk) Q X):∃x y z,ds=[A.to x,B.to y,C.to z]∧dk=[]∧zbu (k x y z) Q X:=by
 left;refine zfw (zbc h) λx r1 e1 g1=>?_;refine zfw (zbc g1) λy r2 e2 g2=>?_;refine zfw (zbc g2) λz r3 e3 g3=>?_;obtain⟨e4,g4⟩:=zcK g3;refine zb0 (zcK g4) λe5 g5=>?_;exact zzB x y z (by rw[e1,e2,e3,e4]) e5 g5
theorem zki{k:α->β->γ->zkh}(h:zbu (zuu A B C k ds dk) Q X):∃x y z,ds=[A.to x,B.to y]∧dk=[C.to z]∧zbu (k x y z) Q X:=by
 left;refine zfw (zbc h) λx r1 e1 g1=>?_;refine zfw (zbc g1) λy r2 e2 g2=>?_;obtain⟨e3,g3⟩:=zcK g2;refine zfw (zbc g3) λz r4 e4 g4=>?_;obtain⟨e5,g5⟩:=zcK g4;exact zzB x y z (by rw[e1,e2,e3]) (by rw[e4,e5]) g5
theorem zr6{k:α->β->γ->δ->ε->zkh}(h:zbu (zA6 A B C E F k ds dk) Q X):∃x y z u v,ds=[A.to x,B.to y,C.to z]∧dk=[E.to u,F.to v]∧zbu (k x y z u v) Q X:=by
 left;refine zfw (zbc h) λx r1 e1 g1=>?_;refine zfw (zbc g1) λy r2 e2 g2=>?_;refine zfw (zbc g2) λz r3 e3 g3=>?_;obtain⟨e4,g4⟩:=zcK g3;refine zfw (zbc g4) λu r5 e5 g5=>?_;refine zfw (zbc g5) λv r6 e6 g6=>?_;obtain⟨e7,g7⟩:=zcK g6;exact⟨x,y,z,u,v,by rw[e1,e2,e3,e4],by rw[e5,e6,e7],g7⟩
end
noncomputable def zcY:Fn:=zzg cS cI λs p=>gO (zy7 s p) (some (.ok (.str (zaQ s p.toNat))))
noncomputable def zaK:Fn:=zzc cS cI cS λs p m=>gO (zy7 s p&&decide (m.length≤2000)) (some (.ok (.exc .toml (zcH s p.toNat m))))
noncomputable def zdM:Fn:=zzc cS cI cF λs p cs=>gO (zy7 s p) (some (.ok (.int (zds s cs p.toNat))))
noncomputable def zbj:Fn:=zBi cI λn=>gO (decide (0≤n)) (some (.ok (.bool (zdc n.toNat))))
noncomputable def zcV:Fn:=zA6 cS cI cS cF cB λs p e cs eof=>gO (okB 350000 s p&&decide ((za2 e).length≤1000)) (some (toN (zeo s p.toNat e cs eof)))
noncomputable def zbq:Fn:=zzc cS cI cI λs p k=>gO (zy7 s p&&(decide (1≤k)&&decide (k≤8))) (some (toR (zwK s p.toNat k.toNat)))
noncomputable def zbP:Fn:=zzg cS cI λs p=>gO (okB 350000 s p) (some (toR (zmF s p.toNat false)))
noncomputable def zbo:Fn:=zuu cS cI cB λs p ml=>gO (okB 350000 s p&&(zzq||!ml)) (some (toR (zmF s p.toNat ml)))
noncomputable def za4:Fn:=zzg cS cI λs p=>gO (okB 350000 s p&&zzq) (some (toR (zmF s p.toNat true)))
noncomputable def zbx:Fn:=zuu cS cI cB λs p ml=>gO (okB 350000 s p&&(zzq||!ml)) (some (toR (zcv s ml p.toNat)))
noncomputable def zba:Fn:=zzg cS cI λs p=>gO (okB 340000 s p) (some (toR (zcv s false (p.toNat+1))))
noncomputable def zb8:Fn:=zzg cS cI λs p=>gO (okB 340000 s p) (some (toR (zrc s p.toNat)))
noncomputable def za6:Ctr:=⟨20,false,[],λds dk=>zbu (zaK ds dk)⟩
noncomputable def zcG:List (Str×Ctr):=[]
noncomputable def zeE:Ctr:=⟨10,true,[],λds dk=>zbu (zdM ds dk)⟩
noncomputable def zeG:List (Str×Ctr):=(ofString "suffixed_err",za6)::zcG
noncomputable def zbO:Ctr:=⟨10,true,[],λds dk=>zbu (zbj ds dk)⟩
noncomputable def zbi:List (Str×Ctr):=(ofString "skip_chars",zeE)::zeG
noncomputable def zcJ:Ctr:=⟨30,true,[],λds dk=>zbu (zbq ds dk)⟩
noncomputable def zcL:List (Str×Ctr):=(ofString "is_unicode_scalar_value",zbO)::zbi
noncomputable def zbZ:Ctr:=⟨40,true,[ofString "multiline"],λds dk=>zbu (zbo ds dk)⟩
noncomputable def zaZ:List (Str×Ctr):=(ofString "parse_hex_char",zcJ)::zcL
noncomputable def za5:Ctr:=⟨50,true,[],λds dk=>zbu (za4 ds dk)⟩
noncomputable def zaJ:List (Str×Ctr):=(ofString "parse_basic_str_escape",zbZ)::zaZ
noncomputable def zcr:Ctr:=⟨60,true,[ofString "multiline"],λds dk=>zbu (zbx ds dk)⟩
noncomputable def zbR:Ctr:=⟨40,true,[],λds dk=>zbu (zbP ds dk)⟩
noncomputable def zbv:List (Str×Ctr):=(ofString "parse_basic_str_escape",zbR)::(ofString "parse_basic_str_escape_multiline",za5)::zaJ
noncomputable def zbH:Ctr:=⟨70,true,[],λds dk=>zbu (zba ds dk)⟩
noncomputable def zbb:List (Str×Ctr):=(ofString "parse_basic_str",zcr)::zbv
noncomputable def zeI:Ctr:=⟨30,true,[ofString "error_on",ofString "error_on_eof"],λds dk=>zbu (zcV ds dk)⟩
noncomputable def zeF:List (Str×Ctr):=(ofString "parse_one_line_basic_str",zbH)::zbb
noncomputable def zcS:Ctr:=⟨40,true,[],λds dk=>zbu (zb8 ds dk)⟩
noncomputable def zb9:List (Str×Ctr):=(ofString "skip_until",zeI)::zeF
@[reducible]noncomputable def zeB:PS:=(zaf (zeA (zdf (pe2 (zad 1) (pe1 (zad 0) zri) (zqA λx y=>decide (x ≥ y)))) (zaf (zbt (zai (.str [101,110,100,32,111,102,32,100,111,99,117,109,101,110,116]))) zam) zam) (zaf (zao 2 (pe2 (zcI (zad 0) (zab (zai (.str [10])) (zab (zai (.int 0)) (zab (zad 1) zag))) zpa) (zai (.int 1)) zde)) (zaf (zeA (zdf (pe2 (zad 2) (zai (.int 1)) eqP)) (zaf (zao 3 (pe2 (zad 1) (zai (.int 1)) zde)) zam) (zaf (zao 3 (pe2 (zad 1) (zcI (zad 0) (zab (zai (.str [10])) (zab (zai (.int 0)) (zab (zad 1) zag))) (zlR false)) zss)) zam)) (zaf (zbt (zhc [] [(zai (.str [108,105,110,101,32])),(pe1 (zad 2) zzb),(zai (.str [44,32,99,111,108,117,109,110,32])),(pe1 (zad 3) zzb)])) zam))))
@[reducible]noncomputable def zeN:PS:=(zaf (zBK 3) (zaf (zbt (zwo (zhc [] [(pe1 (zad 2) zzb),(zai (.str [32,40,97,116,32])),(pe1 (zCw zcY (zad 3) (zab (zad 0) (zab (zad 1) zag))) zzb),(zai (.str [41]))]))) zam))
@[reducible]noncomputable def zfQ:PS:=(zaf (znX (zaf (zeX (zdf (pe2 (zbD (zad 0) (zad 1)) (zad 2) inD)) (zaf (zdZ 1 (zai (.int 1)) zec) zam)) zam) [⟨.index,none,(zaf zam zam)⟩]) (zaf (zbt (zad 1)) zam))
@[reducible]noncomputable def zbN:PS:=(zaf (zbt (zzn (zoP (zai (.int 0)) (zad 0) (zai (.int 55295)) (zqA λx y=>decide (x≤y)) (zqA λx y=>decide (x≤y))) (zoP (zai (.int 57344)) (zad 0) (zai (.int 1114111)) (zqA λx y=>decide (x≤y)) (zqA λx y=>decide (x≤y))))) zam)
@[reducible]noncomputable def zf3:PS:=(zaf (znX (zaf (zao 5 (zcI (zad 0) (zab (zad 2) (zab (zad 1) zag)) (zpf true))) zam) [⟨.value,none,(zaf (zao 5 (pe1 (zad 0) zri)) (zaf (zeA (zdf (zad 4)) (zaf (zdY (peK zaK (zab (zad 0) (zab (zad 5) (zab (zhc [] [(zai (.str [69,120,112,101,99,116,101,100,32])),(pe1 (zad 2) zqW)]) zag))) zag)) zam) zam) zam))⟩]) (zaf (zeA (ziq (zdf (zly (zad 3) (zab (zb4 (zad 0) (zf0 (zad 1)) (zf0 (zad 5))) zag) (zyW true)))) (zaf (zeX (zdf (pe2 (zbD (zad 0) (zad 1)) (zad 3) zAh)) (zaf (zdZ 1 (zai (.int 1)) zec) zam)) (zaf (zdY (peK zaK (zab (zad 0) (zab (zad 1) (zab (zhc [] [(zai (.str [70,111,117,110,100,32,105,110,118,97,108,105,100,32,99,104,97,114,97,99,116,101,114,32])),(pe1 (zbD (zad 0) (zad 1)) zqW)]) zag))) zag)) zam)) zam) (zaf (zbt (zad 5)) zam)))
@[reducible]noncomputable def zdV:PS:=(zaf (zao 3 (zb4 (zad 0) (zf0 (zad 1)) (zf0 (pe2 (zad 1) (zad 2) zde)))) (zaf (zeA (zCc (zdf (pe2 (pe1 (zad 3) zri) (zad 2) neP)) (zCc (ziq (zdf (zly (zai zfF) (zab (zad 3) zag) (zw5 true)))) (zt5 false))) (zaf (zdY (peK zaK (zab (zad 0) (zab (zad 1) (zab (zai (.str [73,110,118,97,108,105,100,32,104,101,120,32,118,97,108,117,101])) zag))) zag)) zam) zam) (zaf (zdZ 1 (zad 2) zec) (zaf (zao 4 (peN (zab (zad 3) (zab (zai (.int 16)) zag)) intD)) (zaf (zeA (ziq (zdf (peK zbj (zab (zad 4) zag) zag))) (zaf (zdY (peK zaK (zab (zad 0) (zab (zad 1) (zab (zai (.str [69,115,99,97,112,101,100,32,99,104,97,114,97,99,116,101,114,32,105,115,32,110,111,116,32,97,32,85,110,105,99,111,100,101,32,115,99,97,108,97,114,32,118,97,108,117,101])) zag))) zag)) zam) zam) (zaf (zbt (zep (zab (zad 1) (zab (peN (zab (zad 4) zag) zBc) zag)))) zam))))))
@[reducible]noncomputable def za1:PS:=(zaf (zao 3 (zb4 (zad 0) (zf0 (zad 1)) (zf0 (pe2 (zad 1) (zai (.int 2)) zde)))) (zaf (zdZ 1 (zai (.int 2)) zec) (zaf (zeA (zs1 (zdf (zad 2)) (zs1 (zrr (zad 3) [[92,32],[92,9],[92,10]]) (zt5 true))) (zaf (zeA (zdf (pe2 (zad 3) (zai (.str [92,10])) neP)) (zaf (zao 1 (peK zdM (zab (zad 0) (zab (zad 1) (zab (zai zm1) zag))) zag)) (zaf (znX (zaf (zao 4 (zbD (zad 0) (zad 1))) zam) [⟨.index,none,(zaf (zbt (zep (zab (zad 1) (zab (zai (.str [])) zag)))) zam)⟩]) (zaf (zeA (zdf (pe2 (zad 4) (zai (.str [10])) neP)) (zaf (zdY (peK zaK (zab (zad 0) (zab (zad 1) (zab (zai (.str [85,110,101,115,99,97,112,101,100,32,39,92,39,32,105,110,32,97,32,115,116,114,105,110,103])) zag))) zag)) zam) zam) (zaf (zdZ 1 (zai (.int 1)) zec) zam)))) zam) (zaf (zao 1 (peK zdM (zab (zad 0) (zab (zad 1) (zab (zai zdT) zag))) zag)) (zaf (zbt (zep (zab (zad 1) (zab (zai (.str [])) zag)))) zam))) zam) (zaf (zeA (zdf (pe2 (zad 3) (zai (.str [92,117])) eqP)) (zaf (zbt (peK zbq (zab (zad 0) (zab (zad 1) (zab (zai (.int 4)) zag))) zag)) zam) zam) (zaf (zeA (zdf (pe2 (zad 3) (zai (.str [92,85])) eqP)) (zaf (zbt (peK zbq (zab (zad 0) (zab (zad 1) (zab (zai (.int 8)) zag))) zag)) zam) zam) (zaf (znX (zaf (zbt (zep (zab (zad 1) (zab (zx0 true (zad 3)) zag)))) zam) [⟨.key,none,(zaf (zdY (peK zaK (zab (zad 0) (zab (zad 1) (zab (zai (.str [85,110,101,115,99,97,112,101,100,32,39,92,39,32,105,110,32,97,32,115,116,114,105,110,103])) zag))) zag)) zam)⟩]) zam))))))
@[reducible]noncomputable def zbE:PS:=(zaf (zbt (peK zbo (zab (zad 0) (zab (zad 1) zag)) (zab (zai (.bool true)) zag))) zam)
@[reducible]noncomputable def zcu:PS:=(zaf (zeA (zdf (zad 2)) (zaf (zao 3 (zai zaX)) (zaf (zao 4 (zai zbF)) zam)) (zaf (zao 3 (zai zbQ)) (zaf (zao 4 (zai zcW)) zam))) (zaf (zao 5 (zai (.str []))) (zaf (zao 6 (zad 1)) (zaf (zeX (zdf (zai (.bool true))) (zaf (znX (zaf (zao 7 (zbD (zad 0) (zad 1))) zam) [⟨.index,none,(zaf (zdY (peK zaK (zab (zad 0) (zab (zad 1) (zab (zai (.str [85,110,116,101,114,109,105,110,97,116,101,100,32,115,116,114,105,110,103])) zag))) zag)) zam)⟩]) (zaf (zeA (zdf (pe2 (zad 7) (zai (.str [34])) eqP)) (zaf (zeA (ziq (zdf (zad 2))) (zaf (zbt (zep (zab (pe2 (zad 1) (zai (.int 1)) zde) (zab (pe2 (zad 5) (zb4 (zad 0) (zf0 (zad 6)) (zf0 (zad 1))) zde) zag)))) zam) zam) (zaf (zeA (zdf (zcI (zad 0) (zab (zai (.str [34,34,34])) (zab (zad 1) zag)) zdW)) (zaf (zbt (zep (zab (pe2 (zad 1) (zai (.int 3)) zde) (zab (pe2 (zad 5) (zb4 (zad 0) (zf0 (zad 6)) (zf0 (zad 1))) zde) zag)))) zam) zam) (zaf (zdZ 1 (zai (.int 1)) zec) (zaf zt6 zam)))) zam) (zaf (zeA (zdf (pe2 (zad 7) (zai (.str [92])) eqP)) (zaf (zdZ 5 (zb4 (zad 0) (zf0 (zad 6)) (zf0 (zad 1))) zec) (zaf (zi7 [1,8] (peC (zay zbv) 50 true (zad 4) (zab (zad 0) (zab (zad 1) zag)) [] zag)) (zaf (zdZ 5 (zad 8) zec) (zaf (zao 6 (zad 1)) (zaf zt6 zam))))) zam) (zaf (zeA (zdf (pe2 (zad 7) (zad 3) inD)) (zaf (zdY (peK zaK (zab (zad 0) (zab (zad 1) (zab (zhc [] [(zai (.str [73,108,108,101,103,97,108,32,99,104,97,114,97,99,116,101,114,32])),(pe1 (zad 7) zqW)]) zag))) zag)) zam) zam) (zaf (zdZ 1 (zai (.int 1)) zec) zam)))))) zam))))
@[reducible]noncomputable def zcy:PS:=(zaf (zdZ 1 (zai (.int 1)) zec) (zaf (zbt (peK zbx (zab (zad 0) (zab (zad 1) zag)) (zab (zai (.bool false)) zag))) zam))
@[reducible]noncomputable def zcP:PS:=(zaf (zdZ 1 (zai (.int 1)) zec) (zaf (zao 2 (zad 1)) (zaf (zao 1 (peK zcV (zab (zad 0) (zab (zad 1) (zab (zai (.str [39])) zag))) (zab (zai zco) (zab (zai (.bool true)) zag)))) (zaf (zbt (zep (zab (pe2 (zad 1) (zai (.int 1)) zde) (zab (zb4 (zad 0) (zf0 (zad 2)) (zf0 (zad 1))) zag)))) zam))))
noncomputable def zB3(p:Program)(i:Nat)(S:St0):LF:=⟨ofString "coord_repr",zwV p i,zpZ p i,zka p i,(S.mg "__name__").getD .none⟩
theorem zgP{l:List Nat}(h:∀c∈l,c<1114112):okD (.str l)=true:=by
 show SeqAt.shaped (.str (mk l))=true;unfold SeqAt.shaped PyData.canLay0 PyData.strOk;simp[mk,PyData.depth];exact h
theorem zl9(i:Int):okD (.int i)=true:=rfl
theorem ztr(x y:List Nat):eqD (.str x) (.str y)=decide (x=y):=by
 show(mk x==mk y)=_;by_cases h:x=y
 ·subst h;simp
 ·rw[decide_eq_false h]
  exact beq_eq_false_iff_ne.mpr λe=>h (zm8 e)
theorem zr1(x y:Int):eqD (.int x) (.int y)=decide (x=y):=by
 show(x==y)=_;rw[Bool.beq_eq_decide_eq]
set_option tactic.hygienic true in
theorem zp7{s:List Nat}{p:Nat}{Q:Res->Prop}{X:Err->Prop}(h:p≤1000000)(q:match s[p]? with|some c=>Q (.pl (.str [c]))|none=>∀m,X (.index,m)):zg4 s p Q X:=by
 unfold zg4;refine⟨by simp;omega,?_⟩;have:(seqIndex? (p:Int) s.length).bind (s[·]?)=s[p]?:=by
  unfold seqIndex?;simp only[show ¬((p:Int)<0)from by omega,if_false]
  split
  ·simp
  ·rename_i hn
   have:s.length≤p:=by
    simp at hn;exact hn
   simp only[Option.bind_none];exact(List.getElem?_eq_none this).symm
 rw[this];exact q
theorem zc7{s:List Nat}(h:okT s=true):s.length≤300000:=by
 unfold okT at h;simp at h;exact h.1
theorem ziv{s:List Nat}(h:okT s=true){c:Nat}(hc:c∈s):c<1114112∧(za2 [c]).length≤1000:=by
 unfold okT at h;simp at h;exact h.2 c hc
theorem zeO{B:Nat}{s:List Nat}{p:Int}(h:okB B s p=true):∃n:Nat,p=n∧n≤B∧okT s=true:=by
 unfold okB at h;simp at h;refine zfc (Int.eq_ofNat_of_zero_le h.2.1) λn hzz=>?_;subst hzz;exact zga n rfl (by omega) h.1
theorem zjf{s:List Nat}{p:Int}(h:zy7 s p=true):∃n:Nat,p=n∧n≤400000∧okT s=true:=zeO h
theorem zgB{B:Nat}{s:List Nat}{p:Nat}(hs:okT s=true)(hp:p≤B):okB B s (p:Nat)=true:=by
 unfold okB;rw[hs,decide_eq_true (by lia:(0:Int)≤(p:Nat)),decide_eq_true (by lia:((p:Nat):Int)≤(B:Nat))];rfl
theorem zl4{s:List Nat}{p:Nat}(hs:okT s=true)(hp:p≤400000):zy7 s (p:Nat)=true:=zgB hs hp
theorem len_str(l:List Nat)(Q:Res->Prop)(X:Err->Prop):zri (.str l) Q X=(l.length≤1000000∧Q (.pl (.int l.length))):=rfl
theorem zA5(l:List D):ziF (.lst l)=if l.length≤1000000 then some (!l.isEmpty)else Option.none:=rfl
theorem zxA(l:List Nat)(lo hi:Option Int)(Q:Res->Prop):zhM l lo hi Q=(l.length≤LIM∧Q (.pl (.str (zbA l lo hi)))):=by unfold zhM;rfl
theorem zCX(l p:List Nat)(i j:Int)(Q:Res->Prop)(X:Err->Prop):zpa l [.str p,.int i,.int j] Q X=Q (.pl (.int (zkr l p (zfY l.length i) (min (zfY l.length j) l.length)).length)):=rfl
theorem zC0(c:Bool)(l p:List Nat)(i j:Int)(Q:Res->Prop)(X:Err->Prop):zlR c l [.str p,.int i,.int j] Q X=znZ X Q c (zlX l p (zfY l.length i) (min (zfY l.length j) l.length)):=rfl
theorem ix2(c:Bool)(l p:List Nat)(i:Int)(Q:Res->Prop)(X:Err->Prop):zpf c l [.str p,.int i] Q X=znZ X Q c (zbS l p (zfY l.length i) l.length):=rfl
theorem zdL{s:List Nat}{p c:Nat}(h:s[p]?=some c):s.drop p=c::s.drop (p+1):=by
 obtain⟨h1,h2⟩:=yp.mp h;rw[List.drop_eq_getElem_cons h1,h2]
theorem zmY{s:List Nat}{p:Nat}(h:s[p]?=none):s.drop p=[]:=List.drop_eq_nil_iff.mpr (List.getElem?_eq_none_iff.mp h)
theorem zrZ{s:List Nat}{cs:List (List Nat)}{p:Nat}(h:s[p]?=none):zds s cs p=p:=by unfold zds;rw[zmY h];rfl
theorem zvz{s:List Nat}{cs:List (List Nat)}{p c:Nat}(h:s[p]?=some c)(hc:[c]∈cs):zds s cs p=zds s cs (p+1):=by
 unfold zds;rw[zdL h,List.takeWhile_cons,if_pos (by exact decide_eq_true hc)];simp;lia
theorem zrV{s:List Nat}{cs:List (List Nat)}{p c:Nat}(h:s[p]?=some c)(hc:¬[c]∈cs):zds s cs p=p:=by
 unfold zds;rw[zdL h,List.takeWhile_cons,if_neg (by simpa using hc)];rfl
theorem zjA{s:List Nat}{cs:List (List Nat)}{p c:Nat}(h:s[p]?=some c)(hc:¬[c]∈cs):zcD s cs p=zcD s cs (p+1):=by
 unfold zcD;rw[zdL h,List.takeWhile_cons,if_pos (by simpa using hc)];simp;lia
theorem zlh{s:List Nat}{cs:List (List Nat)}{p c:Nat}(h:s[p]?=some c)(hc:[c]∈cs):zcD s cs p=p:=by
 unfold zcD;rw[zdL h,List.takeWhile_cons,if_neg (by simpa using hc)];rfl
theorem zgr{t:PT}{b:PS}{Q:Fl->Sl->Prop}{X:Err->Sl->Prop}{st:Sl}(n:Nat)(I:Nat->Sl->Prop)(h0:I n st)(hs:∀n st,I n st->zA0 t b Q X (λst'=>∃m,m<n∧I m st') st):zeX t b Q X st:=by unfold zeX;exact⟨n,I,h0,hs⟩
theorem ze5{s:List Nat}{p c:Nat}{Q:Res->Prop}{X:Err->Prop}(hc:s[p]?=some c)(h:p≤1000000)(k:Q (.pl (.str [c]))):zg4 s (p:Nat) Q X:=zp7 h (by rw[hc];exact k)
theorem zg8{s:List Nat}{p:Nat}{Q:Res->Prop}{X:Err->Prop}(hc:s[p]?=none)(h:p≤1000000)(k:∀m,X (.index,m)):zg4 s (p:Nat) Q X:=zp7 h (by rw[hc];exact k)
theorem zaC{s:List Nat}{p c:Nat}(h:s[p]?=some c):p<s.length:=(yp.mp h).1
theorem zzT{n q:Nat}(h:q<n):n+1-(q+1)<n+1-q:=Nat.sub_lt_sub_left (Nat.lt_succ_of_lt h) (yS q)
theorem zt7{s:List Nat}{p:Nat}{cs:List (List Nat)}{Q:D->Prop}{X:Err->Prop}(hs:okT s=true)(hp1:p≤400000)(h:Q (.int (zds s cs p:Nat))):zfO zfQ 0 [.str s,.int (p:Nat),.fset cs] Q X:=by
 refine zgr (s.length+1-p) (λn st=>∃q:Nat,st=[.val (.str s),.val (.int q),.val (.fset cs)]∧zds s cs q=zds s cs p∧q≤400000∧n=s.length+1-q) (zBt p rfl rfl hp1 rfl) λn st hI=>?_;refine zzi hI λq hst h1 h2 h3=>?_;subst hst h3;have hq:q≤1000000:=yk h2 (by decide);left;cases hc:s[q]? with
 |none=>
  rw[←h1,zrZ hc]at h;exact zg8 hc hq λm=>h
 |some c=>
  refine ze5 hc hq ?_;by_cases hm:[c]∈cs
  ·have hlt:=zaC hc
   exact za8 (yv hm) ⟨_,zzT hlt,q+1,rfl,(zvz hc hm).symm.trans h1,yk hlt (yk (zc7 hs) (by decide)),rfl⟩
  ·rw[←h1,zrV hc hm]at h
   exact za7 (yx hm) h
theorem zAd(ds dk:List D)(Q:D->Prop)(X:Err->Prop)(h:zbu (zdM ds dk) Q X):ds.length+0=3∧zfO zfQ 0 (ds++dk) Q X:=by
 left;obtain⟨s,p,cs,rfl,rfl,h⟩:=zhI h;refine zb0 (zdR h) λhp h=>?_;refine zcM (zjf hp) λp hzz hp1 hs=>?_;subst hzz;exact⟨rfl,zt7 hs hp1 (zf2 h)⟩
theorem zoG{a b:Nat}:decide (((a:Nat):Int)≤((b:Nat):Int))=decide (a≤b):=by
 by_cases h:a≤b
 ·rw[decide_eq_true h,decide_eq_true (Int.ofNat_le.mpr h)]
 ·rw[decide_eq_false h,decide_eq_false λz=>h (Int.ofNat_le.mp z)]
theorem zoV{n:Nat}{Q:D->Prop}{X:Err->Prop}(h:Q (.bool (zdc n))):zfO zbN 0 [.int (n:Nat)] Q X:=by
 refine za8 (c:=decide ((0:Int)≤(n:Nat))) (yv (yB n)) ?_;by_cases h1:n≤55295
 ·have e:decide (((n:Nat):Int)≤55295)=true:=zoG.trans (yv h1)
  refine za8 (c:=decide (((n:Nat):Int)≤55295)) e ?_;show Q (.bool (decide (((n:Nat):Int)≤55295)));rw[e,show true=zdc n by unfold zdc;rw[decide_eq_true h1];rfl];exact h
 ·have e:decide (((n:Nat):Int)≤55295)=false:=zoG.trans (yx h1)
  refine za7 (c:=decide (((n:Nat):Int)≤55295)) e ?_;have hs:zdc n=(decide (57344≤n)&&decide (n≤1114111)):=by unfold zdc;rw[decide_eq_false h1];rfl
  rw[hs]at h;by_cases h2:57344≤n
  ·refine za8 (c:=decide ((57344:Int)≤(n:Nat))) (zoG.trans (yv h2)) ?_
   show Q (.bool (decide (((n:Nat):Int)≤((1114111:Nat):Int))));rw[decide_eq_true h2]at h;rw[zoG];exact h
  ·rw[decide_eq_false h2]at h
   exact za7 (c:=decide ((57344:Int)≤(n:Nat))) (zoG.trans (yx h2)) h
theorem zvg(ds dk:List D)(Q:D->Prop)(X:Err->Prop)(h:zbu (zbj ds dk) Q X):ds.length+0=1∧zfO zbN 0 (ds++dk) Q X:=by
 obtain⟨n,rfl,rfl,h⟩:=zpm h;obtain⟨hp,h⟩:=zdR h;obtain⟨n,rfl⟩:=Int.eq_ofNat_of_zero_le (yF hp);exact⟨rfl,zoV (zf2 h)⟩
theorem zvs(s:List Nat)(c hi i:Nat):zee s [c] hi i=(decide (i<hi)&&decide (s[i]?=some c)):=by
 unfold zee;have:((s.drop i).take [c].length == [c])=decide (s[i]?=some c):=by
  cases h:s[i]? with
  |none=>rw[zmY h];simp
  |some d=>rw[zdL h];simp[List.take_cons,Bool.beq_eq_decide_eq]
 rw[this];rfl
theorem zxU(s:List Nat)(c hi:Nat):∀(k i f:Nat),f≤i->ziW s [c] hi (List.range' i k) f=(List.range' i k).filter (zee s [c] hi)
 |0,i,f,h=>rfl
 |k+1,i,f,h=>by
  rw[List.range'_succ,ziW,List.filter_cons];have:=yv h;simp only[this,Bool.true_and];cases q:zee s [c] hi i with
  |true=>simp only[if_true];simp only[show i + [c].length=i+1 from rfl,zxU s c hi k (i+1) (i+1) (Nat.le_refl _)]
  |false=>simp only[Bool.false_eq_true,if_false];exact zxU s c hi k (i+1) f (by lia)
theorem zkT{s:List Nat}{n:Nat}(h:n<s.length):s.take (n+1)=s.take n++[s[n]]:=by
 rw[List.take_add_one,List.getElem?_eq_getElem h];rfl
theorem zjU(s:List Nat)(c:Nat):∀n,n≤s.length->((List.range n).filter λi=>decide (s[i]?=some c)).length=(s.take n).count c
 |0,_=>by simp
 |n+1,h=>by
  rw[List.range_succ,List.filter_append,List.length_append,zjU s c n (by lia),zkT (by omega),List.count_append,List.count_singleton];have:s[n]?=some s[n]:=yu (by omega);rw[List.filter_cons,this];by_cases q:s[n]=c
  ·simp[q]
  ·simp[q]
theorem zu9(s:List Nat)(c p:Nat):(List.range' 0 (p+1)).filter (zee s [c] p)=(List.range p).filter λi=>decide (s[i]?=some c):=by
 simp only[←List.range_eq_range',List.range_succ,List.filter_append,List.filter_cons,zvs];simp only[Nat.lt_irrefl,decide_false,Bool.false_and,Bool.false_eq_true,if_false,List.filter_nil,List.append_nil];refine List.filter_congr λi hi=>?_;simp only[zvs,decide_eq_true (List.mem_range.mp hi),Bool.true_and]
theorem zBO{s:List Nat}{c p:Nat}(h:p≤s.length):(zkr s [c] 0 p).length=(s.take p).count c:=by
 unfold zkr;rw[zxU _ _ _ _ _ _ (Nat.le_refl _),Nat.sub_zero,zu9,zjU s c p h]
theorem zk1(s:List Nat)(c:Nat):∀n,n≤s.length->(List.range n).reverse.find? (λi=>decide (s[i]?=some c))=if c∈s.take n then some (n-1-((s.take n).reverse.takeWhile (· != c)).length)else none
 |0,_=>rfl
 |n+1,h=>by
  rw[List.range_succ,List.reverse_append,List.reverse_singleton,List.singleton_append,List.find?_cons,zkT (by omega),List.reverse_append,List.reverse_singleton,List.singleton_append,List.takeWhile_cons];have:s[n]?=some s[n]:=yu (by omega);rw[this];by_cases q:s[n]=c
  ·simp[q]
  ·have q':¬c=s[n]:=λz=>q z.symm
   simp only[Option.some.injEq,q,decide_false,List.mem_append,List.mem_singleton,q',or_false];rw[zk1 s c n (by lia)];simp only[bne_iff_ne,ne_eq,q,not_false_eq_true,if_true,List.length_cons];by_cases m:c∈s.take n
   ·rw[if_pos m,if_pos m];congr 1;lia
   ·rw[if_neg m,if_neg m]
theorem zBC{s:List Nat}{c p:Nat}(h:p≤s.length):zlX s [c] 0 p=if c∈s.take p then some (p-1-((s.take p).reverse.takeWhile (· != c)).length)else none:=by
 unfold zlX;rw[Nat.sub_zero,←List.range_eq_range',List.range_succ,List.reverse_append,List.reverse_singleton,List.singleton_append,List.find?_cons,zvs,←zk1 s c p h];simp only[Nat.lt_irrefl,decide_false,Bool.false_and];have:∀l:List Nat,(∀i∈l,i<p)->l.find? (zee s [c] p)=l.find? λi=>decide (s[i]?=some c):=λl=>by
  induction l with
  |nil=>intro _;rfl
  |cons i l ih=>
   intro hl;rw[List.find?_cons,List.find?_cons,zvs,decide_eq_true (hl i List.mem_cons_self),Bool.true_and,ih λj hj=>hl j (List.mem_cons_of_mem _ hj)]
 exact this _ λi hi=>by simpa using hi
theorem zzr{c:Nat}:∀{l:List Nat},c∈l->(l.takeWhile (· != c)).length<l.length
 |[],h=>by exact zcx h
 |d::l,h=>by
  rw[List.takeWhile_cons];by_cases q:d=c
  ·simp[q]
  ·have:=zzr (c:=c) (l:=l) (by rcases yz.mp h with z|z;exact absurd z.symm q;exact z)
   simp[q];exact this
theorem zpL{c:Nat}:∀{l:List Nat},c∉l->l.takeWhile (· != c)=l
 |[],h=>rfl
 |d::l,h=>by
  rw[List.takeWhile_cons,if_pos (by simp;exact λe=>h (e▸List.mem_cons_self)),zpL λq=>h (List.mem_cons_of_mem _ q)]
theorem zfj{n:Nat}(h:n≤1000000):(zbm n).length≤7:=by
 have:=toString_length_le (v:=(n:Int)) (k:=7) (by lia) (by decide) (by lia);unfold zbm;rw[show(Str.ofString (toString (n:Int))).cps.toList.length=(Str.ofString (toString (n:Int))).length from rfl];exact this
theorem zkd{i:Int}(h:i.natAbs≤1000000):i.natAbs.log2<1920:=by
 have:=Nat.log2_lt (n:=i.natAbs) (k:=1920);by_cases z:i.natAbs=0
 ·rw[z];decide
 ·rw[this z]
  exact yY h (yA (by decide:1000000<2^20) (Nat.pow_le_pow_right (by decide) (by decide)))
theorem zmv(s:List Nat)(p:Nat):zev s p≤s.length+1:=by
 unfold zev;have:=List.count_le_length (a:=10) (l:=s.take p);rw[List.length_take]at this;exact yG (yk this (Nat.min_le_right ..))
theorem zo4(s:List Nat)(p:Nat):zkp s p≤s.length+1:=by
 unfold zkp;have:=(List.takeWhile_sublist (l:=(s.take p).reverse) (· != 10)).length_le;rw[List.length_reverse,List.length_take]at this;exact yG (yk this (Nat.min_le_right ..))
theorem zj9{s:List Nat}(h:s.length≤300000)(p:Nat):(zaQ s p).length≤100:=by
 unfold zaQ
 split
 ·decide
 ·have h1:=zfj (n:=zev s p) (yk (zmv s p) (yk (yG h) (by decide)))
  have h2:=zfj (n:=zkp s p) (yk (zo4 s p) (yk (yG h) (by decide)));simp only[List.length_append];have:zfE.length=5:=rfl;have:zjy.length=9:=rfl;lia
theorem zfR(n p:Nat):zfY n (p:Int)=p:=by unfold zfY;rw[if_neg (Int.not_lt.mpr (Int.natCast_nonneg p))];rfl
theorem zbh{n:Nat}(h:n≤1000000):n≤LIM:=h
theorem zbz{α:Type}{x y:List α}{a b n:Nat}(hx:x.length≤a)(hy:y.length≤b)(h:a+b≤n):(x++y).length≤n:=by rw[List.length_append];exact yk (ye hx hy) h
theorem zbC{x y a b n:Nat}(hx:x≤a)(hy:y≤b)(h:a+b≤n):x+y≤n:=yk (ye hx hy) h
theorem zvR{s:List Nat}{p:Nat}(h:p≤s.length)(Q:Res->Prop)(X:Err->Prop):zpa s [.str [10],.int 0,.int (p:Nat)] Q X=Q (.pl (.int ((s.take p).count 10:Nat))):=by
 rw[zCX,zfR s.length p,Nat.min_eq_left h,show zfY s.length 0=0 from zfR s.length 0,zBO h]
theorem zz7{s:List Nat}{p:Nat}(h:p≤s.length)(c:Bool)(Q:Res->Prop)(X:Err->Prop):zlR c s [.str [10],.int 0,.int (p:Nat)] Q X=znZ X Q c (if 10∈s.take p then some (p-1-((s.take p).reverse.takeWhile (· != 10)).length)else none):=by
 rw[zC0,zfR s.length p,Nat.min_eq_left h,show zfY s.length 0=0 from zfR s.length 0,zBC h]
theorem zuH{a b:Nat}:decide (((a:Nat):Int) ≥ ((b:Nat):Int))=decide (b≤a):=zoG
theorem zsK{s:List Nat}{p:Nat}{Q:D->Prop}(hl:s.length≤300000)(h:Q (.str (zfE++zbm (zev s p)++zjy++zbm (zkp s p)))):0+zfE.length≤LIM∧((zev s p:Nat):Int).natAbs.log2<1920∧zfE.length+(zbm (zev s p)).length≤LIM∧(zfE++zbm (zev s p)).length+zjy.length≤LIM∧((zkp s p:Nat):Int).natAbs.log2<1920∧(zfE++zbm (zev s p)++zjy).length+(zbm (zkp s p)).length≤LIM ∧
  Q (.str (zfE++zbm (zev s p)++zjy++zbm (zkp s p))):=by
 have h1:zev s p≤1000000:=yk (zmv s p) (yk (yG hl) (by decide));have h2:zkp s p≤1000000:=yk (zo4 s p) (yk (yG hl) (by decide));have l1:=zfj h1;have l2:=zfj h2;have a1:(zfE++zbm (zev s p)).length≤12:=zbz (a:=5) (yr 5) l1 (by decide);have a2:(zfE++zbm (zev s p)++zjy).length≤21:=zbz (b:=9) a1 (yr 9) (by decide);exact⟨by decide,zkd h1,zbC (a:=5) (yr 5) l1 (by decide),zbC (b:=9) a1 (yr 9) (by decide),zkd h2,zbC a2 l2 (by decide),h⟩
theorem zzU{p k:Nat}(h:k<p):(p:Int)-((p-1-k:Nat):Int)=(k+1:Nat):=by
 refine zfc (Nat.le.dest h) λd hzz=>?_;subst hzz;rw[Nat.sub_sub,Nat.add_comm 1 k,Nat.succ_eq_add_one,Nat.add_sub_cancel_left,Int.natCast_add (k+1) d,Int.add_sub_cancel]
theorem zqS{s:List Nat}{p:Nat}{Q:D->Prop}{X:Err->Prop}(hs:okT s=true)(h:Q (.str (zaQ s p))):zfO zeB 2 [.str s,.int (p:Nat)] Q X:=by
 have hl:=zc7 hs;refine ym (yk hl (by decide)) ?_;unfold zaQ at h;by_cases hc:s.length≤p
 ·rw[if_pos hc]at h
  exact za8 (zuH.trans (yv hc)) h
 ·rw[if_neg hc]at h
  have hp:p≤s.length:=yc (xh hc);refine za7 (zuH.trans (yx hc)) ((zvR hp _ _).mpr ?_);have F:=zsK hl h;refine ym (zl9 _) (ym (zl9 _) ?_);by_cases h1:zev s p=1
  ·have hcount:(s.take p).count 10=0:=Nat.succ.inj h1
   have hk:zkp s p=p+1:=by
    unfold zkp;rw[zpL (by rw[List.mem_reverse];exact List.count_eq_zero.mp hcount),List.length_reverse,List.length_take,Nat.min_eq_left hp]
   rw[hk]at F;exact za8 (c:=eqD (.int (zev s p)) (.int 1)) ((zr1 _ _).trans (yv (ya Int.ofNat h1))) F
  ·have hm:10∈s.take p:=by
    rw[←List.count_pos_iff];exact Nat.pos_of_ne_zero λz=>h1 (ya Nat.succ z)
   refine za7 (c:=eqD (.int (zev s p)) (.int 1)) ((zr1 _ _).trans (yx λz=>h1 (Int.ofNat.inj z))) ((zz7 hp _ _ _).mpr (zrI (if_pos hm) ?_));have hk:(p:Int)-((p-1-((s.take p).reverse.takeWhile (· != 10)).length:Nat):Int)=(zkp s p:Nat):=by
    unfold zkp;have:=zzr (c:=10) (l:=(s.take p).reverse) (by simpa using hm);rw[List.length_reverse,List.length_take]at this;exact zzU (yA this (Nat.min_le_left ..))
   rw[←hk]at F;exact F
theorem zyV(ds:List D)(Q:D->Prop)(X:Err->Prop)(h:zbu (zcY ds []) Q X):ds.length=2∧zfO zeB 2 ds Q X:=by
 refine zfB (zhe h) λs p hzz _ h=>?_;subst hzz;refine zb0 (zdR h) λhp h=>?_;refine zcM (zjf hp) λp hzz hp1 hs=>?_;subst hzz;exact⟨rfl,zqS hs (zf2 h)⟩
theorem zuM{s:List Nat}{p:Nat}{Q:D->Prop}{X:Err->Prop}(hs:okT s=true)(hp:p≤400000)(h:Q (.str (zaQ s p))):zbu (zcY [.str s,.int (p:Nat)] []) Q X:=zfS (zl4 hs hp) ((zcb ..).mpr h)
theorem zug{s m:List Nat}{p:Nat}{Q:D->Prop}{X:Err->Prop}(hs:okT s=true)(hp:p≤400000)(hm:m.length≤2000)(h:Q (.exc .toml (zcH s p m))):zfO zeN 1 [.str s,.int (p:Nat),.str m] Q X:=by
 have hc:=zj9 (zc7 hs) p;have a1:([]++m).length≤2000:=hm;have a2:([]++m++zzm).length≤2005:=zbz (b:=5) a1 (yr 5) (by decide);have a3:([]++m++zzm++zaQ s p).length≤2105:=zbz a2 hc (by decide);refine ym (zbh (yk hm (by decide))) (ym (zbh (zbC (yr 0) hm (by decide))) (ym (zbh (zbC (b:=5) a1 (yr 5) (by decide))) (zuM hs hp ?_)));exact⟨zbh (yk hc (by decide)),zbh (zbC a2 hc (by decide)),zbh (zbC (b:=1) a3 (yr 1) (by decide)),h⟩
theorem zAP(ds dk:List D)(Q:D->Prop)(X:Err->Prop)(h:zbu (zaK ds dk) Q X):ds.length+0=3∧zfO zeN 1 (ds++dk) Q X:=by
 left;obtain⟨s,p,m,rfl,rfl,h⟩:=zhI h;refine zb0 (zdR h) λhp h=>?_;obtain⟨hp,hm⟩:=yw.mp hp;refine zcM (zjf hp) λp hzz hp1 hs=>?_;subst hzz;exact⟨rfl,zug hs hp1 (yF hm) (zf2 h)⟩
theorem zAm{s:List Nat}(p q:Nat):zbA s (some (p:Int)) (some (q:Int))=cut s p q:=by
 unfold zbA cut za3;dsimp only;rw[if_neg (Int.not_lt.mpr (Int.natCast_nonneg p)),if_neg (Int.not_lt.mpr (Int.natCast_nonneg q)),zdO,zdO];rcases Nat.le_total p s.length with h|h
 ·rw[Nat.min_eq_left h]
  rcases Nat.le_total q s.length with k|k
  ·rw[Nat.min_eq_left k]
  ·rw[Nat.min_eq_right k,List.take_of_length_le (Nat.le_of_eq List.length_drop),List.take_of_length_le (Nat.le_trans (Nat.le_of_eq List.length_drop) (Nat.sub_le_sub_right k p))]
 ·rw[Nat.min_eq_right h,List.drop_of_length_le (Nat.le_refl s.length),List.drop_of_length_le h,List.take_nil,List.take_nil]
theorem zsa(s:List Nat)(p q:Nat):(cut s p q).length≤q-p:=by unfold cut;rw[List.length_take];lia
theorem zhD(s:List Nat)(p q:Nat):(cut s p q).length≤s.length:=by unfold cut;rw[List.length_take,List.length_drop];exact yk (Nat.min_le_right ..) (Nat.sub_le ..)
theorem zh0{s:List Nat}{p q c:Nat}(h:c∈cut s p q):∃i,p≤i∧i<q∧s[i]?=some c:=by
 unfold cut at h;refine zfc (List.getElem?_of_mem h) λi hi=>?_;rw[List.getElem?_take]at hi
 split at hi
 ·rw[List.getElem?_drop]at hi
  exact⟨p+i,yR ..,Nat.add_lt_of_lt_sub' (by assumption),hi⟩
 ·exact zae hi
theorem zke{s:List Nat}{p c:Nat}(h:s[p]?=some c):cut s p (p+1)=[c]:=by
 unfold cut;rw[zdL h,Nat.add_sub_cancel_left];rfl
theorem zmd(s:List Nat)(p:Nat):cut s p p=[]:=by unfold cut;simp
theorem zlz{s:List Nat}{p q c:Nat}(hpq:p≤q)(h:s[q]?=some c):cut s p (q+1)=cut s p q++[c]:=by
 unfold cut;rw[Nat.succ_sub (by assumption),List.take_add_one,List.getElem?_drop,Nat.add_sub_cancel' (by assumption),h];rfl
theorem zzt{s:List Nat}(hs:okT s=true)(p q:Nat):(cut s p q).length≤300000:=yk (zhD s p q) (zc7 hs)
theorem zpQ{n:Nat}(h:n≤300000):n≤1000000:=yk h (by decide)
theorem zrv{n:Nat}(h:n≤300000):n≤400000:=yk h (by decide)
theorem zuP(s:List Nat)(p q:Nat):(cut s p q).length≤s.length-p:=by unfold cut;rw[List.length_take,List.length_drop];exact Nat.min_le_right ..
theorem zlw{s:List Nat}{p k:Nat}(hk:1≤k)(h:(cut s p (p+k)).length=k):p+k≤s.length:=by
 have g:=zuP s p (p+k);rw[h]at g;exact Nat.add_le_of_le_sub' (yc (Nat.lt_of_sub_pos (yA hk g))) g
theorem zda{s:List Nat}{p q:Nat}{Q:Res->Prop}(hs:okT s=true)(k:Q (.pl (.str (cut s p q)))):zhM s (some (p:Nat)) (some (q:Nat)) Q:=by
 unfold zhM;refine⟨zbh (yk (zc7 hs) (by decide)),?_⟩;rw[zAm];exact k
theorem zei{s:List Nat}{p:Nat}{m:List Nat}{Q:D->Prop}{X:Err->Prop}(hs:okT s=true)(hp:p≤400000)(hm:m.length≤2000)(h:Q (.exc .toml (zcH s p m))):zbu (zaK [.str s,.int (p:Nat),.str m] []) Q X:=zfS (by rw[zl4 hs hp,decide_eq_true hm];rfl) ((zcb ..).mpr h)
theorem zn4{s:List Nat}{p:Nat}{cs:List (List Nat)}{Q:D->Prop}{X:Err->Prop}(hs:okT s=true)(hp:p≤400000)(h:Q (.int (zds s cs p:Nat))):zbu (zdM [.str s,.int (p:Nat),.fset cs] []) Q X:=zfS (zl4 hs hp) ((zcb ..).mpr h)
theorem zyt{n:Nat}{Q:D->Prop}{X:Err->Prop}(h:Q (.bool (zdc n))):zbu (zbj [.int (n:Nat)] []) Q X:=zfS (yv (yB n)) ((zcb ..).mpr h)
noncomputable def zhR(r:R)(Q:D->Prop)(X:Err->Prop):Prop:=match r with
 |.ok (p,t)=>Q (.tup [.int (p:Nat),.str t])
 |.error m=>X (.toml,m)
theorem zcc(r:R)(Q:D->Prop)(X:Err->Prop):zbu (some (toR r)) Q X=zhR r Q X:=by
 induction r with
 |ok x=>exact zcb ..
 |error m=>exact zjm ..
theorem zwN{a b:Nat}(h:a≤b):decide (((a:Nat):Int)≤((b:Nat):Int))=true:=zoG.trans (yv h)
theorem zwm{s:List Nat}{p k:Nat}{Q:D->Prop}{X:Err->Prop}(hs:okT s=true)(hp:p≤400000)(hk:1≤k)(hk':k≤8)(h:zhR (zwK s p k) Q X):zbu (zbq [.str s,.int (p:Nat),.int (k:Nat)] []) Q X:=
 zfS (by rw[zl4 hs hp,show decide ((1:Int)≤(k:Nat))=true from zwN hk,show decide (((k:Nat):Int)≤8)=true from zwN hk'];rfl) ((zcc ..).mpr h)
theorem zzs(c:Nat):decide ([c]∈zwY.map λc=>[c])=zeR c:=by
 by_cases h:c<128
 ·have:∀c:Fin 128,decide ([c.1]∈zwY.map λc=>[c])=zeR c.1:=by right
  exact this ⟨c,h⟩
 ·have h1:¬[c]∈zwY.map λc=>[c]:=λq=>by
   refine zaO (List.mem_map.mp q) λd hd e=>?_;have:∀d∈zwY,d<128:=by decide
   have e:=(yQ e).1;exact h (e▸this d hd)
  rw[decide_eq_false h1];have h2:zeR c=false:=by
   unfold zeR;rw[decide_eq_false λz=>h (Nat.lt_of_le_of_lt z (by decide):c<128),decide_eq_false λz=>h (Nat.lt_of_le_of_lt z (by decide):c<128),decide_eq_false λz=>h (Nat.lt_of_le_of_lt z (by decide):c<128)];simp only[Bool.and_false,Bool.or_false]
  exact h2.symm
theorem zwS(a b:Nat):eqD (.int (a:Nat)) (.int (b:Nat))=decide (a=b):=by
 rw[zr1];by_cases h:a=b
 ·rw[decide_eq_true h,decide_eq_true (show((a:Nat):Int)=(b:Nat)from congrArg Int.ofNat h)]
 ·rw[decide_eq_false h,decide_eq_false (show ¬((a:Nat):Int)=(b:Nat)from λz=>h (Int.ofNat.inj z))]
theorem zsP{n:Nat}(h:zdc n=true):n≤1114111:=by
 unfold zdc at h;rcases Bool.or_eq_true_iff.mp h with h|h
 ·exact yk (yF h) (by decide)
 ·exact yF (yw.mp h).2
theorem ztm(l:List Nat):(l.all λc=>decide ([c]∈zwY.map λc=>[c]))=l.all zeR:=by rw[funext zzs]
theorem zuC{s:List Nat}{p k:Nat}{Q:D->Prop}{X:Err->Prop}(hs:okT s=true)(hp:p≤400000)(hk:1≤k)(hk':k≤8)(h:zhR (zwK s p k) Q X):zfO zdV 2 [.str s,.int (p:Nat),.int (k:Nat)] Q X:=by
 refine zda (q:=p+k) hs ?_;refine ym (zpQ (zzt hs p (p+k))) (ym (zl9 _) (ym (zl9 _) ?_));unfold zwK at h;dsimp only at h;by_cases h1:(cut s p (p+k)).length=k
 ·refine za7 (c:=!eqD (.int ((cut s p (p+k)).length:Nat)) (.int (k:Nat))) (by rw[zwS,decide_eq_true h1];rfl) (ym rfl ?_)
  by_cases h2:(cut s p (p+k)).all zeR=true
  ·rw[if_neg (by rw[not_or];exact⟨λz=>z h1,λz=>z h2⟩)]at h
   refine za7 (c:=!((cut s p (p+k)).all λc=>decide ([c]∈zwY.map λc=>[c]))) (by rw[ztm,h2];rfl) (za7 rfl ?_);have hne:cut s p (p+k)≠[]:=λz=>by rw[z]at h1;rw[←h1]at hk;exact absurd hk (by decide)
   refine ym rfl (ym hne (ym h2 (ym (yk (yJ h1) (yk hk' (by decide))) (zyt (n:=ze4 (cut s p (p+k))) ?_))));by_cases h3:zdc (ze4 (cut s p (p+k)))=true
   ·rw[if_pos h3]at h
    exact za7 (c:=!zdc (ze4 (cut s p (p+k)))) (ya _ h3) (ym (yB _) (ym (yV.mpr (zsP h3)) (ym (yK rfl) h)))
   ·rw[if_neg h3]at h
    exact za8 (c:=!zdc (ze4 (cut s p (p+k)))) (by rw[Bool.not_eq_true _|>.mp h3];rfl) (zei (p:=p+k) hs (zrv (yk (zlw hk h1) (zc7 hs))) (by decide) h)
  ·rw[if_pos (.inr h2)]at h
   exact za8 (c:=!((cut s p (p+k)).all λc=>decide ([c]∈zwY.map λc=>[c]))) (by rw[ztm,Bool.not_eq_true _|>.mp h2];rfl) (za8 rfl (zei hs hp (by decide) h))
 ·rw[if_pos (.inl h1)]at h
  exact za8 (c:=!eqD (.int ((cut s p (p+k)).length:Nat)) (.int (k:Nat))) (by rw[zwS,decide_eq_false h1];rfl) (za8 rfl (zei hs hp (by decide) h))
theorem zB8(ds dk:List D)(Q:D->Prop)(X:Err->Prop)(h:zbu (zbq ds dk) Q X):ds.length+0=3∧zfO zdV 2 (ds++dk) Q X:=by
 left;obtain⟨s,p,k,rfl,rfl,h⟩:=zhI h;refine zb0 (zdR h) λhp h=>?_;obtain⟨hp,hk⟩:=yw.mp hp;obtain⟨hk1,hk2⟩:=yw.mp hk;clear hk;refine zcM (zjf hp) λp hzz hp1 hs=>?_;subst hzz;refine zfc (Int.eq_ofNat_of_zero_le (Int.le_trans (by decide) (yF hk1))) λk hzz=>?_;subst hzz;exact⟨rfl,zuC hs hp1 (yV.mp (yF hk1)) (yV.mp (yF hk2)) ((zcc ..).mp h)⟩
theorem zrl{s:List Nat}{cs:List (List Nat)}{p q:Nat}:(cut s p q).all (λc=>!decide ([c]∈cs))=false->∃i c,p≤i∧i<q∧s[i]?=some c∧[c]∈cs:=by
 intro h;rw[List.all_eq_false]at h;left;refine zaO h λc hc hm=>?_;refine zcM (zh0 hc) λi h1 h2 h3=>?_;exact zkD i c h1 h2 h3 (by simpa using hm)
noncomputable def zAC(r:Except (List Nat) Nat)(Q:D->Prop)(X:Err->Prop):Prop:=match r with
 |.ok n=>Q (.int (n:Nat))
 |.error m=>X (.toml,m)
@[reducible]noncomputable def zxX:PS:=(zaf (zeA (ziq (zdf (zly (zad 3) (zab (zb4 (zad 0) (zf0 (zad 1)) (zf0 (zad 5))) zag) (zyW true)))) (zaf (zeX (zdf (pe2 (zbD (zad 0) (zad 1)) (zad 3) zAh)) (zaf (zdZ 1 (zai (.int 1)) zec) zam)) (zaf (zdY (peK zaK (zab (zad 0) (zab (zad 1) (zab (zhc [] [(zai (.str [70,111,117,110,100,32,105,110,118,97,108,105,100,32,99,104,97,114,97,99,116,101,114,32])),(pe1 (zbD (zad 0) (zad 1)) zqW)]) zag))) zag)) zam)) zam) (zaf (zbt (zad 5)) zam))
theorem ztb(r:Except (List Nat) Nat)(Q:D->Prop)(X:Err->Prop):zbu (some (toN r)) Q X=zAC r Q X:=by
 cases r with
 |ok x=>exact zcb ..
 |error m=>exact zjm ..
theorem zpG{s e:List Nat}{cs:List (List Nat)}{eof:Bool}{p:Nat}{Q:D->Prop}{X:Err->Prop}(hs:okT s=true)(hp:p≤350000)(he:(za2 e).length≤1000)(h:zAC (zeo s p e cs eof) Q X):zbu (zcV [.str s,.int (p:Nat),.str e] [.fset cs,.bool eof]) Q X:=
 zfS (by rw[zgB hs hp,decide_eq_true he];rfl) ((ztb ..).mpr h)
noncomputable def zjF(s:List Nat)(p:Nat)(cs:List (List Nat))(np:Nat):Except (List Nat) Nat:=if(cut s p np).all λc=>!decide ([c]∈cs)then .ok np else .error (zcH s (zcD s cs p) (zbX++za2 (cut s (zcD s cs p) (zcD s cs p+1))))
theorem zid{s e:List Nat}{cs:List (List Nat)}{eof:Bool}{p j:Nat}(h:zbS s e p s.length=some j):zeo s p e cs eof=zjF s p cs j:=by unfold zeo;rw[h];rfl
theorem zlc{s e:List Nat}{cs:List (List Nat)}{p:Nat}(h:zbS s e p s.length=none):zeo s p e cs true=.error (zcH s s.length (zhu++za2 e)):=by unfold zeo;rw[h];rfl
theorem zql{s e:List Nat}{cs:List (List Nat)}{p:Nat}(h:zbS s e p s.length=none):zeo s p e cs false=zjF s p cs s.length:=by unfold zeo;rw[h];rfl
theorem zld{s e:List Nat}{cs:List (List Nat)}{eof:Bool}{p np:Nat}{Q:D->Prop}{X:Err->Prop}(hs:okT s=true)(h:zAC (zjF s p cs np) Q X):zxX (zmD Q) (λx _=>X x) [.val (.str s),.val (.int (p:Nat)),.val (.str e),.val (.fset cs),.val (.bool eof),.val (.int (np:Nat))]:=by
 refine zda (q:=np) hs ?_;refine ym rfl ?_;unfold zjF at h;by_cases hall:(cut s p np).all (λc=>!decide ([c]∈cs))=true
 ·rw[if_pos hall]at h
  exact za7 (c:=!((cut s p np).all λc=>!decide ([c]∈cs))) (ya _ hall) h
 ·rw[if_neg hall]at h
  have hall:=Bool.not_eq_true _|>.mp hall;refine za8 (c:=!((cut s p np).all λc=>!decide ([c]∈cs))) (ya _ hall) ?_;refine zBd (zrl hall) λi c h1 h2 h3 h4=>?_;refine zgr (s.length+1-p) (λn st=>∃q:Nat,st=[.val (.str s),.val (.int (q:Nat)),.val (.str e),.val (.fset cs),.val (.bool eof),.val (.int (np:Nat))]∧zcD s cs q=zcD s cs p∧q≤i∧n=s.length+1-q) (zBt p rfl rfl h1 rfl) λn st hI=>?_;clear h2 h1;refine zzi hI λq hst g1 g2 g3=>?_;subst hst g3;have hq:q<s.length:=yY g2 (zaC h3);have hq3:=yk (yc hq) (zc7 hs);obtain⟨c',hc'⟩:∃c',s[q]?=some c':=⟨_,yu hq⟩;refine ze5 hc' (zpQ hq3) ?_;by_cases hm:[c']∈cs
  ·rw[←g1,zlh hc' hm,zke hc']at h
   have hr:=(ziv hs (yy hc')).2;refine za7 (c:=!decide ([c']∈cs)) (by rw[decide_eq_true hm];rfl) ?_;refine ym (by decide) ?_;refine ze5 hc' (zpQ hq3) ?_;refine ym (zbh (yk hr (by decide))) (ym (zbh (zbC (a:=24) (by decide) hr (by decide))) ?_);refine zei hs (zrv hq3) ?_ ?_
   ·exact zbz (x:=zbX) (a:=24) (by decide) hr (by decide)
   ·exact h
  ·refine za8 (c:=!decide ([c']∈cs)) (by rw[decide_eq_false hm];rfl) ⟨_,zzT hq,q+1,rfl,(zjA hc' hm).symm.trans g1,Nat.lt_of_le_of_ne g2 λz=>?_,rfl⟩
   clear g2;subst z;rw[h3]at hc';obtain rfl:=yj hc';exact hm h4
theorem zv6(c:Bool)(s e:List Nat)(p:Nat)(Q:Res->Prop)(X:Err->Prop):zpf c s [.str e,.int (p:Nat)] Q X=znZ X Q c (zbS s e p s.length):=by rw[ix2,zfR]
theorem zq9{s e:List Nat}{cs:List (List Nat)}{eof:Bool}{p:Nat}{Q:D->Prop}{X:Err->Prop}(hs:okT s=true)(he:(za2 e).length≤1000)(h:zAC (zeo s p e cs eof) Q X):zfO zf3 1 [.str s,.int (p:Nat),.str e,.fset cs,.bool eof] Q X:=by
 refine(zv6 _ _ _ _ _ _).mpr ?_;cases hf:zbS s e p s.length with
 |some j=>
  rw[zid hf]at h;exact zrI rfl (zld hs h)
 |none=>
  refine zvA rfl rfl λm=>?_;refine ym (zpQ (zc7 hs)) ?_
  induction eof with
  |true=>
   rw[zlc hf]at h;refine za8 rfl ?_;refine ym (by decide) (ym (zbh (yk he (by decide))) (ym (zbh (zbC (a:=9) (by decide) he (by decide))) ?_));refine zei hs (zrv (zc7 hs)) ?_ ?_
   ·exact zbz (x:=zhu) (a:=9) (by decide) he (by decide)
   ·exact h
  |false=>
   rw[zql hf]at h;exact za7 rfl (zld hs h)
theorem zyJ(ds dk:List D)(Q:D->Prop)(X:Err->Prop)(h:zbu (zcV ds dk) Q X):ds.length+2=5∧zfO zf3 1 (ds++dk) Q X:=by
 left;obtain⟨s,p,e,cs,eof,rfl,rfl,h⟩:=zr6 h;refine zb0 (zdR h) λhp h=>?_;obtain⟨hp,he⟩:=yw.mp hp;refine zcM (zeO hp) λp hzz hp1 hs=>?_;subst hzz;exact⟨rfl,zq9 hs (yF he) ((ztb ..).mp h)⟩
theorem okL{l:List Nat}(h:(l.all λc=>decide (c<1114112))=true):okD (.str l)=true:=zgP λc hc=>by
 rw[List.all_eq_true]at h;exact yF (h c hc)
theorem zw6{s:List Nat}(hs:okT s=true)(p q:Nat):okD (.str (cut s p q))=true:=zgP λc hc=>by
 obtain⟨i,_,_,h⟩:=zh0 hc;exact(ziv hs (yy h)).1
theorem zsk{s:List Nat}(hs:okT s=true){p c:Nat}(h:s[p]?=some c):okD (.str [c])=true:=zgP λd hd=>by
 rw[List.mem_singleton.mp hd];exact(ziv hs (yy h)).1
theorem zwC{x y:List Nat}(h:x=y):eqD (.str x) (.str y)=true:=(ztr x y).trans (yv h)
theorem zw7{x y:List Nat}(h:¬x=y):eqD (.str x) (.str y)=false:=(ztr x y).trans (yx h)
theorem zm6{x y:Nat}(h:¬x=y):¬[x]=[y]:=λz=>h (yQ z).1
@[reducible]noncomputable def zxz:PS:=(zaf (zeA (zdf (pe2 (zad 3) (zai (.str [92,117])) eqP)) (zaf (zbt (peK zbq (zab (zad 0) (zab (zad 1) (zab (zai (.int 4)) zag))) zag)) zam) zam) (zaf (zeA (zdf (pe2 (zad 3) (zai (.str [92,85])) eqP)) (zaf (zbt (peK zbq (zab (zad 0) (zab (zad 1) (zab (zai (.int 8)) zag))) zag)) zam) zam) (zaf (znX (zaf (zbt (zep (zab (zad 1) (zab (zx0 true (zad 3)) zag)))) zam) [⟨.key,none,(zaf (zdY (peK zaK (zab (zad 0) (zab (zad 1) (zab (zai (.str [85,110,101,115,99,97,112,101,100,32,39,92,39,32,105,110,32,97,32,115,116,114,105,110,103])) zag))) zag)) zam)⟩]) zam)))
theorem zp2{s:List Nat}{p:Nat}{ml:Bool}{Q:D->Prop}{X:Err->Prop}(hs:okT s=true)(hp:p+2≤400000)(c:Slot)
  (h:zhR (zze s p) Q X) :
  zxz (zmD Q) (λx _=>X x) [.val (.str s),.val (.int ((p+2:Nat))),.val (.bool ml),.val (.str (cut s p (p+2))),c]:=by
 have o3:=zw6 hs p (p+2);unfold zze at h;refine ym o3 (ym (okL rfl) ?_);by_cases h1:cut s p (p+2)=[92,117]
 ·rw[if_pos h1]at h
  exact za8 (zwC h1) (zwm (k:=4) hs hp (by decide) (by decide) h)
 ·rw[if_neg h1]at h
  refine za7 (zw7 h1) (ym o3 (ym (okL rfl) ?_));by_cases h2:cut s p (p+2)=[92,85]
  ·rw[if_pos h2]at h
   exact za8 (zwC h2) (zwm (k:=8) hs hp (by decide) (by decide) h)
  ·rw[if_neg h2]at h
   refine za7 (zw7 h2) ?_;left;cases he:zu5 (cut s p (p+2))with
   |some v=>
    rw[he]at h;exact zv5 he (ym (yK rfl) h)
   |none=>
    rw[he]at h;exact zvV he (ym rfl λm=>zei hs hp (by decide) h)
theorem ztU(s:List Nat)(p:Nat):zmF s p false=zze s p:=if_neg λz=>Bool.noConfusion z.1
theorem zCx{p:Nat}(h:p≤350000):p+2≤400000:=yk (yU h 2) (by decide)
theorem zt0{s:List Nat}{p:Nat}{Q:D->Prop}{X:Err->Prop}(hs:okT s=true)(hp:p≤350000)(h:zhR (zmF s p false) Q X) :
  zfO za1 2 [.str s,.int (p:Nat),.bool false] Q X:=by
 rw[ztU]at h;refine zda (q:=p+2) hs ?_;exact za7 rfl (za7 rfl (zp2 hs (zCx hp) .unb h))
theorem zi2(s:List Nat)(cs:List (List Nat))(p:Nat):p≤zds s cs p:=yR ..
theorem zjW{s:List Nat}{cs:List (List Nat)}{p n:Nat}(h1:p≤n)(h2:s.length≤n):zds s cs p≤n:=by
 unfold zds;have:=(List.takeWhile_sublist (l:=s.drop p) (λc=>decide ([c]∈cs))).length_le;rw[List.length_drop]at this;exact yk (yZ (yk this (Nat.sub_le_sub_right h2 p)) p) (yJ (Nat.add_sub_cancel' h1))
theorem ztW{l a b c:List Nat}:decide (l∈[a,b,c])=true↔l=a∨l=b∨l=c:=by
 rw[decide_eq_true_iff,List.mem_cons,List.mem_cons,List.mem_singleton]
theorem zBy{c:Nat}{a b:R}{Q:D->Prop}{X:Err->Prop}(e:c=10)(h:zhR (if c=10 then a else b) Q X):zhR a Q X:=by rwa[if_pos e]at h
theorem zBo{c:Nat}{a b:R}{Q:D->Prop}{X:Err->Prop}(e:¬c=10)(h:zhR (if c=10 then a else b) Q X):zhR b Q X:=by rwa[if_neg e]at h
theorem zvF{s:List Nat}{p:Nat}{Q:D->Prop}{X:Err->Prop}(hs:okT s=true)(hp:p≤350000)(h:zhR (zmF s p true) Q X) :
  zfO za1 2 [.str s,.int (p:Nat),.bool true] Q X:=by
 have o3:=zw6 hs p (p+2);have h2:=zCx hp;refine zda (q:=p+2) hs ?_;refine za8 rfl ?_;unfold zmF at h;by_cases hm:cut s p (p+2)=[92,32]∨cut s p (p+2)=[92,9]∨cut s p (p+2)=[92,10]
 ·rw[if_pos ⟨rfl,hm⟩]at h
  refine za8 (ztW.mpr hm) (za8 rfl ?_);refine ym o3 (ym (okL rfl) ?_);unfold zBe at h;by_cases e:cut s p (p+2)=[92,10]
  ·rw[if_pos e]at h
   refine za7 (c:=!eqD (.str (cut s p (p+2))) (.str [92,10])) (by rw[zwC e];rfl) ?_;refine zn4 (p:=p+2) hs h2 ?_;exact ym (yK rfl) h
  ·rw[if_neg e]at h
   refine za8 (c:=!eqD (.str (cut s p (p+2))) (.str [92,10])) (by rw[zw7 e];rfl) ?_;refine zn4 (p:=p+2) hs h2 ?_;have hq:zds s wsL (p+2)≤400000:=zjW h2 (yk (zc7 hs) (by decide));have hqm:zds s wsL (p+2)≤1000000:=yk hq (by decide);left;cases hc:s[zds s wsL (p+2)]? with
   |none=>
    rw[hc]at h;exact zg8 hc hqm λm=>ym (yK rfl) h
   |some c=>
    rw[hc]at h;refine ze5 hc hqm (ym (zsk hs hc) (ym (okL rfl) ?_));by_cases e2:c=10
    ·have h:=zBy e2 h
     refine za7 (c:=!eqD (.str [c]) (.str [10])) (by rw[zwC (by rw[e2])];rfl) ?_;refine zn4 (p:=zds s wsL (p+2)+1) hs (yk (zaC hc) (yk (zc7 hs) (by decide))) ?_;exact ym (yK rfl) h
    ·have h:=zBo e2 h
     refine za8 (c:=!eqD (.str [c]) (.str [10])) (by rw[zw7 (zm6 e2)];rfl) ?_;exact zei hs hq (by decide) h
 ·rw[if_neg λz=>hm z.2]at h
  refine za7 (Bool.eq_false_iff.mpr λz=>hm (ztW.mp z)) (za7 rfl ?_);exact zp2 hs h2 .unb h
theorem zzv(ds dk:List D)(Q:D->Prop)(X:Err->Prop)(h:zbu (zbP ds dk) Q X):ds.length+1=3∧zfO za1 2 (ds++[.bool false]) Q X:=by
 left;obtain⟨s,p,rfl,_,h⟩:=zhe h;refine zb0 (zdR h) λhp h=>?_;refine zcM (zeO hp) λp hzz hp1 hs=>?_;subst hzz;exact⟨rfl,zt0 hs hp1 ((zcc ..).mp h)⟩
theorem zBN(ds dk:List D)(Q:D->Prop)(X:Err->Prop)(h:zbu (zbo ds dk) Q X):ds.length+1=3∧zfO za1 2 (ds++dk) Q X:=by
 left;obtain⟨s,p,ml,rfl,rfl,h⟩:=zki h;refine zb0 (zdR h) λhp h=>?_;obtain⟨hp,hm⟩:=yw.mp hp;clear hm;refine zcM (zeO hp) λp hzz hp1 hs=>?_;subst hzz
 induction ml with
 |false=>exact⟨rfl,zt0 hs hp1 ((zcc ..).mp h)⟩
 |true=>exact⟨rfl,zvF hs hp1 ((zcc ..).mp h)⟩
theorem zzA{s:List Nat}{p:Nat}{ml:Bool}{Q:D->Prop}{X:Err->Prop}(hs:okT s=true)(hp:p≤350000)(hm:(zzq||!ml)=true)(h:zhR (zmF s p ml) Q X):zbu (zbo [.str s,.int (p:Nat)] [.bool ml]) Q X:=
 zfS (by rw[zgB hs hp,hm];rfl) ((zcc ..).mpr h)
theorem zAq(ds dk:List D)(Q:D->Prop)(X:Err->Prop)(h:zbu (za4 ds dk) Q X):ds.length+0=2∧zfO zbE 0 (ds++dk) Q X:=by
 left;obtain⟨s,p,rfl,rfl,h⟩:=zhe h;refine zb0 (zdR h) λhp h=>?_;obtain⟨hp,hm⟩:=yw.mp hp;refine zcM (zeO hp) λp hzz hp1 hs=>?_;subst hzz;exact⟨rfl,zzA hs hp1 (hm) ((zcc ..).mp h)⟩
theorem zCo{p:Nat}(h:p≤340000):p+1≤350000:=yk (yU h 1) (by decide)
theorem zv9{s:List Nat}{p:Nat}{Q:D->Prop}{X:Err->Prop}(hs:okT s=true)(hp:p≤340000)(h:zhR (zrc s p) Q X):zfO zcP 1 [.str s,.int (p:Nat)] Q X:=by
 refine zpG (p:=p+1) hs (zCo hp) (by right) ?_;show zAC (zeo s (p+1) [39] zqF true) _ _;unfold zrc at h;revert h;cases zeo s (p+1) [39] zqF true with
 |error m=>exact λh=>h
 |ok np=>
  intro h;refine zda (s:=s) (p:=p+1) (q:=np) hs ?_;exact ym (yK rfl) h
theorem zB2(ds dk:List D)(Q:D->Prop)(X:Err->Prop)(h:zbu (zb8 ds dk) Q X):ds.length+0=2∧zfO zcP 1 (ds++dk) Q X:=by
 left;obtain⟨s,p,rfl,rfl,h⟩:=zhe h;refine zb0 (zdR h) λhp h=>?_;refine zcM (zeO hp) λp hzz hp1 hs=>?_;subst hzz;exact⟨rfl,zv9 hs hp1 ((zcc ..).mp h)⟩
theorem zAo{s:List Nat}{p:Nat}{Q:D->Prop}{X:Err->Prop}(hs:okT s=true)(hp:p≤340000)(h:zhR (zrc s p) Q X):zbu (zb8 [.str s,.int (p:Nat)] []) Q X:=zfS (zgB hs hp) ((zcc ..).mpr h)
theorem zpz{s:List Nat}{p:Nat}{ml:Bool}{Q:D->Prop}{X:Err->Prop}(hs:okT s=true)(hp:p≤350000)(hm:(zzq||!ml)=true)(h:zhR (zcv s ml p) Q X):zbu (zbx [.str s,.int (p:Nat)] [.bool ml]) Q X:=
 zfS (by rw[zgB hs hp,hm];rfl) ((zcc ..).mpr h)
theorem zBu(ds dk:List D)(Q:D->Prop)(X:Err->Prop)(h:zbu (zba ds dk) Q X):ds.length+0=2∧zfO zcy 0 (ds++dk) Q X:=by
 left;obtain⟨s,p,rfl,rfl,h⟩:=zhe h;refine zb0 (zdR h) λhp h=>?_;refine zcM (zeO hp) λp hzz hp1 hs=>?_;subst hzz;exact⟨rfl,zpz (p:=p+1) hs (zCo hp1) (Bool.or_true _) ((zcc ..).mp h)⟩
theorem zAQ{s:List Nat}{p:Nat}{Q:D->Prop}{X:Err->Prop}(hs:okT s=true)(hp:p≤340000)(h:zhR (zcv s false (p+1)) Q X):zbu (zba [.str s,.int (p:Nat)] []) Q X:=zfS (zgB hs hp) ((zcc ..).mpr h)
theorem zsp{s:List Nat}{p k p':Nat}{t:List Nat}(hk:1≤k)(h:zwK s p k=.ok (p',t)):p≤p'∧p'≤s.length∧t.length=1:=by
 unfold zwK at h;dsimp only at h;by_cases c1:(cut s p (p+k)).length≠k∨¬(cut s p (p+k)).all zeR=true
 ·rw[if_pos c1]at h;exact ziI h
 ·rw[if_neg c1]at h
  rw[not_or]at c1;by_cases c2:zdc (ze4 (cut s p (p+k)))=true
  ·rw[if_pos c2]at h
   cases h;exact⟨yR ..,zlw hk (Classical.not_not.mp c1.1),rfl⟩
  ·rw[if_neg c2]at h;exact ziI h
theorem zvp{d v:List Nat}(h:zu5 d=some v):v.length=1:=by
 have:∀p∈zff,p.2.length=1:=by decide
 exact this _ (zn9 h)
theorem zBp{p n:Nat}(h:p<n):p+2≤n+10:=by lia
theorem zxo{s:List Nat}{p p':Nat}{t:List Nat}(hp:p<s.length)(h:zze s p=.ok (p',t)):p+2≤p'∧p'≤s.length+10∧t.length≤1:=by
 unfold zze at h;by_cases c1:cut s p (p+2)=[92,117]
 ·rw[if_pos c1]at h
  have q:=zsp (by decide) h;exact⟨q.1,yk q.2.1 (yR ..),yJ q.2.2⟩
 ·rw[if_neg c1]at h
  by_cases c2:cut s p (p+2)=[92,85]
  ·rw[if_pos c2]at h
   have q:=zsp (by decide) h;exact⟨q.1,yk q.2.1 (yR ..),yJ q.2.2⟩
  ·rw[if_neg c2]at h
   left;cases e:zu5 (cut s p (p+2))with
   |some v=>
    rw[e]at h;cases h;exact⟨yr _,zBp hp,yJ (zvp e)⟩
   |none=>rw[e]at h;exact ziI h
theorem zyk{s:List Nat}{p p':Nat}{t:List Nat}(hp:p<s.length)(h:zBe s p=.ok (p',t)):p+2≤p'∧p'≤s.length+10∧t.length≤1:=by
 unfold zBe at h;have l2:p+2≤s.length+1:=yG hp;have b:∀cs,zds s cs (p+2)≤s.length+1:=λcs=>zjW l2 (yi _);by_cases c1:cut s p (p+2)=[92,10]
 ·rw[if_pos c1]at h
  left;cases h;exact⟨zi2 ..,yk (b _) (yZ (by decide) _),yb _⟩
 ·rw[if_neg c1]at h
  cases e:s[zds s wsL (p+2)]? with
  |none=>
   rw[e]at h;cases h;exact⟨zi2 ..,yk (b _) (yZ (by decide) _),yb _⟩
  |some c=>
   rw[e]at h;by_cases c2:c=10
   ·have h:(if c=10 then _ else _)=_:=h
    rw[if_pos c2]at h;cases h;exact⟨yk (zi2 ..) (yk (yi _) (zi2 ..)),yk (zjW (n:=s.length+2) (yG (b _)) (yR _ 2)) (yZ (by decide:2≤10) _),yb _⟩
   ·have h:(if c=10 then _ else _)=_:=h
    rw[if_neg c2]at h;exact ziI h
theorem zlP{s:List Nat}{p p':Nat}{ml:Bool}{t:List Nat}(hp:p<s.length)(h:zmF s p ml=.ok (p',t)):p+2≤p'∧p'≤s.length+10∧t.length≤1:=by
 unfold zmF at h;by_cases c:ml=true∧(cut s p (p+2)=[92,32]∨cut s p (p+2)=[92,9]∨cut s p (p+2)=[92,10])
 ·rw[if_pos c]at h;exact zyk hp h
 ·rw[if_neg c]at h;exact zxo hp h
theorem zna{s acc:List Nat}{ml:Bool}{k k':List Nat->Nat->R}{p c:Nat}(hp:p<s.length)(h:∀a q,p<q->k a q=k' a q):bOn s ml k acc p c=bOn s ml k' acc p c:=by
 unfold bOn;rw[h _ (p+1) (Nat.lt_succ_self p),h _ (p+1) (Nat.lt_succ_self p)];cases he:zmF s p ml with
 |error m=>rfl
 |ok r=>
  dsimp only;rw[h _ r.1 (Nat.lt_of_lt_of_le (Nat.lt_add_of_pos_right (by decide)) (zlP hp (p':=r.1) (t:=r.2) he).1)]
theorem zcR{s acc:List Nat}{ml:Bool}{p:Nat}(h:s[p]?=none):∀n,zgE s ml n acc p=.error (zcH s p zfz)
 |0=>rfl
 |n+1=>ya (bAt s ml (zgE s ml n) acc p) h
theorem zgV{s acc:List Nat}{ml:Bool}{p c:Nat}(h:s[p]?=some c)(n:Nat):zgE s ml (n+1) acc p=bOn s ml (zgE s ml n) acc p c:=ya (bAt s ml (zgE s ml n) acc p) h
theorem zj7{s:List Nat}{p:Nat}(h:s.length+1-p≤0):s[p]?=none:=List.getElem?_eq_none_iff.mpr (Nat.le_of_succ_le (Nat.sub_eq_zero_iff_le.mp (Nat.le_zero.mp h)))
theorem zio{s n p q:Nat}(h:s+1-p≤n+1)(k:p<q):s+1-q≤n:=yk (Nat.sub_le_sub_left k _) (Nat.sub_le_of_le_add (yk (Nat.sub_le_iff_le_add.mp h) (yJ (Nat.add_right_comm n 1 p))))
theorem znE{s:List Nat}{ml:Bool}:∀(n m:Nat)(acc:List Nat)(p:Nat),s.length+1-p≤n->s.length+1-p≤m->zgE s ml n acc p=zgE s ml m acc p
 |0,m,acc,p,h,_=>by rw[zcR (zj7 h),zcR (zj7 h)]
 |n+1,0,acc,p,_,h=>by rw[zcR (zj7 h),zcR (zj7 h)]
 |n+1,m+1,acc,p,h1,h2=>by
  cases hc:s[p]? with
  |none=>rw[zcR hc,zcR hc]
  |some c=>
   rw[zgV hc,zgV hc];exact zna (zaC hc) λa q hq=>znE n m a q (zio h1 hq) (zio h2 hq)
theorem zdn{s:List Nat}{ml:Bool}{acc:List Nat}{p:Nat}(h:s[p]?=none):zdu s ml acc p=.error (zcH s p zfz):=zcR h _
noncomputable def zyg(s:List Nat)(ml:Bool)(acc:List Nat)(r:R):R:=match r with
 |.error m=>.error m
 |.ok (p',t)=>zdu s ml (acc++t) p'
noncomputable def zgS(s:List Nat)(ml:Bool)(acc:List Nat)(p c:Nat):R:=if c=34 then
   if ml=false then .ok (p+1,acc)
   else if cut s p (p+3)=[34,34,34]then .ok (p+3,acc)
   else zdu s ml (acc++[34]) (p+1)
  else if c=92 then zyg s ml acc (zmF s p ml)
  else if[c]∈zfG ml then .error (zcH s p (zgW++za2 [c]))
  else zdu s ml (acc++[c]) (p+1)
theorem zcX{s:List Nat}{ml:Bool}{acc:List Nat}{p c:Nat}(h:s[p]?=some c):zdu s ml acc p=zgS s ml acc p c:=by
 have hp:=zaC h;have e:s.length+1-p=(s.length-p)+1:=Nat.succ_sub (yc hp);have g:zdu s ml acc p=bOn s ml (zdu s ml) acc p c:=by
  show zgE s ml (s.length+1-p) acc p=_;rw[e,zgV h];exact zna hp λa q hq=>znE _ _ a q (zio (yJ e) hq) (yr _)
 rw[g];rfl
@[reducible]noncomputable def bst(s:List Nat)(q:Nat)(res:List Nat)(s0:Nat)(c7 c8:Slot):Sl:=[.val (.str s),.val (.int (q:Nat)),.val (.bool false),.val (.fset zqF),.val (.fn (ofString "parse_basic_str_escape")),.val (.str res),.val (.int (s0:Nat)),c7,c8]
theorem zy0{s:List Nat}{p:Nat}{Q:D->Prop}{X:Err->Prop}(hs:okT s=true)(hp:p≤350000)(h:zhR (zmF s p false) Q X):zbu (zbP [.str s,.int (p:Nat)] []) Q X:=zfS (zgB hs hp) ((zcc ..).mpr h)
theorem zrS{s res:List Nat}{s0 q:Nat}(h1:s0≤q)(h3:res.length≤s0):(res++cut s s0 q).length≤q:=by
 rw[List.length_append];exact yk (ye h3 (zsa s s0 q)) (yJ (Nat.add_sub_cancel' h1))
theorem zAW{n q p:Nat}(h:q<n)(k:q+2≤p):n+1-p<n+1-q:=Nat.sub_lt_sub_left (Nat.lt_succ_of_lt h) (yA (yf (by decide)) k)
noncomputable def BI(s:List Nat)(Q:D->Prop)(X:Err->Prop)(n:Nat)(st:Sl):Prop:=∃(q s0:Nat)(res:List Nat)(c7 c8:Slot),st=bst s q res s0 c7 c8∧s0≤q∧q≤350000∧res.length≤s0∧zhR (zdu s false (res++cut s s0 q) q) Q X∧n=s.length+1-q
theorem zvv{q:Nat}(h:q≤350000):q≤400000:=yk h (by decide)
theorem zgn{q:Nat}(h:q≤350000):q≤LIM:=yk h (by decide)
theorem zs8{s:List Nat}{p:Nat}{Q:D->Prop}{X:Err->Prop}(hs:okT s=true)(hp:p≤350000)(h:zhR (zcv s false p) Q X):zfO zcu 6 [.str s,.int (p:Nat),.bool false] Q X:=by
 refine za7 rfl ?_;refine zgr (s.length+1-p) (BI s Q X) ⟨p,p,[],.unb,.unb,rfl,yr _,hp,yb _,by rw[zmd];exact h,rfl⟩ λn st hI=>?_;left;obtain⟨q,s0,res,c7,c8,hst,h1,h2,h3,h4,h5⟩:=hI;subst hst h5;refine za8 rfl ?_;have hl:=zc7 hs;left;cases hc:s[q]? with
 |none=>
  rw[zdn hc]at h4;exact zg8 hc (yk h2 (by decide)) λm=>zei hs (zvv h2) (by decide) h4
 |some c=>
  rw[zcX hc]at h4;have hq:=zaC hc;have oc:=zsk hs hc;have ha:=zrS (s:=s) h1 h3;unfold zgS at h4;refine ze5 hc (yk h2 (by decide)) ?_;refine ym oc (ym (okL rfl) ?_);by_cases e1:c=34
  ·rw[if_pos e1,if_pos rfl]at h4
   refine za8 (zwC (by rw[e1])) ?_;refine za8 rfl ?_;refine zda (p:=s0) (q:=q) hs ?_;exact ym (zgn (yk (yJ yP.symm) (yk ha h2))) (ym (yK rfl) h4)
  ·rw[if_neg e1]at h4
   refine za7 (zw7 (zm6 e1)) ?_;refine ym oc (ym (okL rfl) ?_);by_cases e2:c=92
   ·rw[if_pos e2]at h4
    refine za8 (zwC (by rw[e2])) ?_;refine zda (p:=s0) (q:=q) hs ?_;refine ym (zgn (yk (yJ yP.symm) (yk ha h2))) ?_;refine Exists.intro (ofString "parse_basic_str_escape") (Exists.intro zbR (ym rfl (ym (by kernel_rfl) (ym rfl (ym (by decide) (ym (λ_=>rfl) ?_))))));refine zy0 hs h2 ?_;revert h4;cases he:zmF s q false with
    |error m=>exact λh4=>h4
    |ok r=>
     obtain⟨p',t⟩:=r;intro h4;have hle:=zlP hq he;have h35:p'≤350000:=yk hle.2.1 (yk (yU hl 10) (by decide));have hx:(res++cut s s0 q++t).length≤p':=zbz ha hle.2.2 (yk (yi _) hle.1);refine ym (zgn (yk (yJ yP.symm) (yk hx h35))) ⟨_,zAW hq hle.1,p',p',res++cut s s0 q++t,_,_,rfl,yr _,h35,hx,?_,rfl⟩;rw[zmd,List.append_nil];exact h4
   ·rw[if_neg e2]at h4
    refine za7 (zw7 (zm6 e2)) ?_;by_cases e3:[c]∈zqF
    ·have e3':[c]∈zfG false:=e3
     rw[if_pos e3']at h4;have hr:=(ziv hs (yy hc)).2;refine za8 (yv e3) ?_;refine ym (by decide) (ym (zbh (yk hr (by decide))) (ym (zbh (zbC (a:=18) (by decide) hr (by decide))) ?_));refine zei hs (zvv h2) ?_ ?_
     ·exact zbz (x:=zgW) (a:=18) (by decide) hr (by decide)
     ·exact h4
    ·have e3':¬[c]∈zfG false:=e3
     rw[if_neg e3']at h4;refine za7 (yx e3) ⟨_,zzT hq,q+1,s0,res,_,_,rfl,xg h1,yk hq (yk hl (by decide)),h3,?_,rfl⟩;rw[zlz h1 hc,←List.append_assoc];exact h4
theorem zlq(s p:List Nat)(q:Nat){n:Nat}(hn:p.length=n+1):Txt.startswith3 (mk s) (mk p) (q:Nat)=decide (cut s q (q+p.length)=p):=by
 have hf:fromIndex (mk s).length (q:Nat)=q:=by unfold fromIndex;rw[if_neg (Int.not_lt.mpr (Int.natCast_nonneg q)),Int.max_eq_right (Int.natCast_nonneg q)];rfl
 have hm:∀l,(mk l).cps.toList=l:=λl=>rfl;unfold Txt.startswith3;rw[hf,StrLaws.subAt_eq,zaI,zaI,hm,hm];unfold cut;rw[Nat.add_sub_cancel_left];by_cases e:(s.drop q).take p.length=p
 ·have h:=ya List.length e
  rw[List.length_take,List.length_drop]at h;have h:p.length≤s.length-q:=yk (yJ h.symm) (Nat.min_le_right ..);have h0:q≤s.length:=yc (Nat.lt_of_sub_pos (yA (hn▸yd n) h));simp[e,Nat.add_le_of_le_sub' h0 h]
 ·simp[e]
@[reducible]noncomputable def zCL(s:List Nat)(q:Nat)(res:List Nat)(s0:Nat)(c7 c8:Slot):Sl:=[.val (.str s),.val (.int (q:Nat)),.val (.bool true),.val (.fset zkq),.val (.fn (ofString "parse_basic_str_escape_multiline")),.val (.str res),.val (.int (s0:Nat)),c7,c8]
theorem zyT{s:List Nat}{p:Nat}{Q:D->Prop}{X:Err->Prop}(hs:okT s=true)(hp:p≤350000)(h:zhR (zmF s p true) Q X):zbu (za4 [.str s,.int (p:Nat)] []) Q X:=zfS (by rw[zgB hs hp];rfl) ((zcc ..).mpr h)
noncomputable def BJ(s:List Nat)(Q:D->Prop)(X:Err->Prop)(n:Nat)(st:Sl):Prop:=∃(q s0:Nat)(res:List Nat)(c7 c8:Slot),st=zCL s q res s0 c7 c8∧s0≤q∧q≤350000∧res.length≤s0∧zhR (zdu s true (res++cut s s0 q) q) Q X∧n=s.length+1-q
theorem zqL{s:List Nat}{p:Nat}{Q:D->Prop}{X:Err->Prop}(hs:okT s=true)(hp:p≤350000)(h:zhR (zcv s true p) Q X):zfO zcu 6 [.str s,.int (p:Nat),.bool true] Q X:=by
 refine za8 rfl ?_;refine zgr (s.length+1-p) (BJ s Q X) ⟨p,p,[],.unb,.unb,rfl,yr _,hp,yb _,by rw[zmd];exact h,rfl⟩ λn st hI=>?_;left;obtain⟨q,s0,res,c7,c8,hst,h1,h2,h3,h4,h5⟩:=hI;subst hst h5;refine za8 rfl ?_;have hl:=zc7 hs;left;cases hc:s[q]? with
 |none=>
  rw[zdn hc]at h4;exact zg8 hc (yk h2 (by decide)) λm=>zei hs (zvv h2) (by decide) h4
 |some c=>
  rw[zcX hc]at h4;have hq:=zaC hc;have oc:=zsk hs hc;have ha:=zrS (s:=s) h1 h3;unfold zgS at h4;refine ze5 hc (yk h2 (by decide)) ?_;refine ym oc (ym (okL rfl) ?_);by_cases e1:c=34
  ·rw[if_pos e1,if_neg (λz:true=false=>Bool.noConfusion z)]at h4
   refine za8 (zwC (by rw[e1])) ?_;refine za7 rfl ?_;by_cases e4:cut s q (q+3)=[34,34,34]
   ·rw[if_pos e4]at h4
    refine za8 (c:=Txt.startswith3 (mk s) (mk [34,34,34]) ((q:Nat):Int)) ((zlq s [34,34,34] q rfl).trans (yv e4)) ?_;refine zda (p:=s0) (q:=q) hs ?_;exact ym (zgn (yk (yJ yP.symm) (yk ha h2))) (ym (yK rfl) h4)
   ·rw[if_neg e4]at h4
    refine za7 (c:=Txt.startswith3 (mk s) (mk [34,34,34]) ((q:Nat):Int)) ((zlq s [34,34,34] q rfl).trans (yx e4)) ⟨_,zzT hq,q+1,s0,res,_,_,rfl,xg h1,yk hq (yk hl (by decide)),h3,?_,rfl⟩;rw[zlz h1 hc,←List.append_assoc,e1];exact h4
  ·rw[if_neg e1]at h4
   refine za7 (zw7 (zm6 e1)) ?_;refine ym oc (ym (okL rfl) ?_);by_cases e2:c=92
   ·rw[if_pos e2]at h4
    refine za8 (zwC (by rw[e2])) ?_;refine zda (p:=s0) (q:=q) hs ?_;refine ym (zgn (yk (yJ yP.symm) (yk ha h2))) ?_;refine Exists.intro (ofString "parse_basic_str_escape_multiline") (Exists.intro za5 (ym rfl (ym (by kernel_rfl) (ym rfl (ym (by decide) (ym (λ_=>rfl) ?_))))));refine zyT hs h2 ?_;revert h4;cases he:zmF s q true with
    |error m=>exact λh4=>h4
    |ok r=>
     obtain⟨p',t⟩:=r;intro h4;have hle:=zlP hq he;have h35:p'≤350000:=yk hle.2.1 (yk (yU hl 10) (by decide));have hx:(res++cut s s0 q++t).length≤p':=zbz ha hle.2.2 (yk (yi _) hle.1);refine ym (zgn (yk (yJ yP.symm) (yk hx h35))) ⟨_,zAW hq hle.1,p',p',res++cut s s0 q++t,_,_,rfl,yr _,h35,hx,?_,rfl⟩;rw[zmd,List.append_nil];exact h4
   ·rw[if_neg e2]at h4
    refine za7 (zw7 (zm6 e2)) ?_;by_cases e3:[c]∈zkq
    ·have e3':[c]∈zfG true:=e3
     rw[if_pos e3']at h4;have hr:=(ziv hs (yy hc)).2;refine za8 (yv e3) ?_;refine ym (by decide) (ym (zbh (yk hr (by decide))) (ym (zbh (zbC (a:=18) (by decide) hr (by decide))) ?_));refine zei hs (zvv h2) ?_ ?_
     ·exact zbz (x:=zgW) (a:=18) (by decide) hr (by decide)
     ·exact h4
    ·have e3':¬[c]∈zfG true:=e3
     rw[if_neg e3']at h4;refine za7 (yx e3) ⟨_,zzT hq,q+1,s0,res,_,_,rfl,xg h1,yk hq (yk hl (by decide)),h3,?_,rfl⟩;rw[zlz h1 hc,←List.append_assoc];exact h4
theorem zxG(ds dk:List D)(Q:D->Prop)(X:Err->Prop)(h:zbu (zbx ds dk) Q X):ds.length+1=3∧zfO zcu 6 (ds++dk) Q X:=by
 left;obtain⟨s,p,ml,rfl,rfl,h⟩:=zki h;refine zb0 (zdR h) λhp h=>?_;obtain⟨hp,hm⟩:=yw.mp hp;clear hm;refine zcM (zeO hp) λp hzz hp1 hs=>?_;subst hzz
 induction ml with
 |false=>exact⟨rfl,zs8 hs hp1 ((zcc ..).mp h)⟩
 |true=>exact⟨rfl,zqL hs hp1 ((zcc ..).mp h)⟩
noncomputable def zfC(s:List Nat)(d p:Nat)(t:List Nat):R:=if cut s p (p+1)=[d]then(if cut s (p+1) (p+1+1)=[d]then .ok (p+1+1,t++[d,d])else .ok (p+1,t++[d]))else .ok (p,t)
noncomputable def lfN(s:List Nat)(p:Nat):Nat:=if cut s (p+3) (p+3+1)=[10]then p+3+1 else p+3
noncomputable def zn0(s:List Nat)(p:Nat):R:=match zeo s p [39,39,39] zkq true with
 |.error m=>.error m
 |.ok np=>zfC s 39 (np+3) (cut s p np)
noncomputable def zzj(s:List Nat)(p:Nat):R:=match zcv s true p with
 |.error m=>.error m
 |.ok (p',t)=>zfC s 34 p' t
noncomputable def zkf(s:List Nat)(lit:Bool)(p:Nat):R:=if lit then zn0 s (lfN s p)else zzj s (lfN s p)
noncomputable def zbM:Fn:=zuu cS cI cB λs p lit=>gO (okB 340000 s p) (some (toR (zkf s lit p.toNat)))
@[reducible]noncomputable def zcj:PS:=(zaf (zdZ 1 (zai (.int 3)) zec) (zaf (zeA (zdf (zcI (zad 0) (zab (zai (.str [10])) (zab (zad 1) zag)) zdW)) (zaf (zdZ 1 (zai (.int 1)) zec) zam) zam) (zaf (zeA (zdf (zad 2)) (zaf (zao 3 (zai (.str [39]))) (zaf (zao 4 (peK zcV (zab (zad 0) (zab (zad 1) (zab (zai (.str [39,39,39])) zag))) (zab (zai zaR) (zab (zai (.bool true)) zag)))) (zaf (zao 5 (zb4 (zad 0) (zf0 (zad 1)) (zf0 (zad 4)))) (zaf (zao 1 (pe2 (zad 4) (zai (.int 3)) zde)) zam)))) (zaf (zao 3 (zai (.str [34]))) (zaf (zi7 [1,5] (peK zbx (zab (zad 0) (zab (zad 1) zag)) (zab (zai (.bool true)) zag))) zam))) (zaf (zeA (ziq (zdf (zcI (zad 0) (zab (zad 3) (zab (zad 1) zag)) zdW))) (zaf (zbt (zep (zab (zad 1) (zab (zad 5) zag)))) zam) zam) (zaf (zdZ 1 (zai (.int 1)) zec) (zaf (zeA (ziq (zdf (zcI (zad 0) (zab (zad 3) (zab (zad 1) zag)) zdW))) (zaf (zbt (zep (zab (zad 1) (zab (pe2 (zad 5) (zad 3) zde) zag)))) zam) zam) (zaf (zdZ 1 (zai (.int 1)) zec) (zaf (zbt (zep (zab (zad 1) (zab (pe2 (zad 5) (pe2 (zad 3) (zai (.int 2)) zzd) zde) zag)))) zam))))))))
theorem zfl{s:List Nat}{ml:Bool}{p':Nat}{t:List Nat}:∀(n:Nat){acc:List Nat}{q:Nat},s.length+1-q≤n->acc.length≤q->zdu s ml acc q=.ok (p',t)->t.length≤p'∧p'≤s.length+10
 |0,acc,q,hn,ha,h=>by
  rw[zdn (zj7 hn)]at h;exact ziI h
 |n+1,acc,q,hn,ha,h=>by
  left;cases hc:s[q]? with
  |none=>rw[zdn hc]at h;exact ziI h
  |some c=>
   rw[zcX hc]at h;have hq:=zaC hc;unfold zgS at h;by_cases e1:c=34
   ·rw[if_pos e1]at h
    by_cases e2:ml=false
    ·rw[if_pos e2]at h
     left;cases h;exact⟨xg ha,yk hq (yR _ 10)⟩
    ·rw[if_neg e2]at h
     by_cases e3:cut s q (q+3)=[34,34,34]
     ·rw[if_pos e3]at h
      cases h;exact⟨Nat.le_add_right_of_le ha,ye (yc hq) (by decide)⟩
     ·rw[if_neg e3]at h
      exact zfl n (zio hn (yS q)) (by rw[List.length_append];exact yG ha) h
   ·rw[if_neg e1]at h
    by_cases e2:c=92
    ·rw[if_pos e2]at h
     cases he:zmF s q ml with
     |error m=>rw[he]at h;exact ziI h
     |ok r=>
      obtain⟨p1,t1⟩:=r;rw[he]at h;have hle:=zlP hq he;exact zfl n (zio hn (yA (yf (by decide)) hle.1)) (by rw[List.length_append];exact yk (ye ha hle.2.2) (yk (yi _) hle.1)) h
    ·rw[if_neg e2]at h
     by_cases e3:[c]∈zfG ml
     ·rw[if_pos e3]at h;exact ziI h
     ·rw[if_neg e3]at h
      exact zfl n (zio hn (yS q)) (by rw[List.length_append];exact yG ha) h
theorem zib(s:List Nat)(d q:Nat):Txt.startswith3 (mk s) (mk [d]) ((q:Nat):Int)=decide (cut s q (q+1)=[d]):=zlq s [d] q rfl
@[reducible]noncomputable def zy2:PS:=(zaf (zeA (ziq (zdf (zcI (zad 0) (zab (zad 3) (zab (zad 1) zag)) zdW))) (zaf (zbt (zep (zab (zad 1) (zab (zad 5) zag)))) zam) zam) (zaf (zdZ 1 (zai (.int 1)) zec) (zaf (zeA (ziq (zdf (zcI (zad 0) (zab (zad 3) (zab (zad 1) zag)) zdW))) (zaf (zbt (zep (zab (zad 1) (zab (pe2 (zad 5) (zad 3) zde) zag)))) zam) zam) (zaf (zdZ 1 (zai (.int 1)) zec) (zaf (zbt (zep (zab (zad 1) (zab (pe2 (zad 5) (pe2 (zad 3) (zai (.int 2)) zzd) zde) zag)))) zam)))))
@[reducible]noncomputable def zxR:PS:=(zaf (zeA (zdf (zad 2)) (zaf (zao 3 (zai (.str [39]))) (zaf (zao 4 (peK zcV (zab (zad 0) (zab (zad 1) (zab (zai (.str [39,39,39])) zag))) (zab (zai zaR) (zab (zai (.bool true)) zag)))) (zaf (zao 5 (zb4 (zad 0) (zf0 (zad 1)) (zf0 (zad 4)))) (zaf (zao 1 (pe2 (zad 4) (zai (.int 3)) zde)) zam)))) (zaf (zao 3 (zai (.str [34]))) (zaf (zi7 [1,5] (peK zbx (zab (zad 0) (zab (zad 1) zag)) (zab (zai (.bool true)) zag))) zam))) (zaf (zeA (ziq (zdf (zcI (zad 0) (zab (zad 3) (zab (zad 1) zag)) zdW))) (zaf (zbt (zep (zab (zad 1) (zab (zad 5) zag)))) zam) zam) (zaf (zdZ 1 (zai (.int 1)) zec) (zaf (zeA (ziq (zdf (zcI (zad 0) (zab (zad 3) (zab (zad 1) zag)) zdW))) (zaf (zbt (zep (zab (zad 1) (zab (pe2 (zad 5) (zad 3) zde) zag)))) zam) zam) (zaf (zdZ 1 (zai (.int 1)) zec) (zaf (zbt (zep (zab (zad 1) (zab (pe2 (zad 5) (pe2 (zad 3) (zai (.int 2)) zzd) zde) zag)))) zam))))))
theorem zwu{s t:List Nat}{d q:Nat}{lit:Bool}{c4:Slot}{Q:D->Prop}{X:Err->Prop}(ht:t.length≤400000)(h:zhR (zfC s d q t) Q X) :
  zy2 (zmD Q) (λx _=>X x) [.val (.str s),.val (.int (q:Nat)),.val (.bool lit),.val (.str [d]),c4,.val (.str t)]:=by
 unfold zfC at h;by_cases e1:cut s q (q+1)=[d]
 ·rw[if_pos e1]at h
  refine za7 (c:=!Txt.startswith3 (mk s) (mk [d]) ((q:Nat):Int)) (by rw[zib,decide_eq_true e1];rfl) ?_;by_cases e2:cut s (q+1) (q+1+1)=[d]
  ·rw[if_pos e2]at h
   refine za7 (c:=!Txt.startswith3 (mk s) (mk [d]) ((q+1:Nat):Int)) (by rw[zib,decide_eq_true e2];rfl) ?_;refine ym (by decide) (ym (by decide) (ym (by decide:2≤LIM) ?_));exact ym (zbh (zbC (b:=2) ht (yr 2) (by decide))) (ym (yK rfl) h)
  ·rw[if_neg e2]at h
   refine za8 (c:=!Txt.startswith3 (mk s) (mk [d]) ((q+1:Nat):Int)) (by rw[zib,decide_eq_false e2];rfl) ?_;exact ym (zbh (zbC (b:=1) ht (yr 1) (by decide))) (ym (yK rfl) h)
 ·rw[if_neg e1]at h
  refine za8 (c:=!Txt.startswith3 (mk s) (mk [d]) ((q:Nat):Int)) (by rw[zib,decide_eq_false e1];rfl) ?_;exact ym (yK rfl) h
theorem zzF{s:List Nat}{q:Nat}{lit:Bool}{Q:D->Prop}{X:Err->Prop}(hs:okT s=true)(hq:q≤350000)(h:zhR (if lit then zn0 s q else zzj s q) Q X) :
  zxR (zmD Q) (λx _=>X x) [.val (.str s),.val (.int (q:Nat)),.val (.bool lit),.unb,.unb,.unb]:=by
 have hl:=zc7 hs
 induction lit with
 |true=>
  refine za8 rfl ?_;refine zpG (p:=q) (e:=[39,39,39]) (cs:=zkq) hs hq (by right) ?_;have h:zhR (zn0 s q) Q X:=h;unfold zn0 at h;revert h;cases hu:zeo s q [39,39,39] zkq true with
  |error m=>exact λh=>h
  |ok np=>
   intro h;refine zda (s:=s) (p:=q) (q:=np) hs ?_;exact zwu (q:=np+3) (yk (zhD s q np) (yk hl (by decide))) h
 |false=>
  refine za7 rfl ?_;refine zpz (ml:=true) hs hq rfl ?_;have h:zhR (zzj s q) Q X:=h;unfold zzj at h;revert h;cases hu:zcv s true q with
  |error m=>exact λh=>h
  |ok r=>
   obtain⟨p',t⟩:=r;intro h;have hx:=zfl _ (yr _) (yb _) hu;exact zwu (q:=p') (yk hx.1 (yk hx.2 (yk (yU hl 10) (by decide)))) h
theorem zxi{s:List Nat}{p:Nat}{lit:Bool}{Q:D->Prop}{X:Err->Prop}(hs:okT s=true)(hp:p≤340000)(h:zhR (zkf s lit p) Q X):zfO zcj 3 [.str s,.int (p:Nat),.bool lit] Q X:=by
 unfold zkf lfN at h;by_cases e:cut s (p+3) (p+3+1)=[10]
 ·rw[if_pos e]at h
  refine za8 (c:=Txt.startswith3 (mk s) (mk [10]) ((p+3:Nat):Int)) ((zib ..).trans (yv e)) ?_;exact zzF (q:=p+3+1) hs (yk (yU hp 4) (by decide)) h
 ·rw[if_neg e]at h
  refine za7 (c:=Txt.startswith3 (mk s) (mk [10]) ((p+3:Nat):Int)) ((zib ..).trans (yx e)) ?_;exact zzF (q:=p+3) hs (yk (yU hp 3) (by decide)) h
theorem zyK(ds dk:List D)(Q:D->Prop)(X:Err->Prop)(h:zbu (zbM ds dk) Q X):ds.length+1=3∧zfO zcj 3 (ds++dk) Q X:=by
 left;obtain⟨s,p,lit,rfl,rfl,h⟩:=zki h;refine zb0 (zdR h) λhp h=>?_;refine zcM (zeO hp) λp hzz hp1 hs=>?_;subst hzz;exact⟨rfl,zxi hs hp1 ((zcc ..).mp h)⟩
theorem zu0{s:List Nat}{p:Nat}{lit:Bool}{Q:D->Prop}{X:Err->Prop}(hs:okT s=true)(hp:p≤340000)(h:zhR (zkf s lit p) Q X):zbu (zbM [.str s,.int (p:Nat)] [.bool lit]) Q X:=
 zfS (zgB hs hp) ((zcc ..).mpr h)
theorem zBV(k m:Nat):k+1+m-k=m+1:=by rw[Nat.add_assoc,Nat.add_sub_cancel_left,Nat.add_comm]
theorem zml{s:List Nat}{k j c:Nat}(h:s[k]?=some c)(hj:k<j):cut s k j=c::cut s (k+1) j:=by
 obtain⟨m,rfl⟩:=Nat.le.dest hj;unfold cut;simp only[zdL h,zBV,Nat.add_sub_cancel_left];rfl
theorem zoy{s:List Nat}{a b i:Nat}(h:a+i<b):(cut s a b)[i]?=s[a+i]?:=by
 unfold cut;rw[List.getElem?_take,if_pos (Nat.lt_sub_iff_add_lt'.mpr h),List.getElem?_drop]
theorem zxk{c:Nat}:c∈zig↔c<32∨c=127:=by
 have h1:∀x∈zig,x<32∨x=127:=by decide
 have h2:∀x:Fin 32,x.1∈zig:=by decide
 refine⟨h1 c,λh=>?_⟩;rcases h with h|rfl
 ·exact h2 ⟨c,h⟩
 ·decide
theorem zpA{c:Nat}{l:List Nat}:[c]∈l.map (λc=>[c])↔c∈l:=by
 rw[List.mem_map];exact⟨λ⟨d,h,e⟩=>(yQ e).1▸h,λh=>⟨c,h,rfl⟩⟩
theorem zgl{c:Nat}:[c]∈zkq↔c∈zig∧c≠9∧c≠10:=by
 unfold zkq;rw[zpA,List.mem_filter,Bool.and_eq_true,bne_iff_ne,bne_iff_ne]
theorem zjg{c:Nat}:[c]∈zqF↔c∈zig∧c≠9:=by
 unfold zqF;rw[zpA,List.mem_filter,bne_iff_ne]
section
variable{s:List Nat}{q c:Nat}
end
section
variable{S:St0}{sh:zak}
theorem zwR(l:List Nat):(mk l).cps.toList=l:=by simp[mk]
@[reducible]noncomputable def cD:Dc D:=⟨some,id,λh=>(yj h)⟩
noncomputable def zCR:D->PV
 |.int i,Q,_=>i.natAbs.log2<1920∧Q (.pl (.str (zbm i)))
 |.str l,Q,_=>Q (.pl (.str l))
 |_,_,_=>False
noncomputable def zBl(ds:List D)(Q:Res->Prop)(X:Err->Prop):Prop:=one cD ds λd=>zCR d Q X
theorem zpx:zm0 S sh (.type "str") zBl:=λa ow st s vs ds Q X f R h q=>by
 left;refine zaO (zfs q) λd e q=>?_;rw[e]at h;clear e;refine zaO (zd2 h) λv hzz h1=>?_;subst hzz;clear h;cases d<;>first
  |exact q.elim
  |skip
 ·obtain⟨t,rfl⟩:=zes.int h1
  exact P.str_of_int q.1 (zcU R (znN _) q.2)
 ·obtain⟨t,rfl⟩:=zes.str h1
  exact P.str_of_str (zcU (tk:=s.toks) R rfl q)
end
section
structure Isi(T:String):Prop where
 ty:typeOf (.type T)=pure (.type "type")
 str:isSubtype (.type "str") (.type T)=pure (T == "str")
 int:isSubtype (.type "int") (.type T)=pure (T == "int")
 tup:isSubtype (.type "tuple") (.type T)=pure (T == "tuple")
theorem zpq:Isi "list":=⟨F.isi_meta_list,F.sub_str_list,F.sub_int_list,F.sub_tuple_list⟩
variable{S:St0}{sh:zak}
theorem zsI(D0:Std S){T:String}{p:D->PV}(P:zlF S sh (λv=>call (.builtin "isinstance") [v,.type T]) p){np tp pos:Pos}{e:Expr}{c:PE}(hx:sh.scope.names.lookup (ofString "isinstance")=some .globalImplicit)(hg:S.mg (ofString "isinstance")=none)
  (hx':sh.scope.names.lookup (Str.ofString T)=some .globalImplicit)(hg':S.mg (Str.ofString T)=none)(hn':Str.ofString T≠"__name__")(hb':bootBuiltins (Str.ofString T)=some (.type T))(H:zau S sh e c)
  (he:∀env,starEach [e,.Name (Str.ofString T) tp] env=(false,eval e env)::starEach [.Name (Str.ofString T) tp] env)(hplain:∀env,(backTo pos (starEach [e,.Name (Str.ofString T) tp] env)).any (·.1)=false)
  (hd':(Str.ofString T==("__debug__":Str))=false) :
  zau S sh (.Call (.Name (ofString "isinstance") np) [e,.Name (Str.ofString T) tp] [] pos) (pe1 c p):=λa ow st s Q X f R q=>by
 show wpAny _ _ (do callWith pos (←eval (.Name (ofString "isinstance") np) a.env) [] (backTo pos (starEach [e,.Name (Str.ofString T) tp] a.env)) (backToKw pos (keywordEach [] a.env))) _ _ _;refine yl (zcm f hx (D0.g.keeps (R.stays f)) (D0.b.keeps (R.stays f)) hg ((D0.blt _ (by right)).trans (by right:bootBuiltins (ofString "isinstance")=some (.builtin "isinstance"))) ?_ (by right));refine Calls.callWith_builtin (hplain _) ?_;have hgo:wpAny (model S.prog S.w) a.A (spliced (backTo pos (starEach [e,.Name (Str.ofString T) tp] a.env))) (λvs s₂=>wpAny (model S.prog S.w) a.A (call (.builtin "isinstance") vs) (OkE S a ow st s Q) (zfA S a st s X) s₂) (zfA S a st s X) s:=by
  refine wpAny_items_cons (yt (H a ow st s _ X f R q) (λv s₁ h=>?_) λ_ _ x=>x) (he _);left;obtain⟨r,st₁,h1,h2,h3⟩:=h;have R1:=R.step f h2;refine wpAny_items_cons (zcm f hx' (D0.g.keeps (R1.stays f)) (D0.b.keeps (R1.stays f)) hg' ((D0.blt _ hn').trans hb') ?_ hd') rfl;refine wpAny_items_nil ?_;exact yt (P a _ st₁ s₁ v r.d _ _ f R1 h3.c h1) (λ_ _ x=>x.toE h2) λ_ _ x=>x.toE h2
 have hb'':backTo pos (starEach [e,.Name (Str.ofString T) tp] a.env)=(false,eval e a.env)::backTo pos (starEach [.Name (Str.ofString T) tp] a.env):=by rw[he];rfl
 rw[hb'']at hgo⊢;exact Calls.evalArgs_plain (yt hgo (λvs s₂ h=>by rw[List.nil_append];exact h) λ_ _ x=>x)
end
section
open Builtin Builtin.Str
section
variable{S:St0}{sh:zak}
noncomputable def zbg(l p:List Nat):List (List Nat):=((0::(zkr l p 0 l.length).map (· + p.length)).zip (zkr l p 0 l.length++[l.length])).map λx=>cut l x.1 x.2
theorem zxM(l:List Nat)(i j:Nat):strSub (mk l) i j=mk (cut l i j):=by
 have h:(strSub (mk l) i j).cps.toList=cut l i j:=by
  unfold strSub cut;simp only[mk,Array.toList_extract,List.extract_eq_take_drop]
 rw[←h,ze6]
theorem zmu(l p:List Nat):partsBetween (mk l) (zkr l p 0 l.length) p.length=(zbg l p).map mk:=by
 unfold partsBetween zbg;rw[zaI,List.map_map];exact ya (List.map · _) (funext λx=>zxM l x.1 x.2)
theorem zhA(l p:List Nat):occurrences (mk l) (mk p) 0 (mk l).length ((mk l).length+1)=zkr l p 0 l.length:=by
 rw[zaI];exact zot (yJ rfl)
theorem zgk{l p:List Nat}(h:zkr l p 0 l.length=[]):zbg l p=[l]:=by
 unfold zbg;rw[h];show[cut l 0 l.length]=[l];unfold cut;simp
theorem zqH{l p:List Nat}(h:l.length<p.length):zkr l p 0 l.length=[]:=by
 unfold zkr;have:∀(is:List Nat)(free:Nat),ziW l p l.length is free=[]:=by
  intro is
  induction is with
  |nil=>exact λ_=>rfl
  |cons i is ih=>
   intro free;rw[ziW];unfold zee;rw[decide_eq_false (show ¬i+p.length≤l.length by lia),Bool.false_and,Bool.and_false,if_neg (λz=>Bool.noConfusion z)];exact ih free
 exact this _ _
theorem zvJ{p:List Nat}(h:(p.all λc=>decide (c<256))=true):Builtin.Str.strKind (mk p)=1:=by
 unfold Builtin.Str.strKind;have:(mk p).cps.all (·<256)=true:=by
  rw[←Array.all_toList,zwR];exact h
 rw[if_pos this]
theorem zuE(x:Str):1≤Builtin.Str.strKind x:=by
 unfold Builtin.Str.strKind;by_cases h:(x.cps.all (·<256))=true
 ·rw[if_pos h];exact yr _
 ·rw[if_neg h]
  by_cases h:(x.cps.all (·<65536))=true
  ·rw[if_pos h];exact yi _
  ·rw[if_neg h];exact xf ..
theorem znn{h:Heap}{P:Addr->Prop}:∀{l:List (List Nat)}{k:Nat},zaN S h P (strsFrom k (l.map mk)) (l.map .str)
 |[],_=>.nil
 |x::l,k=>.cons (.str x _) znn
theorem ziw(l p:List Nat):(zbg l p).length=(zkr l p 0 l.length).length+1:=by
 unfold zbg;rw[List.length_map,List.length_zip,List.length_cons,List.length_map,List.length_append];exact Nat.min_self _
theorem zpX(l p:List Nat):(zkr l p 0 l.length).length≤l.length+1:=yk (zja ..) (yJ (List.length_range' ..))
noncomputable def zj8(l:List Nat)(ds:List D)(Q:Res->Prop)(_:Err->Prop):Prop:=one cS ds λp=>l.length≤500000∧(p≠[])∧(p.all λc=>decide (c<256))=true∧Q (.fr ((zbg l p).map .str))
theorem znj{a:Act}{ow:Nat->Option Addr}{st:Sl}{s:Shared}{vs:Array Value}{ds:List D}{Q:Res->Prop}{tk:Nat}(h:∀P,zaN S (s.heap.push {cls:=.type "list",data:=.seq vs}) P vs.toList ds)(q:Q (.fr ds)) :
  OkP S a ow st s Q (.ref s.heap.objs.size) {s with toks:=tk,heap:=s.heap.push {cls:=.type "list",data:=.seq vs}}:=
 ⟨_,q,⟨.refl _,.of_keeps λb o e=>yE _ e,rfl,rfl⟩,_,_,_,_,rfl,yT (yr _),yI _ rfl,rfl,rfl,h _,rfl⟩
theorem ze3:zmM S sh "str.split" zj8:=λa ow st s l t vs ds Q X f R h q=>by
 refine zCm (zfs q) λp e hl hp hk q=>?_;rw[e]at h;refine zaO (zd2 h) λv hzz h1=>?_;subst hzz;clear h;left;refine zfc h1.str λu hzz=>?_;subst hzz;have hsz:(mk l).length≤sizeLine:=by rw[zaI];exact yk hl (by decide)
 have hy:((mk p).length==0)=false:=by
  rw[zaI];exact beq_eq_false_iff_ne.mpr λz=>hp (yM z)
 have itself:zbg l p=[l]->OkP S a ow st s Q (.ref s.heap.objs.size) {s with toks:=s.toks,heap:=s.heap.push {cls:=.type "list",data:=.seq #[.str (mk l) t]}}:=λe=>by
  rw[e]at q;exact znj (λP=>.cons (.str l t) .nil) q
 cases h1:(decide ((mk l).length<(mk p).length)||decide (Builtin.Str.strKind (mk l)<Builtin.Str.strKind (mk p)))
 ·cases hf:(occurrences (mk l) (mk p) 0 (mk l).length ((mk l).length+1)).isEmpty
  ·refine call_meets F.slot_str_split (typeIs_str _ _ _) F.entry_str_split (F.args_str_split_2 _ _) (meets_str_split_sep (mk l) (mk p) t u h1 hy hf hsz ?_) ?_
   ·rw[zhA,zaI,zmu,List.length_map,ziw]
    exact yk (yG (zpX l p)) (yk (yU hl 2) (by decide))
   ·show OkP S a ow st s Q _ {s with toks:=_,heap:=s.heap.push {cls:=.type "list",data:=.seq (strsFrom s.toks (partsBetween (mk l) (occurrences (mk l) (mk p) 0 (mk l).length ((mk l).length+1)) (mk p).length)).toArray}}
    rw[zhA,zaI,zmu];exact znj (λP=>znn) q
  ·refine call_meets F.slot_str_split (typeIs_str _ _ _) F.entry_str_split (F.args_str_split_2 _ _) (meets_str_split_not_found (mk l) (mk p) t u h1 hy hf) (itself ?_)
   rw[zhA]at hf;exact zgk (List.isEmpty_iff.mp hf)
 ·refine call_meets F.slot_str_split (typeIs_str _ _ _) F.entry_str_split (F.args_str_split_2 _ _) (meets_str_split_cannot_occur (mk l) (mk p) t u h1) (itself ?_)
  rw[zvJ hk,decide_eq_false (Nat.not_lt.mpr (zuE _)),Bool.or_false,zaI,zaI]at h1;exact zgk (zqH (yF h1))
noncomputable def zy3:List D->Option (List (List Nat))
 |[]=>some []
 |.str x::l=>(zy3 l).map (x::·)
 |_=>none
theorem zpJ:∀{l:List D}{x:List (List Nat)},zy3 l=some x->l=x.map .str
 |[],_,h=>by obtain rfl:=yj h;rfl
 |d::l,x,h=>by
  cases d with
  |str y=>
   rw[zy3]at h;cases e:zy3 l with
   |none=>rw[e]at h;exact zae h
   |some z=>rw[e]at h;obtain rfl:=yj h;rw[zpJ e];rfl
  |_=>exact zae h
end
end
section
open Builtin Builtin.Str Builtin.BaseException Builtin.Exceptions
noncomputable def ClsAt(mg:Str->Option Value)(h:Heap):Prop:=∃C o cd m,mg "TOMLDecodeError"=some (.ref C)∧h.get? C=some o∧o.data=.cls cd∧cd.mro=.ref C::bmV∧h.Ns cd.ns m∧m "__str__"=none
theorem ClsAt.keeps{mg:Str->Option Value}{h h':Heap}(x:ClsAt mg h)(k:∀b o,h.get? b=some o->h'.get? b=some o):ClsAt mg h':=by
 refine zCy x λC o cd m h1 h2 h3 h4 h5 h6=>?_;exact zCp C o cd m h1 (k _ _ h2) h3 h4 (h5.keeps k) h6
section
variable{prog:Program}{w:World}{A:Around}{E:Value->Shared->Prop}{h:Heap}{g:Array GenState}{d:Drawn}{tk0:Nat}{os:OsState}
variable{e:Addr}{l:Str}{tk:Tok}
inductive zCa(h:Heap)(e:Addr)(l:Str)(tk:Tok)(C:Addr)(newId:String)(x:zCn)(m:Str->Option Value)(oe:Obj)(vs:Array Value)(t:Addr)(ot:Obj)(n:Nat):Prop
 |mk (qa:h.get? C=some (excClassObj x.nm x.q C x.N x.bs bmV x.hdct x.sn x.sub x.ab x.col x.dd x.k0 x.k1 x.k2 x.k3 x.k5 newId)) (qb:h.Ns x.N m) (qc:m "__str__"=none) (qd:h.get? e=some oe) (qe:oe.cls=.ref C) (qf:oe.data=.fields vs) (qg:vs[0]?=some (.ref t)) (qh:h.get? t=some ot) (qi:ot.data=.seq #[.str l tk] n)
noncomputable def ziE(h:Heap)(e:Addr)(l:Str)(tk:Tok):Prop:=∃C newId x m oe vs t ot n,zCa h e l tk C newId x m oe vs t ot n
theorem zr2:builtinKind "BaseException.__str__"=some .slot:=by right
theorem zqP:splitId "BaseException.__str__"=some ("BaseException","__str__"):=by right
theorem zz4(C:Addr):(Value.ref C::bmV).contains (.type "BaseException")=true:=by rw[List.contains_cons,show bmV.contains (.type "BaseException")=true from by decide,Bool.or_true]
theorem zsQ{Q:Unit->Shared->Prop}(x:ziE h e l tk)(hq:Q () ⟨h,g,d,tk0,os⟩):wpAny (model prog w) A (checkBuiltinCall "BaseException.__str__" ⟨[.ref e],[]⟩) Q E ⟨h,g,d,tk0,os⟩:=by
 obtain⟨C,newId,x,m,oe,vs,t,ot,n,hC,hN,hm,he,hcls,_⟩:=x;simp only[checkBuiltinCall,zr2,zqP]
 repeat (first|(with_reducible refine wpAny_loadPart_at he ?_;rw[hcls])|(with_reducible refine wpAny_isSubtype_exc hC ?_;rw[zz4 C])|wp_step)
 exact hq
theorem zuZ{M:Model}{Q:Value×List Value->Shared->Prop}(x:ziE h e l tk)(hq:∀t,Q (.ref t,[.str l tk]) ⟨h,g,d,tk0,os⟩):wpAny M A (bexcArgs (.ref e)) Q E ⟨h,g,d,tk0,os⟩:=by
 obtain⟨C,newId,x,m,oe,vs,t,ot,n,hC,hN,hm,he,hcls,hd,h0,ht,htd⟩:=x;unfold bexcArgs;refine yl (wpAny_field he hd h0 (yl (wpAny_seqItems ht htd ?_)));exact yo (hq t)
theorem zsY{Q:Fin->Shared->Prop}(x:ziE h e l tk)(hq:Q (.done (.ret (.str l tk))) ⟨h,g,d,tk0,os⟩):wpAny (model prog w) A (Builtin.«BaseException.__str__» ⟨[.ref e],[]⟩) Q E ⟨h,g,d,tk0,os⟩:=by
 unfold Builtin.«BaseException.__str__»
 repeat (first|with_reducible refine zuZ x λt=>?_|wp_step)
 exact hq
theorem zoW{Q:Option Value->Shared->Prop}(x:ziE h e l tk)(hq:Q (some (.str l tk)) ⟨h,g,d,tk0,os⟩):wpAny (model prog w) A (callSpecial? (.ref e) "__str__") Q E ⟨h,g,d,tk0,os⟩:=by
 have x':=x;obtain⟨C,newId,z,m,oe,vs,t,ot,n,hC,hN,hm,he,hcls,_⟩:=x';unfold callSpecial?;refine yl ?_;unfold specialOf
 repeat (first|(with_reducible refine wpAny_loadPart_at he ?_;rw[hcls])|wp_step)
 refine wpAny_typeLookup_exc hC hN F.excBase_ValueError.mroIs F.excStr_ValueError.str.lookup ?_;rw[hm];refine yH (yl (wpAny_of_eq (F.excStr_ValueError.str.bind _) ?_));exact yl (wpAny_call (codeAny_call_builtin F.excStr_ValueError.str.plain F.entry_bexc_str (zsQ x (zsY x (yo hq)))))
theorem zse(hu:A.units<cLine){Q:Value->Shared->Prop}(x:ziE h e l tk)(hq:Q (.str l tk) ⟨h,g,d,tk0,os⟩):wpAny (model prog w) A (Builtin.Str.strOf (.ref e)) Q E ⟨h,g,d,tk0,os⟩:=by
 unfold Builtin.Str.strOf
 repeat (first|with_reducible refine wpAny_cRoomFor hu ?_|with_reducible refine zoW x ?_|wp_step)
 exact hq
end
theorem zyj{prog:Program}{w:World}{A:Around}{E:Value->Shared->Prop}{s:Shared}{e:Addr}{l:Str}{tk:Tok}(hu:A.units+2<cLine){Q:Value->Shared->Prop}(x:ziE s.heap e l tk)(h:Q (.str l tk) s):wpAny (model prog w) A (call (.type "str") [.ref e]) Q E s:=
 callType_new F.called_str (by decide) (F.typeCall_str_1 _) (F.newCall_str_1 _) (λobj=>F.args_object_init_2 obj _) F.entry_str_new
  (meets_str_new (S:=λA' R s'=>A'.units+1<cLine∧ziE s'.heap e l tk∧R (.ok (.ret (.str l tk))) s')
   λ_ _ A' _ s' hq=>by
    refine zn2 hq λh1 h2 h3=>?_;cases s';exact zse (A:=A'.in1) h1 h2 h3)
  ⟨(show A.units+1+1<cLine from hu),x,typeIs_str _ _ _,h⟩
section
variable{S:St0}{sh:zak}
theorem ztd(D0:Std S)(N0:ClsAt S.mg S.base){h:Heap}{P:Addr->Prop}{v:Value}{m:List Nat}(k:S.base.StaysIn h)(x:zcN S h P v (.err .toml m)):∃e tk,v=.ref e∧ziE h e (mk m) tk:=by
 refine zfc D0.own λC O=>?_;refine zCy N0 λC' o cd mm n1 n2 n3 n4 n5 n6=>?_;have hcls:S.cls .toml=.ref C:=St0.cls_toml O.bound;have eC:C'=C:=by
  have hb:=O.bound;clear n4 n2;rw[n1]at hb;clear n1;cases hb;rfl
 left;subst eC;obtain⟨z,hC,hN,hqn,OT⟩:=zgR O;have eo:=n2.symm.trans hC;have eo:=yj eo;have ed:(.cls cd:Data)=(excClassObj z.nm z.q C' z.N z.bs z.bm z.hdct z.sn z.sub z.ab z.col z.dd z.k0 z.k1 z.k2 z.k3 z.k5 "ValueError.__new__").data:=n3.symm.trans (ya Obj.data eo);have ec:=Data.cls.inj ed;have hbm:z.bm=bmV:=by
  rw[ec]at n4;exact(yQ n4).2
 have hns:S.base.Ns z.N mm:=by
  rw[ec]at n5;exact n5
 cases x with
 |err h1 h2 h3 h4 h5 h6 h7 h8=>
  obtain⟨n,h8⟩:=h8;exact⟨_,_,rfl,C',_,z,mm,_,_,_,_,n,hbm▸k _ _ hC,hns.keeps k,n6,h1,h2.trans hcls,h3,h4,h6,h8⟩
noncomputable def EC.toml?:EC->Bool
 |.toml=>true
 |_=>false
noncomputable def D.terr?:D->Option (List Nat)
 |.err c m=>if c.toml? then some m else Option.none
 |_=>Option.none
theorem D.terr?_inv{d:D}{m:List Nat}(h:d.terr?=some m):d=.err .toml m:=by
 cases d<;>first
  |(exact zae h;done)
  |(induction c<;>(first|exact zae h|obtain rfl:=yj h);rfl)
  |skip
noncomputable def zBL(ds:List D)(Q:Res->Prop)(X:Err->Prop):Prop:=one cD ds λd=>oM d.terr? λm=>Q (.pl (.str m))
theorem ztF(D0:Std S)(N0:ClsAt S.mg S.base):zm0 S sh (.type "str") zBL:=λa ow st s vs ds Q X f R h q=>by
 left;refine zaO (zfs q) λd e q=>?_;rw[e]at h;clear e;refine zaO (zd2 h) λv hzz h1=>?_;subst hzz;clear h;refine zaO (oM_inv q) λm hm q=>?_;have hd:=D.terr?_inv hm;clear hm;subst hd;have h1:zcN S s.heap (Pv a noX ow) v (.err .toml m):=by
  left;rcases h1 with h1|⟨_,_,_,_,_,_,z,_⟩
  ·exact h1
  ·cases z
 refine zfw (ztd D0 N0 (R.stays f) h1) λe' tk hzz x=>?_;subst hzz;exact zyj (by have:=zjh f;omega) x (zcU (tk:=s.toks) R rfl q)
end
end
theorem zqX{l p:List Nat}{hi d:Nat}(h:d≤hi)(i:Nat):zee l p hi (d+i)=zee (l.drop d) p (hi-d) i:=by
 unfold zee;rw[List.drop_drop,show decide (d+i+p.length≤hi)=decide (i+p.length≤hi-d)from decide_eq_decide.mpr (by rw[Nat.add_assoc];exact(Nat.le_sub_iff_add_le' h).symm)]
theorem ziA{l p:List Nat}{hi d:Nat}(h:d≤hi):∀(m a f:Nat),ziW l p hi (List.range' (d+a) m) (d+f)=(ziW (l.drop d) p (hi-d) (List.range' a m) f).map (· + d)
 |0,_,_=>rfl
 |m+1,a,f=>by
  rw[List.range'_succ,List.range'_succ];rw[ziW,ziW];rw[zqX h,show decide (d+f≤d+a)=decide (f≤a)from decide_eq_decide.mpr Nat.add_le_add_iff_left];by_cases hc:(decide (f≤a)&&zee (l.drop d) p (hi-d) a)=true
  ·rw[if_pos hc,if_pos hc,List.map_cons,Nat.add_comm a d,show d+a+p.length=d+(a+p.length)from Nat.add_assoc ..]
   exact ya _ (ziA h m (a+1) _)
  ·rw[if_neg hc,if_neg hc]
   exact ziA h m (a+1) f
theorem zkV{l p:List Nat}{hi:Nat}:∀(m a f:Nat){i:Nat},f≤a->(List.range' a m).find? (zee l p hi)=some i->ziW l p hi (List.range' a m) f=i::ziW l p hi (List.range' (i+1) (a+m-(i+1))) (i+p.length)
 |0,_,_,_,_,h=>zae h
 |m+1,a,f,i,hf,h=>by
  rw[List.range'_succ,List.find?_cons]at h;rw[List.range'_succ,ziW];cases hA:zee l p hi a with
  |true=>
   rw[hA]at h;have h:=yj h;subst h;rw[decide_eq_true hf,if_pos (show(true&&true)=true from rfl),←Nat.add_assoc,Nat.add_right_comm,Nat.add_sub_cancel_left]
  |false=>
   rw[hA]at h;rw[Bool.and_false,if_neg (λz=>Bool.noConfusion z),zkV m (a+1) f (Nat.le_succ_of_le hf) h,Nat.add_assoc a 1 m,Nat.add_comm 1 m]
theorem zno{l p:List Nat}{hi:Nat}:∀(d m a:Nat),ziW l p hi (List.range' a m) (a+d)=ziW l p hi (List.range' (a+d) (m-d)) (a+d)
 |0,_,_=>rfl
 |d+1,0,_=>by rw[Nat.zero_sub];rfl
 |d+1,m+1,a=>by
  rw[List.range'_succ,ziW,decide_eq_false (Nat.not_le.mpr (Nat.lt_add_of_pos_right (Nat.succ_pos d))),Bool.false_and,if_neg (λz=>Bool.noConfusion z),Nat.succ_sub_succ];have e:a+(d+1)=a+1+d:=by rw[Nat.add_assoc,Nat.add_comm 1 d]
  rw[e];exact zno d m (a+1)
theorem zvY{n i k:Nat}(h:i+(k+1)≤n):0+(n+1-0)-(i+1)-k=n-(i+(k+1))+1-0:=by
 rw[Nat.zero_add,Nat.sub_zero,Nat.sub_zero,Nat.add_sub_add_right,Nat.sub_sub];exact(Nat.succ_pred_eq_of_pos (Nat.sub_pos_of_lt h)).symm
theorem zo7{l p:List Nat}{i:Nat}(h:zbS l p 0 l.length=some i):i+p.length≤l.length:=yF (yw.mp (show zee l p l.length i=true from List.find?_some h)).1
theorem zuX{l p:List Nat}{i:Nat}(hp:p≠[])(h:zbS l p 0 l.length=some i):zkr l p 0 l.length=i::(zkr (l.drop (i+p.length)) p 0 (l.drop (i+p.length)).length).map (· + (i+p.length)):=by
 have hle:=zo7 h;have g:=zkV (l:=l) (p:=p) (hi:=l.length) _ 0 0 (yr 0) h;obtain⟨k,hk⟩:∃k,p.length=k+1:=⟨p.length-1,(Nat.succ_pred_eq_of_pos (List.length_pos_iff.mpr hp)).symm⟩;have sh:=ziA (l:=l) (p:=p) hle ((l.drop (i+p.length)).length+1-0) 0 0;rw[←List.length_drop]at sh;unfold zkr;rw[g];refine ya _ (Eq.trans ?_ sh);have e:i+p.length=i+1+k:=by rw[hk,Nat.add_assoc,Nat.add_comm 1 k]
 rw[List.length_drop,Nat.add_zero,e,zno k,←e,hk,zvY (hk▸hle)];rfl
theorem zrW{l p:List Nat}(h:zbS l p 0 l.length=none):zkr l p 0 l.length=[]:=by
 have:=zjO l p l.length (List.range' 0 (l.length+1-0)) 0 λi _=>yb i;unfold zbS at h;rw[h]at this;exact List.head?_eq_none_iff.mp this
theorem zmS(l:List Nat)(d x y:Nat):cut l (x+d) (y+d)=cut (l.drop d) x y:=by
 unfold cut;rw[List.drop_drop,Nat.add_comm d x,Nat.add_sub_add_right]
theorem ze1{l p:List Nat}{i:Nat}(hp:p≠[])(h:zbS l p 0 l.length=some i):zbg l p=l.take i::zbg (l.drop (i+p.length)) p:=by
 have hle:=zo7 h;have e0:=zuX hp h;generalize hd:i+p.length=d at e0 hle⊢;have hn:l.length=(l.drop d).length+d:=by rw[List.length_drop,Nat.sub_add_cancel hle]
 unfold zbg;rw[e0];generalize zkr (l.drop d) p 0 (l.drop d).length=cs;have e1:(i::cs.map (· + d))++[l.length]=i::(cs++[(l.drop d).length]).map (· + d):=by rw[List.map_append,List.map_singleton,←hn];rfl
 have e2:(i::cs.map (· + d)).map (· + p.length)=(0::cs.map (· + p.length)).map (· + d):=by
  rw[List.map_cons,List.map_cons,List.map_map,List.map_map,hd,Nat.zero_add];exact ya _ (List.map_congr_left λx _=>Nat.add_right_comm x d p.length)
 rw[e1,e2,List.zip_cons_cons,List.map_cons,List.zip_map,List.map_map];rw[show cut l (0,i).1 (0,i).2=l.take i from rfl];exact ya _ (List.map_congr_left λx _=>zmS l d x.1 x.2)
theorem zdm{l p:List Nat}(h:zbS l p 0 l.length=none):zbg l p=[l]:=zgk (zrW h)
theorem zht(l:List Nat)(c i:Nat):zee l [c] l.length i=true↔l[i]?=some c:=by
 unfold zee;rw[Bool.and_eq_true,decide_eq_true_iff,beq_iff_eq,List.length_singleton]
 constructor
 ·rintro⟨_,h⟩
  have:=ya (λx:List Nat=>x[0]?) h;rw[List.getElem?_take,if_pos (by decide),List.getElem?_drop,Nat.add_zero]at this;exact this
 ·intro h
  exact⟨zaC h,by rw[zdL h];rfl⟩
theorem zh8{l:List Nat}{c:Nat}(h:c∉l):zbS l [c] 0 l.length=none:=List.find?_eq_none.mpr λi _ z=>h (yy ((zht l c i).mp z))
theorem zmV{pre r:List Nat}{c:Nat}(h:c∉pre):zbS (pre++c::r) [c] 0 (pre++c::r).length=some pre.length:=by
 unfold zbS;refine List.find?_eq_some_iff_append.mpr ⟨(zht _ _ _).mpr (by simp),List.range' 0 pre.length,List.range' (pre.length+1) (r.length+1),?_,λj hj=>?_⟩
 ·rw[show(pre++c::r).length+1-0=pre.length+(r.length+2) by simp;lia,←List.range'_append,Nat.one_mul,Nat.zero_add,List.range'_succ]
 ·have hj:=(List.mem_range'_1.mp hj).2
  rw[Bool.not_eq_true',Bool.eq_false_iff];intro z;have:=(zht _ _ _).mp z;rw[List.getElem?_append_left (by lia)]at this;exact h (yy this)
theorem zkl{l:List Nat}{c:Nat}(h:c∉l):zbg l [c]=[l]:=zdm (zh8 h)
theorem zkQ{pre r:List Nat}{c:Nat}(h:c∉pre):zbg (pre++c::r) [c]=pre::zbg r [c]:=by
 rw[ze1 (by simp) (zmV h),List.take_left,List.length_singleton,show pre++c::r=(pre++[c])++r by simp,List.drop_left' (by simp)]
theorem zwE{c:Nat}(b:List Nat):∀a:List Nat,(a++c::b).takeWhile (· != c)=a.takeWhile (· != c)
 |[]=>by simp
 |x::a=>by
  rw[List.cons_append,List.takeWhile_cons,List.takeWhile_cons,zwE b a]
theorem zpg{n:Nat}{pre r:List Nat}{c:Nat}(h:(pre++c::r).length≤n+1):r.length≤n:=by
 rw[List.length_append,List.length_cons]at h;exact yN (yk (xf _ _) h)
theorem zpF{pre r:List Nat}{c:Nat}(hp:c∉pre):(pre++c::r).count c=r.count c+1:=by rw[List.count_append,List.count_cons_self,List.count_eq_zero.mpr hp,Nat.zero_add]
theorem zrR{pre r:List Nat}{c:Nat}:(pre++c::r).reverse.takeWhile (· != c)=r.reverse.takeWhile (· != c):=by
 rw[List.reverse_append,List.reverse_cons,List.append_assoc];exact zwE _ _
theorem zv2(c:Nat):∀(n:Nat)(l:List Nat),l.length≤n->(zbg l [c]).length=l.count c+1∧∃r,(zbg l [c])[l.count c]?=some r∧r.length=(l.reverse.takeWhile (· != c)).length:=by
 intro n
 induction n with
 |zero=>
  intro l hn;rw[List.eq_nil_of_length_eq_zero (Nat.le_zero.mp hn),zkl (List.not_mem_nil)];exact⟨rfl,[],rfl,rfl⟩
 |succ n ih=>
  intro l hn;by_cases h:c∈l
  ·refine zfw (List.eq_append_cons_of_mem h) λpre r e hp=>?_
   rw[e]at hn⊢;obtain⟨h1,x,h2,h3⟩:=ih r (zpg hn);rw[zkQ hp,zpF hp,zrR];exact⟨by rw[List.length_cons,h1],x,h2,h3⟩
  ·rw[zkl h,List.count_eq_zero.mpr h]
   refine⟨rfl,l,rfl,?_⟩;rw[zpL (λz=>h (List.mem_reverse.mp z)),List.length_reverse]
noncomputable def zn1(h:Heap)(P:Addr):Heap:=h.update P λo=>{o with data:=.freed}
set_option tactic.hygienic true in
theorem znx(h:Heap)(P:Addr):(zn1 h P).get? P=none:=by
 unfold zn1;cases h
 rename_i objs life
 simp only[Heap.update,Heap.get?,Array.getElem?_modify,if_true];cases e:objs[P]? with
 |none=>rfl
 |some o=>rfl
theorem zoN{h:Heap}{P b:Addr}(n:b≠P):(zn1 h P).get? b=h.get? b:=Heap.get?_update_ne _ _ _ _ n
theorem zlb(h:Heap)(P:Addr):(zn1 h P).StaysIn h:=λb o e=>by
 by_cases q:b=P
 ·rw[q,znx]at e;exact zae e
 ·rwa[zoN q]at e
section
variable{h:Heap}{P:Addr}(hP:h.get? P=some {cls:=.none,data:=.fields #[]})
include hP
theorem zhp{b:Addr}{o:Obj}(e:h.get? b=some o)(n:o.cls≠.none):(zn1 h P).get? b=some o:=by
 rw[zoN];exact e;rintro rfl;rw[hP]at e;cases e;exact n rfl
theorem zdH{b:Addr}{o:Obj}(e:h.get? b=some o)(n:o.data≠.fields #[]):(zn1 h P).get? b=some o:=by
 rw[zoN];exact e;rintro rfl;rw[hP]at e;cases e;exact n rfl
theorem zgK{a:Addr}{m}(x:h.Ns a m):(zn1 h P).Ns a m:=by
 refine zrm x λo es ep h1 h2 r=>?_;exact zzB o es ep (zdH hP h1 (by rw[h2];nofun)) h2 r
theorem zmT{cd:Value}{q:Str}(x:h.CodeRec cd q):(zn1 h P).CodeRec cd q:=by
 refine zBI x λc o vs t e h1 h2 h3=>?_;refine zCt c o vs t e (zdH hP h1 (λz=>?_)) h2 h3;rw[h2]at z;injection z with z;subst z;simp at h3
theorem zsu{bmB tl:List Value}(T:OwnTailQ h bmB tl):OwnTailQ (zn1 h P) bmB tl:=by
 induction T with
 |base=>exact .base
 |own hA hN hq _ ih=>exact .own (zdH hP hA (by nofun)) (zgK hP hN) hq ih
theorem zvm{x:Str}{C:Addr}{bmB:List Value}{newId:String}{mg:Str->Option Value}(O:OwnClsQ x C bmB newId mg h):OwnClsQ x C bmB newId mg (zn1 h P):=by
 left;obtain⟨z,hC,hN,hq,T⟩:=zgR O;refine⟨O.bound,z.bm,z.N,z.nm,z.q,z.bs,z.hdct,z.sn,z.sub,z.ab,z.col,z.dd,z.k0,z.k1,z.k2,z.k3,z.k5,z.mN,zdH hP hC (by unfold excClassObj;nofun),zgK hP hN,hq,zsu hP T⟩
end
noncomputable def mkS(p:Program)(w:World)(mg mb:Str->Option Value)(h:Heap)(P:Addr)(i:Nat):St0:=
 {prog:=p,w:=w,mg:=mg,mb:=mb,base:=zn1 h P,tab:=P,lf:=⟨ofString "coord_repr",zwV p i,zpZ p i,zka p i,(mg "__name__").getD .none⟩}
inductive FnA(S:St0)(n:Str)(params:Arguments)(body:List Stmt)(scope:Scope)(a:Addr)(o:Obj)(pm cd doc:Value):Prop
 |mk (qa:S.mg n=some (.ref a)) (qb:S.base.get? a=some o) (qc:o.data=.func (docDef n params body scope pm cd doc)) (qd:S.base.CodeRec cd n)
noncomputable def FnAt(S:St0)(n:Str)(params:Arguments)(body:List Stmt)(scope:Scope):Prop:=∃a o pm cd doc,FnA S n params body scope a o pm cd doc
section
variable{p q:Program}{loose:List Str}{w:World}{s₀:Shared}{mg mb:Str->Option Value}{h:Heap}{XP:(Str->Option Value)->Heap->Prop}{P:Addr}{i:Nat}
theorem zcE(G:Ground q loose [] XP w s₀ mg mb h)(hP:h.get? P=some {cls:=.none,data:=.fields #[]}){n:Str}{params:Arguments}{body:List Stmt}{scope:Scope}{pos:Pos}(hd:defOf q n=some (⟨n,params,body,scope,pos⟩,[]))(hdf:params.defaults=[]) :
  FnAt (mkS p w mg mb h P i) n params body scope:=by
 obtain⟨a,o,pm,cd,doc,dV,kV,h1,h2,h3,h4,h5⟩:=G.fn hd;have e1:dV=.none:=by
  rcases h5.pos with⟨_,e⟩|⟨e,_⟩
  ·exact e
  ·exact absurd hdf e
 have e2:kV=.none:=by
  rcases h5.kw with⟨_,e⟩|⟨e,_⟩
  ·exact e
  ·exact absurd rfl e
 clear h5;subst e1 e2;exact⟨a,o,pm,cd,doc,h1,zdH hP h2 (by rw[h3];nofun),h3,zmT hP h4⟩
theorem zA8(G:Ground q loose [] XP w s₀ mg mb h)(hP:h.get? P=some {cls:=.none,data:=.fields #[]})(hs:specOf q "TOMLDecodeError"=some ("ValueError.__new__",bmV)):Std (mkS p w mg mb h P i):=by
 refine zaO (G.T.ownAt hs) λC O _=>?_;refine zaO G.T.nolimit λmc n1 n2=>?_;refine zaO G.T.nodigits λmd d1 d2=>?_;exact⟨zgK hP G.T.g,zgK hP G.T.b,(zbB mc (zgK hP n1) n2),(zbB md (zgK hP d1) d2),G.T.builtins,⟨C,zvm hP O⟩,znx h P⟩
theorem zAw(G:Ground q loose [] XP w s₀ mg mb h)(hP:h.get? P=some {cls:=.none,data:=.fields #[]}):(mkS p w mg mb h P i).base.BuiltinsAt (mkS p w mg mb h P i).mg (mkS p w mg mb h P i).tab:=by
 refine zCI G.T.bmain λbm ob h1 h2 h3 h4 h5 h6=>?_;refine⟨bm,ob,h1,h2,λe=>?_,λe=>?_,zhp hP h3 (by rw[h4];nofun),h4,h5,h6⟩
 ·clear h5 h4
  refine zrm G.T.g λo es ep g1 g2 _=>?_;simp only[e,g1]at h3;obtain rfl:=yj h3;cases g2.symm.trans h6
 ·have e:bm=P:=e
  simp only[e,hP]at h3;clear h6 h5;obtain rfl:=yj h3;cases h4
theorem tab_of(G:Ground q loose [] XP w s₀ mg mb h){n:Str}{d:DefRec}(hd:(recsOf q).find? (λe=>e.name==n)=some d):∃a o fd c P,mg n=some (.ref a)∧h.get? a=some o∧o.data=.func fd∧fd.code=.ref c∧h.IsCode c P #[]∧h.TableAt c P #[]:=by
 have hn:d.name=n:=beq_iff_eq.mp (List.find?_some (p:=λe:DefRec=>e.name==n) hd);obtain⟨a,o,fd,c,P,h1,r⟩:=G.T.tab d (List.mem_of_find?_eq_some hd);exact⟨a,o,fd,c,P,hn▸h1,r⟩
theorem zqK{c:Addr}(x:h.IsCode c P #[])(y:h.TableAt c P #[]):zeT (mkS p w mg mb h P i) (.ref c):=by
 left;obtain⟨o,vs,file,tf,flags,tg,inF,text,tt,op,h1,h2,h3,h4,h5,h6,h7,h8,h9,h10,h11⟩:=x;obtain⟨⟨o',vs',k1,k2,k3,k4⟩,hP⟩:=y;rw[h1]at k1;obtain rfl:=yj k1;rw[h2]at k3;cases k3;exact⟨c,o,vs,file,tf,flags,tg,inF,text,tt,rfl,zhp hP h1 (by rw[k2];nofun),k2,h2,k4,h4,h5,h6,h7⟩
end
theorem zud{p:Program}{w:World}{sets:List (Str×List Str)}{mg:Str->Option Value}{h:Heap}{P:Addr}(hP:h.get? P=some {cls:=.none,data:=.fields #[]})(S:zej p w sets mg h):zej p w sets mg (zn1 h P):=λn l hm=>
 let ⟨a,d,h1,h2,h3⟩:=S n l hm
 (zlH a d h1 (zhp hP h2 (by unfold zar;nofun)) h3)
section
variable{S:St0}
theorem zfD(D0:Std S){sh:zak}{n:Str}{a:Addr}{o:Obj}{params:Arguments}{body:List Stmt}{scope:Scope}{pm cd doc dV kV:Value}{ps rest kws:List Str}{c:PS}{F:Fn}{l:List (Str×Ctr)}
  (hm:S.mg n=some (.ref a))(ho:S.base.get? a=some o)(hd:o.data=.func {docDef n params body scope pm cd doc with defaults:=dV,kwdefaults:=kV})(hcd:S.base.CodeRec cd n)
  (hco:scope.isCoroutine=false)(hgen:scope.isGenerator=false)(hk:scope.kind=.function)(hsc:sh.scope=scope)(hcell:(scope.names.all λx=>x.2 != .cell)=true)
  (hnames:sh.names=ps++rest)(hloc:(sh.names.all λx=>sh.scope.names.lookup x==some .local)=true)(hnd:sh.names.Nodup)
  (hbind:∀(s:Shared)(vs ks:List Value),vs.length+kws.length=ps.length->ks.length=kws.length->BindsTo s {docDef n params body scope pm cd doc with defaults:=dV,kwdefaults:=kV} ⟨vs,kws.zip ks⟩ (ps.zip (vs++ks)))
  (hps:kws.length≤ps.length)(H:zaG S sh body c)(k:∀ds dk Q X,zbu (F ds dk) Q X->ds.length+kws.length=ps.length∧zfO c rest.length (ds++dk) Q X)
  (hin:sh.inner=true->zeT S cd∧n++ofString ".<locals>."=ofString "suffixed_err.<locals>.")(t:zaD S (zay l))(hcs:sh.cells=[]:=by rfl) :
  zaD S (zay ((n,⟨sh.rank+10,sh.calm,kws,λds dk=>zbu (F ds dk)⟩)::l)):=
 zaD.cons hm ho hd (ziO.mono (zsb D0 (sh:=sh) ho hd hcd rfl rfl rfl hco hgen hk hsc (λx hx=>by
   have:=yO.mp hcell x hx;simpa using this) hnames (λx hx=>by
   have:=yO.mp hloc x hx;exact eq_of_beq this) hnd rfl (λs vs ks _ h1 h2=>hbind s vs ks h1 h2) hps H hin (hcs:=hcs)) (yr _) k) t
theorem Gl.nil:Gl S []:=λn d h=>by exact zae h
theorem Gl.cons{n:Str}{d:D}{gl:List (Str×D)}(h1:∃v,S.mg n=some v∧∀h P,S.base.StaysIn h->zcN S h P v d)(t:Gl S gl):Gl S ((n,d)::gl):=λn' d' h=>by
 by_cases e:n'=n
 ·obtain rfl:=e.symm
  rw[List.lookup_cons_self]at h;obtain rfl:=yj h;exact h1
 ·rw[List.lookup,show(n'==n)=false from by simpa using e]at h
  exact t n' d' h
theorem zg2{n:Str}{params:Arguments}{body:List Stmt}{scope:Scope}(F:FnAt S n params body scope):∃v,S.mg n=some v∧∀h P,S.base.StaysIn h->zcN S h P v (.fn n):=by
 left;obtain⟨a,o,pm,cd,doc,h1,_⟩:=F;exact zbB _ h1 (λh P _=>.fn h1)
theorem zjN{sets:List (Str×List Str)}(SS:zej S.prog S.w sets S.mg S.base){n:Str}{l:List (List Nat)}(hm:(n,l.map mk)∈sets):∃v,S.mg n=some v∧∀h P,S.base.StaysIn h->zcN S h P v (.fset l):=by
 refine zfB (SS n _ hm) λa d h1 h2 h3=>?_;exact⟨_,h1,λh P k=>.fset (k _ _ h2) h2 h3⟩
theorem zqu(E:zkC S.prog S.w S.mg S.base):zav S:=by
 obtain⟨M,D,oM,vs,f,e1,e2,e3,e4,e5,e6,e7,e8,e9⟩:=E;refine⟨M,D,oM,vs,f,e1,e2,e3,e4,e5,e6,e7,λk v h=>?_,λk h=>?_⟩
 ·have:(k,v)∈zff:=zn9 h
  exact e8 _ this
 ·refine e9 k λp hp e=>?_
  subst e;have:∀p∈zff,zu5 p.1≠none:=by decide
  exact this p hp h
theorem zqe{prog:Program}{w:World}{mg:Str->Option Value}{h:Heap}{P:Addr}(hP:h.get? P=some {cls:=.none,data:=.fields #[]})(x:zkC prog w mg h):zkC prog w mg (zn1 h P):=by
 left;obtain⟨M,D,oM,vs,f,e1,e2,e3,e4,e5,e6,⟨o,es,ep,m1,m2⟩,e8,e9⟩:=x;exact⟨M,D,oM,vs,f,e1,zhp hP e2 (by rw[e3];nofun),e3,e4,e5,e6,(zw4 o es ep (zhp hP m1 (by rw[m2.1.1];nofun)) m2),e8,e9⟩
theorem zzh{α:Type}{l:List α}(h:l.length=1):∃a,l=[a]:=by
 match l,h with
 |[a],_=>exact⟨a,rfl⟩
theorem zui{α:Type}{l:List α}(h:l.length=2):∃a b,l=[a,b]:=by
 match l,h with
 |[a,b],_=>exact zAv a b rfl
theorem zx3{α:Type}{l:List α}(h:l.length=3):∃a b c,l=[a,b,c]:=by
 match l,h with
 |[a,b,c],_=>exact zCO a b c rfl
theorem zum{α:Type}{l:List α}(h:l.length=0):l=[]:=List.length_eq_zero_iff.mp h
noncomputable def zAx(q:Program)(loose:List Str)(l:List Str):Bool:=l.all λx=>!decide (x∈startupNames) && !decide (x∈looseW q loose) && !decide (x∈(recsOf q).map (·.name)) && !decide (x∈(litsOf q).map (·.1)) && !decide (x∈(clssOf q (looseW q loose)).map (·.name))
theorem zAR{q:Program}{loose:List Str}{w:World}{s₀:Shared}{mg mb:Str->Option Value}{h:Heap}{XP:(Str->Option Value)->Heap->Prop}(G:Ground q loose [] XP w s₀ mg mb h){l:List Str}(hf:zAx q loose l=true):∀x∈l,mg x=none:=λx hx=>by
 have:=yO.mp hf x hx;simp only[Bool.and_eq_true,Bool.not_eq_true',decide_eq_false_iff_not]at this;obtain⟨⟨⟨⟨a,b⟩,c⟩,d⟩,e⟩:=this;exact G.T.free x a b c d e
end
noncomputable def zfx(p:Program)(i:Nat):Pos:=match p.main.body[i]? with
 |some (.FunctionDef _ _ _ _ _ _ _ _ _ pos)=>pos
 |_=>default
noncomputable def zqs{α:Type}(o:Obj):Sem α->Option (α×List Addr)
 |.pure a=>some (a,[])
 |.rule _ k=>zqs o (k ())
 |.point _ k=>zqs o (k ())
 |.load a _ k=>(zqs o (k o)).map λr=>(r.1,a::r.2)
 |_=>none
theorem zu6{α:Type}{o:Obj}{M:Model}{A:Around}{E:Value->Shared->Prop}{Q:α->Shared->Prop}{s:Shared}{a:α}(q:Q a s):∀(t:Sem α)(l:List Addr),zqs o t=some (a,l)->(∀b∈l,s.heap.get? b=some o)->wpAny M A t Q E s:=by
 intro t
 induction t with
 |pure b=>
  intro l e _;cases e;exact yo q
 |rule _ k ih=>intro l e h Γ p hΓ;exact ih () l e h Γ p hΓ
 |point _ k ih=>intro l e h Γ p hΓ;exact ih () l e h Γ p hΓ
 |load b _ k ih=>
  intro l e h Γ p hΓ;clear q;left;obtain⟨⟨a',l'⟩,e1,e2⟩:=Option.map_eq_some_iff.mp (show(zqs o (k o)).map (λr=>(r.1,b::r.2))=_ from e);clear e;cases e2;exact zbB o (h b yq) (ih o l' e1 (λc hc=>h c (yn _ hc)) Γ p hΓ)
 |_=>intro l e;exact zae e
noncomputable def zwk(c:Value)(dd:Option Addr)(hh:Int)(t:Tok)(n:Nat)(sl:Array (Option Value)):Obj:={cls:=c,dict:=dd,data:=.dict #[⟨hh,.str (ofString "multiline") t,.bool false⟩] n,slots:=sl}
theorem zvO{s:Shared}{fd:FuncData}{args:Args}{binds:List (Str×Value)}{K:Addr}{c:Value}{dd:Option Addr}{hh:Int}{t:Tok}{n:Nat}{sl:Array (Option Value)}(hk:s.heap.get? K=some (zwk c dd hh t n sl))(e:zqs (zwk c dd hh t n sl) (bindArgs fd args)=some (binds,[K])):BindsTo s fd args binds:=
 λM A E Q hq=>zu6 hq _ _ e λb hb=>by rw[List.mem_singleton.mp hb];exact hk
theorem zoL{h:Heap}{v:Value}(y:ReadsLit h v (.bool false) []):v=.bool false:=by
 cases y;rfl
theorem zzR{l:List DictEntry}{x:Str}{e:Expr}{mg:Str->Option Value}{h:Heap}(k5:KeysNamed l [x])(k6:DfltsAre mg h [e] (l.map (·.val))):∃en t,l=[en]∧en.key=.str x t∧DfltIs mg h e en.val:=by
 left;cases k5 with
 |cons q k=>
  cases k;cases k6 with
  |cons r _=>exact zlH _ _ rfl q r
theorem zA3{mg:Str->Option Value}{h:Heap}{v:Value}{k}{p:Pos}(r:DfltIs mg h (.Constant (.bool false) k p) v):v=.bool false:=by
 rcases r with⟨d,x,y⟩|⟨c,p,x,_⟩
 ·have hd:d=.bool false:=by injection x with x;exact x.symm
  subst hd;exact zoL y
 ·cases x
theorem zB1{mg:Str->Option Value}{h:Heap}{P:Addr}{params:Arguments}{kwd:List (Str×Expr)}{dV kV:Value}{k}{p:Pos}(hP:h.get? P=some {cls:=.none,data:=.fields #[]})(D:Dflts mg h params kwd dV kV)(hk:kwd=[(ofString "multiline",.Constant (.bool false) k p)]) :
  ∃K c dd hh t n sl,kV=.ref K∧(zn1 h P).get? K=some (zwk c dd hh t n sl):=by
 left;rcases D.kw with⟨e,_⟩|⟨_,K,oK,es,n,k1,k2,k3,k4,k5,k6⟩
 ·exact absurd e (by rw[hk];nofun)
 ·clear k3
  rw[hk]at k5 k6;obtain⟨l⟩:=es;refine zfB (zzR k5 k6) λen t hzz q1 r=>?_;subst hzz;have hv:=zA3 r;clear r k6 k5;obtain⟨c,dd,da,sl⟩:=oK;obtain⟨hh,key,val⟩:=en;dsimp only at k4 q1 hv;subst k4 q1 hv;exact⟨K,c,dd,hh,t,n,sl,k1,zdH hP k2 (by nofun)⟩
theorem zqZ{env:Env}{es:List Expr}:∀{e:Expr},kdsPlain e=true->starEach (e::es) env=(false,eval e env)::starEach es env:=λ{e} h=>by
 cases e<;>first
  |rfl
  |exact absurd h (by simp[kdsPlain])
theorem zaj{S:St0}{sh:zak}{e:Expr}{es:List Expr}{c:PE}{cs:PEs}(H:zau S sh e c)(Hs:zbT S sh es cs)(hp:kdsPlain e=true:=by rfl):zbT S sh (e::es) (zab c cs):=zu3 H Hs λenv=>zqZ hp
noncomputable def zjv(l:List D):Option (List Int):=match l with
 |[]=>some []
 |d::l=>match d.int? with
  |some i=>match zjv l with
   |some m=>some (i::m)
   |none=>none
  |none=>none
theorem zkS:∀{l:List D}{ns:List Int},zjv l=some ns->l=ns.map .int
 |[],ns,h=>by obtain rfl:=yj h;rfl
 |d::l,ns,h=>by
  rw[zjv]at h;cases e1:d.int? with
  |none=>rw[e1]at h;exact zae h
  |some i=>
   rw[e1]at h;cases e2:zjv l with
   |none=>rw[e2]at h;exact zae h
   |some m=>
    rw[e2]at h;obtain rfl:=yj h;rw[List.map_cons,←zkS e2,D.int?_inv e1]
theorem zj4:∀(ns:List Int),zjv (ns.map .int)=some ns
 |[]=>rfl
 |i::ns=>by
  show(match zjv (ns.map .int)with|some m=>some (i::m)|none=>none)=_;rw[zj4 ns]
noncomputable def lst?(d:D):Option (List Int):=match d with
 |.lst l=>zjv l
 |_=>none
theorem lst?_inv{d:D}{ns:List Int}(h:lst? d=some ns):d=.lst (ns.map .int):=by
 cases d<;>first|(exact zae h;done)|exact ya D.lst (zkS h)
noncomputable def cL:Dc (List Int):=⟨lst?,λns=>.lst (ns.map .int),lst?_inv⟩
theorem zvL{ns:List Int}{l:List D}{k:List Int->List D->zkh}{Q:D->Prop}{X:Err->Prop}(h:zbu (k ns l) Q X):zbu (zdo cL (.lst (ns.map .int)::l) k) Q X:=by
 have e:cL.of (.lst (ns.map .int))=some ns:=zj4 ns;unfold zdo;dsimp only;rw[e];exact h
theorem zyY{a b:Nat}{Q:Res->Prop}{X:Err->Prop}(hb:b≠0)(k:Q (.pl (.int (a%b:Nat)))):zxw (.int (a:Nat)) (.int (b:Nat)) Q X:=
 ⟨λz=>hb (Int.ofNat.inj z),by rw[←Int.ofNat_fmod];exact k⟩
theorem zrK{a b:Nat}{Q:Res->Prop}{X:Err->Prop}(hb:b≠0)(hp:(b:Nat).log2<9000)(k:Q (.pl (.int (a/b:Nat)))):zqp (.int (a:Nat)) (.int (b:Nat)) Q X:=
 ⟨λz=>hb (Int.ofNat.inj z),PyProof.noPylong_of_log2 hp,by rw[←Int.ofNat_fdiv];exact k⟩
theorem zAc{a e:Nat}{Q:Res->Prop}{X:Err->Prop}(h1:2≤a)(h2:a≤1000000000)(h3:e≤10000)(k:Q (.pl (.int (a^e:Nat)))):zBS (.int (a:Nat)) (.int (e:Nat)) Q X:=
 ⟨yV.mpr h1,yB _,yV.mpr h2,yV.mpr h3,by rw[Int.toNat_natCast,←Int.natCast_pow];exact k⟩
theorem zrx{j n:Nat}(h:j<n):seqIndex? (j:Nat) n=some j:=by
 unfold seqIndex?;simp only[show ¬((j:Int)<0)from by lia,if_false];rw[if_pos (by simp;omega)];rfl
theorem zwJ{j:Nat}(h:j≤1000000):(decide ((j:Int) < -(2^63:Int))||decide ((j:Int) ≥ 2^63))=false:=by simp;omega
theorem zeZ{l:List D}{j:Nat}{d:D}{Q:Res->Prop}{X:Err->Prop}(hj:j≤1000000)(h:l[j]?=some d)(he:d.isExc=false)(q:Q (.pl d)):zrE (.lst l) (.int (j:Nat)) Q X:=
 ⟨zwJ hj,d,by rw[zrx (List.getElem?_eq_some_iff.mp h).1];exact h,he,q⟩
theorem zhn{l:List D}{j:Nat}{d:D}{Q:Res->Prop}{X:Err->Prop}(hj:j≤1000000)(h:l[j]?=some d)(he:d.isExc=false)(q:Q (.pl d)):zrE (.tup l) (.int (j:Nat)) Q X:=
 ⟨zwJ hj,d,by rw[zrx (List.getElem?_eq_some_iff.mp h).1];exact h,he,q⟩
noncomputable def tb(T:PT)(st:Sl)(b:Bool):Prop:=∀(Q:Bool->Sl->Prop)(X:Err->Sl->Prop),Q b st->T Q X st
theorem zCd(y:List Nat)(c:Nat):(zbS y [c] 0 y.length).isSome=decide (c∈y):=by
 by_cases h:c∈y
 ·rw[decide_eq_true h]
  refine zfw (List.eq_append_cons_of_mem h) λpre r hzz hp=>?_;subst hzz;rw[zmV hp];rfl
 ·rw[decide_eq_false h,zh8 h];rfl
theorem zmk{s:List Nat}{q:Nat}{Q:Res->Prop}(hs:s.length≤LIM)(k:Q (.pl (.str (s.take q)))):zhM s none (some (q:Nat)) Q:=by
 rw[zxA];refine⟨hs,?_⟩;have:zbA s none (some (q:Nat))=s.take q:=by
  unfold zbA;rw[show za3 none 0 s.length=0 from rfl,List.drop_zero,Nat.sub_zero];unfold za3;dsimp only;rw[if_neg (Int.not_lt.mpr (Int.natCast_nonneg q)),zdO];rw[List.take_eq_take_iff];lia
 exact this▸k
theorem zhV{s:List Nat}{q:Nat}{Q:Res->Prop}(hs:s.length≤LIM)(k:Q (.pl (.str (s.drop q)))):zhM s (some (q:Nat)) none Q:=by
 rw[zxA];refine⟨hs,?_⟩;have:zbA s (some (q:Nat)) none=s.drop q:=by
  unfold zbA;rw[show za3 none s.length s.length=s.length from rfl];unfold za3;dsimp only;rw[if_neg (Int.not_lt.mpr (Int.natCast_nonneg q)),zdO,List.take_of_length_le (by rw[List.length_drop];exact Nat.le_refl _)];by_cases h:q≤s.length
  ·rw[Nat.min_eq_left h]
  ·rw[Nat.min_eq_right (by omega),List.drop_of_length_le (Nat.le_refl _),List.drop_of_length_le (by omega)]
 exact this▸k
theorem zzp{i:Int}{Q:Res->Prop}{X:Err->Prop}(k:Q (.pl (.int (-i)))):zxD (.int i) Q X:=k
theorem item_last{l:List D}{n:Nat}{d:D}{Q:Res->Prop}{X:Err->Prop}(hl:l.length=n+1)(h:l[n]?=some d)(he:d.isExc=false)(q:Q (.pl d)):zrE (.lst l) (.int (-1)) Q X:=
 ⟨by decide,d,by
  have:seqIndex? (-1) l.length=some n:=by
   unfold seqIndex?;rw[hl];simp;lia
  exact this▸h,he,q⟩
theorem zci{n m:Nat}(h:Nat.ble n m=true):n≤m:=yK h
theorem zq4{a b:Nat}:decide (((a:Nat):Int)<((b:Nat):Int))=decide (a<b):=yW.mpr Int.ofNat_lt
theorem zu8{ns:List Int}{k:List Int->Prop}(h:k ns):one cL [.lst (ns.map .int)] k:=by
 have e:cL.of (.lst (ns.map .int))=some ns:=zj4 ns;show oM (cL.of (.lst (ns.map .int))) λx=>k x;rw[e];exact h
theorem zsX{S:St0}(D0:Std S){sh:zak}{n:Str}{a:Addr}{o:Obj}{params:Arguments}{body:List Stmt}{scope:Scope}{pm cd doc dV kV:Value}{ps rest kws:List Str}{c:PS}{F:List D->List D->PD}{l:List (Str×Ctr)}
  (hm:S.mg n=some (.ref a))(ho:S.base.get? a=some o)(hd:o.data=.func {docDef n params body scope pm cd doc with defaults:=dV,kwdefaults:=kV})(hcd:S.base.CodeRec cd n)
  (hco:scope.isCoroutine=false)(hgen:scope.isGenerator=false)(hk:scope.kind=.function)(hsc:sh.scope=scope)(hcell:(scope.names.all λx=>x.2 != .cell)=true)
  (hnames:sh.names=ps++rest)(hloc:(sh.names.all λx=>sh.scope.names.lookup x==some .local)=true)(hnd:sh.names.Nodup)
  (hbind:∀(s:Shared)(vs ks:List Value),vs.length+kws.length=ps.length->ks.length=kws.length->BindsTo s {docDef n params body scope pm cd doc with defaults:=dV,kwdefaults:=kV} ⟨vs,kws.zip ks⟩ (ps.zip (vs++ks)))
  (hps:kws.length≤ps.length)(H:zaG S sh body c)(k:∀ds dk Q X,F ds dk Q X->ds.length+kws.length=ps.length∧zfO c rest.length (ds++dk) Q X)
  (hin:sh.inner=true->zeT S cd∧n++ofString ".<locals>."=ofString "suffixed_err.<locals>.")(t:zaD S (zay l))(hcs:sh.cells=[]:=by rfl) :
  zaD S (zay ((n,⟨sh.rank+10,sh.calm,kws,F⟩)::l)):=
 zaD.cons hm ho hd (ziO.mono (zsb D0 (sh:=sh) ho hd hcd rfl rfl rfl hco hgen hk hsc (λx hx=>by
   have:=yO.mp hcell x hx;simpa using this) hnames (λx hx=>by
   have:=yO.mp hloc x hx;simpa using this) hnd rfl (λs vs ks _ h1 h2=>hbind s vs ks h1 h2) hps H hin (hcs:=hcs)) (yr _) k) t
section
variable{S:St0}{sh:zak}{a:Act}{ow:Nat->Option Addr}{st:Sl}{s:Shared}
noncomputable def Slot.cel?:Slot->Option D
 |.cel o=>o
 |_=>none
theorem Slot.cel?_inv{d:Slot}{l}(h:d.cel?=some l):d=.cel (some l):=by
 induction d with
 |cel o=>exact ya _ (show o=some l from h)
 |_=>exact zae (show(none:Option D)=some l from h)
@[reducible]noncomputable def atC(st:Sl)(i:Nat)(Q:D->Prop):Prop:=oM st[i]? λx=>oM x.cel? Q
theorem zxc{st:Sl}{i:Nat}{Q:D->Prop}(h:atC st i Q):∃d,st[i]?=some (.cel (some d))∧Q d:=
 let ⟨_,h1,h⟩:=oM_inv h
 let ⟨d,h2,h⟩:=oM_inv h
 (zbB d (h1.trans (ya _ (Slot.cel?_inv h2))) h)
theorem zrX(f:a.Fits S sh)(R:Rel S sh a noX ow st s){i:Nat}{x:Str}{d:Option D}(hi:sh.all[i]?=some x)(hx:x∈sh.cells)(hd:st[i]?=some (.cel d)) :
  ∃b w,a.env.cells.lookup x=some b∧ow i=some b∧s.heap.IsCell b w∧zzI S s.heap (Pv a noX ow) w d:=by
 left;obtain⟨c,hc⟩:=f.celld x hx;refine zcM R.slots λm hn hl hs=>?_;obtain⟨b,o,w,h1,h2,h3,h4,h5⟩:=hs i x _ hi hd;have h2:(match a.env.cells.lookup x with|some c=>some (Value.ref c)|none=>m x)=some (.ref b):=h2;rw[hc]at h2;cases h2;exact zkD c w hc h1 (zbB o h3 h4) h5
@[reducible]noncomputable def zgD(i:Nat):PE:=λQ _ st=>atC st i λd=>zwG d.isExc (Q (.pl d) st)
theorem zfu{i:Nat}{x:Str}{pos}(hi:sh.all[i]?=some x)(hx:x∈sh.cells)(hd:(x==("__debug__":Str))=false:=by decide):zau S sh (.Name x pos) (zgD i):=λa ow st s Q X f R q=>by
 left;refine zaO (zxc q) λd e q=>?_;obtain⟨b,w,h1,h2,h3,v,rfl,h4⟩:=zrX f R hi hx e;have hk:a.env.kindOf x=some .cell:=by unfold Env.kindOf;exact f.scope▸(f.cellk x hx)
 exact wpAny_Name (wpAny_loadName_cell (f.scope▸f.kind) hk h1 h3 (zq3 (.refl ..) (by rw[zdr R];exact h4) (zji q).2 (zji q).1)) hd
@[reducible]noncomputable def zAg(st:Sl)(i:Nat)(Q:Prop):Prop:=match st[i]? with
 |some (.cel _)=>Q
 |_=>False
theorem zpw{st:Sl}{i:Nat}{Q:Prop}(h:zAg st i Q):(∃d,st[i]?=some (.cel d))∧Q:=by
 unfold zAg at h;cases e:st[i]? with
 |none=>rw[e]at h;exact h.elim
 |some x=>
  rw[e]at h
  induction x with
  |cel d=>exact⟨⟨d,rfl⟩,h⟩
  |_=>exact h.elim
@[reducible]noncomputable def znq(i:Nat)(c:PE):PS:=λQ X st=>c (λr st₁=>zAg (r.seal st₁) i (Q .next ((r.seal st₁).set i (.cel (some r.d))))) X st
theorem zqx{i:Nat}{x:Str}{p' value pos}(hi:sh.all[i]?=some x)(hx:x∈sh.cells)(hs:swapsWith value (some (.Name x p')) pos.line a.env=pure false){Q:Fl->Sl->Prop}{X:Err->Sl->Prop}(f:a.Fits S sh)(R:Rel S sh a noX ow st s)
  (H:wpAny (model S.prog S.w) a.A (eval value a.env) (OkE S a ow st s λr st₁=>zAg (r.seal st₁) i (Q .next ((r.seal st₁).set i (.cel (some r.d))))) (zfA S a st s X) s) :
  wpAny (model S.prog S.w) a.A (exec (.Assign [.Name x p'] value pos) a.env) (OkS S sh a Q) (zlv S sh a X) s:=by
 refine wpAny_Assign_Name (yt H (λv s₁ h=>?_) λ_ _ x=>zdG f R x) hs;left;obtain⟨r,st₁,h1,h2,h3⟩:=h;obtain⟨⟨d,hd⟩,h1⟩:=zpw h1;refine zb0 (zgN f R h2 h3) λK hv=>?_;have R1:=R.step f K;refine zBd (zrX f R1 hi hx hd) λb w g1 g2 g3 g4=>?_;have hk:a.env.kindOf x=some .cell:=by unfold Env.kindOf;exact f.scope▸(f.cellk x hx)
 refine wpAny_storeName_cell (f.scope▸f.kind) hk g1 g3 λh' k1 k2=>?_;left;refine zaO g3 λo ho hod=>?_;refine zaO k1 λo' ho' hod'=>?_;refine⟨.next,_,_,h1,R1.own_put f g2 hd ho (λ_ e=>nomatch hod.symm.trans e) (λ_ e=>nomatch hod.symm.trans e) (λ_ _ _ e=>nomatch hod.symm.trans e) (tk:=s₁.toks) k2 (sl':=.cel (some r.d)) λu q G=>?_,trivial⟩;obtain⟨b',_,_,q1,q2,_⟩:=q;rw[g2]at q1;obtain rfl:=yj q1;exact⟨b,o',some v,g2,q2,ho',hod',v,rfl,hv.goes G⟩
theorem zqT{i:Nat}{x:Str}{p' value pos}{c:PE}(hi:sh.all[i]?=some x)(hx:x∈sh.cells)(H:zau S sh value c)(hs:∀env,swapsWith value (some (.Name x p')) pos.line env=pure false:=by intro;rfl) :
  zbk S sh (.Assign [.Name x p'] value pos) (znq i c):=λa ow st s Q X g R q=>
 zqx hi hx (hs _) g.f R (H a ow st s _ X g.f R q)
end
section
open PySem.Builtin PySem.Builtin.Str
section
variable{S:St0}{sh:zak}
noncomputable def zik(p:List Nat):List (List Nat)->List Nat
 |[]=>[]
 |[x]=>x
 |x::y::r=>x++p++zik p (y::r)
theorem zwZ(a b:List Nat):mk a++mk b=mk (a++b):=by
 show Str.mk (a.toArray++b.toArray)=Str.mk (a++b).toArray;rw[List.append_toArray]
theorem zo1(p:List Nat):∀l:List (List Nat),Str.join (mk p) (l.map mk)=mk (zik p l)
 |[]=>rfl
 |[x]=>rfl
 |x::y::r=>by
  have h:=zo1 p (y::r);show mk x++mk p++Str.join (mk p) ((y::r).map mk)=mk (x++p++zik p (y::r));rw[h,zwZ,zwZ]
noncomputable def zCq(d:D):Option (List (List Nat)):=d.lst?.bind zy3
theorem zwh{d:D}{l:List (List Nat)}(h:zCq d=some l):d=.lst (l.map .str):=by
 obtain⟨ds,e1,e2⟩:=Option.bind_eq_some_iff.mp h;rw[D.lst?_inv e1,zpJ e2]
@[reducible]noncomputable def cLT:Dc (List (List Nat)):=⟨zCq,λl=>.lst (l.map .str),zwh⟩
noncomputable def zwd(p:List Nat)(ds:List D)(Q:Res->Prop)(_:Err->Prop):Prop:=one cLT ds λl=>(l.map List.length).sum+l.length*p.length≤1000000∧Q (.pl (.str (zik p l)))
theorem zue{h:Heap}{P:Addr->Prop}:∀{l:List (List Nat)}{vs:List Value},zaN S h P vs (l.map .str)->∃ps:List (Str×Tok),vs=strValues ps∧ps.map (·.1)=l.map mk
 |[],vs,x=>by
  cases x;exact zbB ([]) rfl rfl
 |x::l,vs,y=>by
  rw[List.map_cons]at y;cases y with
  |cons a b=>
   left;refine zfc a.inv λt e1=>?_;refine zaO (zue b) λps e2 h2=>?_;exact zbB ((mk x,t)::ps) (by rw[e1,e2];rfl) (by rw[List.map_cons,h2];rfl)
theorem znJ:zmM S sh "str.join" zwd:=λa ow st s p t vs ds Q X f R h q=>by
 left;refine zcM (zfs q) λl e hl q=>?_;rw[e]at h;refine zaO (zd2 h) λv hzz h1=>?_;subst hzz;clear h;obtain⟨b,o,vs,n,rfl,g1,g2,g3,g4⟩:=h1.lst;refine zaO (zue g4) λps k1 k2=>?_;refine SC.join (l:=ps) (texts:=l.map mk) ⟨o,g1,g2,n,k1.symm▸g3⟩ k2 ?_ λt' k=>?_
 ·unfold JoinOk tooLong
  rw[StrLaws.joinTotal,List.length_map,zaI,List.map_map,Bool.not_eq_true',decide_eq_false_iff_not];have:(l.map ((λx:Str=>x.length) ∘ mk)).sum=(l.map List.length).sum:=by congr 1;first|done|exact List.map_congr_left λx _=>zaI x
  rw[this];exact yg.mpr (yk hl (by decide))
 ·show OkP S a ow st s Q (.str (glued (mk p) (l.map mk)) t') _
  rw[StrLaws.glued_eq_join,zo1];exact zcU R rfl q
end
end
theorem zte{c:Nat}{r p:List Nat}(h:zee (c::r) p (c::r).length 0=false):zbS (c::r) p 0 (c::r).length=(zbS r p 0 r.length).map (· + 1):=by
 unfold zbS;simp only[show(c::r).length+1-0=(r.length+1-0)+1 from rfl,List.range'_succ,List.find?_cons,h,List.range'_eq_map_range,List.range'_eq_map_range,List.find?_map,List.find?_map,Option.map_map];have e:(zee (c::r) p (c::r).length ∘ λx=>0+1+x)=(zee r p r.length ∘ λx=>0+x):=funext λi=>by
  show zee (c::r) p (c::r).length (0+1+i)=zee r p r.length (0+i);unfold zee;simp only[Nat.zero_add,Nat.zero_add,Nat.add_comm 1 i,List.drop_succ_cons,List.length_cons,Nat.add_right_comm];exact ya (· && _) (yW.mpr (Nat.succ_le_succ_iff))
 rw[e];exact ya (λf:Nat->Nat=>Option.map f ((List.range (r.length+1-0)).find? (zee r p r.length ∘ λx=>0+x))) (funext λi=>show 0+1+i=0+i+1 by simp only[Nat.add_comm (0+1) i,Nat.zero_add,Nat.zero_add])
theorem zkZ{c:Nat}{r p:List Nat}(hp:p≠[])(h:zee (c::r) p (c::r).length 0=false):∃x l,zbg r p=x::l∧zbg (c::r) p=(c::x)::l:=by
 have hf:=zte h;cases e:zbS r p 0 r.length with
 |none=>
  rw[e]at hf;exact⟨r,[],zdm e,zdm hf⟩
 |some i=>
  rw[e]at hf;refine⟨_,_,ze1 hp e,?_⟩;simp only[ze1 hp hf,List.take_succ_cons,Nat.add_right_comm,List.drop_succ_cons]
theorem at0{r p:List Nat}{c:Nat}:zee (c::r) p (c::r).length 0=true->p.length≤(c::r).length∧(c::r).take p.length=p:=λh=>by
 unfold zee at h;obtain⟨h1,h2⟩:=yw.mp h;exact⟨by have:=yF h1;rwa[Nat.zero_add]at this,eq_of_beq h2⟩
theorem zBR{r p:List Nat}{c:Nat}(h:(c::r).take p.length≠p):zee (c::r) p (c::r).length 0=false:=Bool.eq_false_iff.mpr λz=>h (at0 z).2
theorem ztH{n c:Nat}(h:c∈zbm (n:Nat)):48≤c∧c≤57:=by
 unfold zbm at h;rw[KIN.signs_num]at h;obtain⟨ch,hch,e⟩:=List.mem_map.mp h;have r:=digit_range (Nat.isDigit_of_mem_toDigits (by decide) (by decide) hch);rw[←e];exact r
theorem zmK{a b r:List Nat}{c:Nat}(ha:c∉a)(hb:c∉b)(hr:c∉r):∀{w:List Nat},c∉w->zbg (w++((a++c::b)++r)) (a++c::b)=[w,r]:=by
 have hp:a++c::b≠[]:=by simp
 intro w hw
 induction w with
 |nil=>
  have h0:zbS ((a++c::b)++r) (a++c::b) 0 ((a++c::b)++r).length=some 0:=by
   unfold zbS;rw[Nat.sub_zero,List.range'_succ,List.find?_cons];unfold zee;rw[decide_eq_true (by rw[Nat.zero_add,List.length_append (as:=a++c::b)];exact Nat.le_add_right ..),List.drop_zero,List.take_left,beq_self_eq_true];rfl
  rw[List.nil_append,ze1 hp h0,Nat.zero_add,List.drop_left,zdm]
  ·rfl
  ·refine List.find?_eq_none.mpr λi _ z=>hr ?_
   have z:=eq_of_beq (yw.mp z).2;have:c∈(r.drop i).take (a++c::b).length:=by rw[z];exact xe _ yq
   exact List.mem_of_mem_drop (List.mem_of_mem_take this)
 |cons x w ih=>
  have ih:=ih λz=>hw (yn _ z);obtain⟨y,l,h1,h2⟩:=zkZ (c:=x) (r:=w++((a++c::b)++r)) hp (zBR λz=>by
   have z:=ya (λl:List Nat=>l[a.length]?) z;rw[List.getElem?_take,if_pos (by rw[List.length_append,List.length_cons];exact Nat.lt_add_of_pos_right (Nat.succ_pos _))]at z;have e1:(a++c::b)[a.length]?=some c:=by rw[List.getElem?_append_right (Nat.le_refl _),Nat.sub_self];rfl
   have e2:(x::(w++((a++c::b)++r)))=((x::w)++a)++(c::b++r):=by simp
   rw[e1,e2,List.getElem?_append_left (by rw[List.length_append,List.length_cons];exact Nat.lt_add_of_pos_left (Nat.succ_pos _))]at z;exact(List.mem_append.mp (yy z)).elim hw ha)
  rw[ih]at h1;obtain⟨rfl,rfl⟩:=yQ h1;exact h2
theorem zb6{l:List Nat}{c:Nat}(h:(l.all λd=>d != c)=true):c∉l:=λz=>absurd rfl (bne_iff_ne.mp (yO.mp h c z))
theorem zkY{n c:Nat}(h:¬(48≤c∧c≤57)):c∉zbm (n:Nat):=λz=>h (ztH z)
theorem zdw{a b:List Nat}{c:Nat}(h1:c∉a)(h2:c∉b):c∉a++b:=λz=>(List.mem_append.mp z).elim h1 h2
theorem zpW{s m:List Nat}{p:Nat}(hm:40∉m):zbg (zcH s p m) zzm=[m,zaQ s p++zlf]:=by
 have hr:40∉zaQ s p++zlf:=by
  refine zdw ?_ (zb6 rfl);unfold zaQ;by_cases h:s.length≤p
  ·rw[if_pos h];exact zb6 rfl
  ·rw[if_neg h];exact zdw (zdw (zdw (zb6 rfl) (zkY (by decide))) (zb6 rfl)) (zkY (by decide))
 have:=zmK (a:=[32]) (b:=[97,116,32]) (c:=40) (zb6 rfl) (zb6 rfl) hr hm;unfold zcH;rw[List.append_assoc,List.append_assoc];exact this
theorem ztV{m n:Nat}:zbg (zbm (m:Nat)++(zjy++zbm (n:Nat))) zjy=[zbm (m:Nat),zbm (n:Nat)]:=
 zmK (a:=[]) (b:=[32,99,111,108,117,109,110,32]) (c:=44) List.not_mem_nil (zb6 rfl) (zkY (by decide)) (zkY (by decide))
theorem zvy:∀(n:Nat)(l:List Nat)(p:Nat),l.length≤n->p≤l.length->(((zbg l [10]).take ((l.take p).count 10)).map λr=>r.length+1).sum+((l.take p).reverse.takeWhile (· != 10)).length=p:=by
 intro n
 induction n with
 |zero=>
  intro l p hn hp;rw[List.eq_nil_of_length_eq_zero (Nat.le_zero.mp hn)]at hp⊢;rw[Nat.le_zero.mp hp];rfl
 |succ n ih=>
  intro l p hn hp;have hno:∀p,10∉l.take p->p≤l.length->(((zbg l [10]).take ((l.take p).count 10)).map λr=>r.length+1).sum+((l.take p).reverse.takeWhile (· != 10)).length=p:=λp h hp=>by
   rw[List.count_eq_zero.mpr h,List.take_zero,zpL (λz=>h (List.mem_reverse.mp z)),List.length_reverse,List.length_take,Nat.min_eq_left hp];exact Nat.zero_add p
  by_cases h:10∈l
  ·obtain⟨pre,r,e,hpre⟩:=List.eq_append_cons_of_mem h
   by_cases hq:p≤pre.length
   ·refine hno p ?_ hp
    rw[e,List.take_append_of_le_length hq];exact λz=>hpre (List.mem_of_mem_take z)
   ·obtain⟨q,rfl⟩:=Nat.le.dest (xh hq)
    have ht:l.take (pre.length.succ+q)=pre++10::r.take q:=by
     rw[e,List.take_append,List.take_of_length_le (Nat.le_trans (Nat.le_succ _) (Nat.le_add_right ..)),Nat.succ_add,←Nat.add_succ,Nat.add_sub_cancel_left,List.take_succ_cons]
    have hl:q≤r.length:=by
     rw[e,List.length_append,List.length_cons,Nat.succ_add,←Nat.add_succ]at hp;exact yN (Nat.le_of_add_le_add_left hp)
    rw[ht,zpF hpre,zrR,e,zkQ hpre,List.take_succ_cons,List.map_cons,List.sum_cons,Nat.add_assoc,ih r q (zpg (e▸hn)) hl]
  ·exact hno p (λz=>h (List.mem_of_mem_take z)) hp
theorem ztO{a x:List Nat}{z k:Nat}(hk:a.length=k):zbA (a++x++[z]) (some (k:Nat)) (some (-1))=x:=by
 have hl:(a++x++[z]).length=(k+x.length)+1:=by rw[List.length_append,List.length_append,hk];rfl
 have h2:za3 (some (-1)) (a++x++[z]).length (a++x++[z]).length=k+x.length:=by
  rw[hl];unfold za3;dsimp only;rw[if_pos (by decide),show(-1:Int)+((k+x.length+1:Nat):Int)=((k+x.length:Nat):Int) by lia,zdO];exact Nat.min_eq_left (yi _)
 unfold zbA;rw[h2,zie 0 (by rw[hl];exact Nat.le_trans (Nat.le_add_right ..) (Nat.le_succ _)),Nat.add_sub_cancel_left,List.append_assoc,List.drop_left' hk,List.take_left]
section
variable{S:St0}{sh:zak}
theorem zto(lo hi:Option Int)(n:Nat):sliceBounds lo hi none n=(((za3 lo 0 n:Nat):Int),((za3 hi n n:Nat):Int),1):=by
 rw[←zmm lo 0 n,←zmm hi n n];unfold sliceBounds
 induction lo<;>induction hi<;>rfl
theorem zk4{α:Type}(l:List α)(a:Nat):∀n:Nat,a+n≤l.length->((List.range n).map λk:Nat=>((a:Int)+1*(k:Int)).toNat).filterMap (l[·]?)=(l.drop a).take n
 |0,_=>by rw[List.take_zero];rfl
 |n+1,h=>by
  rw[List.range_succ,List.map_append,List.filterMap_append,zk4 l a n (Nat.le_of_succ_le h),List.take_add_one,List.getElem?_drop]
  congr 1
  have e:((a:Int)+1*(n:Int)).toNat=a+n:=by rw[Int.one_mul,←Int.natCast_add,Int.toNat_natCast]
  have hlt:a+n<l.length:=h;rw[List.map_singleton,e,List.filterMap_cons,List.getElem?_eq_getElem hlt];rfl
theorem count_is(a b:Nat):(if((a:Nat):Int)<((b:Nat):Int)then(((b:Nat):Int)-((a:Nat):Int)+1-1)/1 else 0).toNat=b-a:=by
 by_cases h:a<b
 ·rw[if_pos (Int.ofNat_lt.mpr h),Int.add_sub_cancel,Int.ediv_one]
  exact Int.toNat_sub b a
 ·rw[if_neg λz=>h (Int.ofNat_lt.mp z),Nat.sub_eq_zero_of_le (Nat.le_of_not_lt h)]
  rfl
theorem zqE(vs:Array Value)(lo hi:Option Int):(slicePick vs lo hi none).toList=zbA vs.toList lo hi:=by
 unfold slicePick;rw[zto];show(sliceRange ((za3 lo 0 vs.size:Nat):Int) ((za3 hi vs.size vs.size:Nat):Int) 1).filterMap (vs[·]?)=_;have h2:=ze0 hi vs.size vs.size (yr _);have hr:sliceRange ((za3 lo 0 vs.size:Nat):Int) ((za3 hi vs.size vs.size:Nat):Int) 1=(List.range (za3 hi vs.size vs.size-za3 lo 0 vs.size)).map λk:Nat=>(((za3 lo 0 vs.size:Nat):Int)+1*(k:Int)).toNat:=by
  unfold sliceRange;dsimp only;rw[if_pos (show(1:Int) > 0 by decide)]
  congr 2
  exact count_is _ _
 rw[hr];unfold zbA;rw[Array.length_toList];by_cases h:za3 lo 0 vs.size≤za3 hi vs.size vs.size
 ·rw[←zk4 vs.toList _ _ (by rw[Array.length_toList,Nat.add_sub_cancel' h];exact h2)]
  congr 1
  funext i
  exact(Array.getElem?_toList (xs:=vs)).symm
 ·have z:za3 hi vs.size vs.size-za3 lo 0 vs.size=0:=Nat.sub_eq_zero_of_le (yc (xh h))
  rw[z,List.take_zero];rfl
theorem zla{h:Heap}{P:Addr->Prop}:∀(n:Nat){vs:List Value}{ds:List D},zaN S h P vs ds->zaN S h P (vs.drop n) (ds.drop n)
 |0,_,_,x=>x
 |n+1,_,_,x=>by
  cases x with
  |nil=>exact .nil
  |cons _ b=>exact zla n b
theorem zk9{h:Heap}{P:Addr->Prop}:∀(n:Nat){vs:List Value}{ds:List D},zaN S h P vs ds->zaN S h P (vs.take n) (ds.take n)
 |0,_,_,_=>.nil
 |n+1,_,_,x=>by
  cases x with
  |nil=>exact .nil
  |cons a b=>exact .cons a (zk9 n b)
@[reducible]noncomputable def zh6(d:D)(lo hi:Option Int)(Q:Res->Prop):Prop:=oM d.lst? λl=>l.length≤LIM∧Q (.fr (zbA l lo hi))
theorem ztz:zoO S sh zh6:=λa ow st s v d pl pu sl Q E f R h hs q=>by
 refine zcM (oM_inv q) λl hd hlen q=>?_;rw[D.lst?_inv hd]at h⊢;refine⟨rfl,?_⟩;left;obtain⟨b,o,vs,n,rfl,g1,g2,g3,g4⟩:=h.lst;have hsz:vs.size=l.length:=by rw[←g4.length,Array.length_toList]
 have part:∀p:Option (Int×Tok),IsPart (partValue p) (p.map (·.1)):=λp=>by
  induction p with
  |none=>exact .none
  |some p=>exact .int _ _
 refine wpAny_getItem_list_slice (lo:=pl.map (·.1)) (hi:=pu.map (·.1)) (st:=none) ⟨o,g1,g2,n,g3⟩ hs (part pl) (part pu) .none (by decide) ?_ (hsz▸(zez hlen));have hn:s.heap.get? s.heap.objs.size=none:=yT (yr _);refine⟨_,q,⟨.refl _,.push _ _,rfl,rfl⟩,_,_,_,_,rfl,hn,yI _ rfl,rfl,rfl,?_,rfl⟩;rw[zqE];have g5:zaN S s.heap (Pv a noX ow) (zbA vs.toList (pl.map (·.1)) (pu.map (·.1))) (zbA l (pl.map (·.1)) (pu.map (·.1))):=by
  unfold zbA;rw[g4.length];exact zk9 _ (zla _ g4)
 refine g5.goes (zgd λb hb q=>?_);rcases q with q|q|q|q
 ·exact .inl q
 ·exact .inr (.inl q)
 ·rw[q,hn]at hb;exact zaF hb
 ·exact .inr (.inr (.inr q))
theorem zhg{e:Expr}{lo hi:Option Expr}{p pos}{c:PE}{cl cu:PO}(H:zau S sh e c)(Hl:zlN S sh lo cl)(Hu:zlN S sh hi cu):zau S sh (.Subscript e (.Slice lo hi none p) pos) (zfy zh6 c cl cu):=znQ ztz H Hl Hu
end
section
variable{S:St0}{sh:zak}{a:Act}
noncomputable def zz1(d e:D)(Q:Res->Prop)(_:Err->Prop):Prop:=zyO d e λx y=>Builtin.Int.intBits x≤64∧Q (.pl (.int (x*y)))
theorem zjV:zc8 S sh (binaryOp .Mult) zz1:=λa ow st s v1a v2a d1 d2 Q X f R h1 h2 q=>by
 refine zBd (zed q) λx y e1 e2 hb q=>?_;rw[e1]at h1;rw[e2]at h2;obtain⟨t,rfl⟩:=h1.int;obtain⟨u,rfl⟩:=h2.int;exact AutoIntOps.mul_0 (zbI R q) (.of_left hb)
@[reducible]noncomputable def zhr(is:List Nat)(c:PE):PS:=λQ X st=>c (λr st₁=>oM r.d.lst? λds=>zzS (Nat.beq ds.length is.length) (Q .next (putAll is ds st₁))) X st
theorem zia{es:List Expr}{k}{tp:Pos}{value:Expr}{pos:Pos}{is:List Nat}{c:PE}(hcalm:sh.calm=true)(T:zbG sh es is)(H:zau S sh value c)
  (hs:∀env,swapsWithSole [.Tuple es k tp] value pos.line env=pure false:=by intro;rfl)(hw:∀env,swappedStores [.Tuple es k tp] value env=pure none:=by intro;rfl) :
  zbk S sh (.Assign [.Tuple es k tp] value pos) (zhr is c):=λa ow st s Q X g R q=>by
 have f:=g.f;refine wpAny_Assign_stores (yt (H a ow st s _ X f R q) (λv s₁ h=>?_) λ_ _ x=>zdG f R x) (hs _) (hw _);left;obtain⟨r,st₁,hq,K,hr⟩:=h;refine zaO (oM_inv hq) λds e hq=>?_;have hr:=hr.c;rw[D.lst?_inv e]at hr;refine zb0 (zje hq) λhl hq=>?_;have hl:=Nat.eq_of_beq_eq_true hl;obtain⟨t,o,vs,n,rfl,h1,h2,h3,h4⟩:=hr.lst;have R1:=R.step f K;show wpAny _ _ (assign (.Tuple es k tp) a.env (.ref t)) _ _ _;refine zb0 (zj3 T a.env) λtl1 tl2=>?_;have hsz:vs.size=is.length:=by rw[←hl,←h4.length];simp
 rw[arm_assign_Tuple];refine yl (yX ?_);unfold unpack;rw[show(assignEach es a.env).length=vs.size from tl1.trans hsz.symm,tl2];refine yl (yH (kun_itemsOf (f.calm hcalm).1 ⟨o,h1,h2,n,h3⟩ λh' he=>?_));have hk:∀b o,s₁.heap.get? b=some o->h'.get? b=some o:=λb o e=>he b o (λz=>by rw[z,Heap.get?_none_of_le (Nat.le_refl _)]at e;exact zae e) e;have K2:Step a st₁ st₁ s₁ {s₁ with heap:=h'}:=⟨.refl _,.of_keeps hk,rfl,rfl⟩;have R2:=R1.step f K2;refine zjT f T R2 (h4.goes (R1.goes f K2.keep λb _ q=>q.restr)) hl λs' ow' R'=>⟨.next,ow',_,hq,R',trivial⟩
end
section
variable{S:St0}{sh:zak}
end
section
variable{S:St0}{sh:zak}{a:Act}
inductive zeD(sh:zak):List Str->List Nat->Prop
 |nil:zeD sh [] []
 |cons {x:Str} {i:Nat} {xs:List Str} {is:List Nat}:sh.names[i]?=some x->zeD sh xs is->zeD sh (x::xs) (i::is)
theorem zeD.len{xs:List Str}{is:List Nat}(T:zeD sh xs is):xs.length=is.length:=by
 induction T with
 |nil=>rfl
 |cons _ _ ih=>exact ya Nat.succ ih
theorem zsJ(f:a.Fits S sh){X:Err->Sl->Prop}{xs:List Str}{is:List Nat}(T:zeD sh xs is):∀{ow:Nat->Option Addr}{st:Sl}{s:Shared}{vs:List Value}{ds:List D}{Q:Unit->Shared->Prop},Rel S sh a noX ow st s->zaN S s.heap (Pv a noX ow) vs ds->ds.length=is.length ->
  (∀s' ow',Rel S sh a noX ow' (putAll is ds st) s'->Q () s')->wpAny (model S.prog S.w) a.A (assignInOrder (xs.map λn=>bindName a.env n) vs) Q (zlv S sh a X) s:=by
 induction T with
 |nil=>
  intro ow st s vs ds Q R hv hl k;cases ds with
  |nil=>cases hv;exact yo (k s ow R)
  |cons _ _=>cases hl
 |@cons x i xs is hi _ ih=>
  intro ow st s vs ds Q R hv hl k;cases hv with
  |nil=>cases hl
  |@cons v d vs ds hv hvs=>
   show wpAny _ _ (do holding vs (bindName a.env x v);assignInOrder (xs.map λn=>bindName a.env n) vs) _ _ _;refine yl (yH (wpAny_bindName (zgT f R hi hv λs' R' G=>?_)));exact ih R' (hvs.goes G) (Nat.succ.inj hl) k
theorem zaN.snocS{h:Heap}{P:Addr->Prop}{vs:List Value}{ds:List D}{v:Value}{d:D}(x:zaN S h P vs ds)(y:zcN S h P v d):zaN S h P (vs++[v]) (ds++[d]):=zaN.append (.cons y .nil) x
theorem zaN.rev{h:Heap}{P:Addr->Prop}:∀{vs:List Value}{ds:List D},zaN S h P vs ds->zaN S h P vs.reverse ds.reverse
 |vs,[],x=>by cases x;exact .nil
 |vs,d::ds,x=>by
  cases x with
  |cons a b=>rw[List.reverse_cons,List.reverse_cons];exact b.rev.snocS a
@[reducible]noncomputable def zjD(is:List Nat)(c:PE):PS:=λQ X st=>c (λr st₁=>r.oM D.tup? λds=>zzS (Nat.beq ds.length is.length) (Q .next (putAll is ds.reverse st₁))) X st
theorem zkK{es:List Expr}{k}{tp:Pos}{value:Expr}{pos:Pos}{is:List Nat}{names:List Str}{c:PE}(hcalm:sh.calm=true)(T:zeD sh names.reverse is)(H:zau S sh value c)
  (hw:∀a:Act,a.Fits S sh->swappedStores [.Tuple es k tp] value a.env=pure (some names))(hs:∀env,swapsWithSole [.Tuple es k tp] value pos.line env=pure false:=by intro;rfl) :
  zbk S sh (.Assign [.Tuple es k tp] value pos) (zjD is c):=λa ow st s Q X g R q=>by
 have f:=g.f;refine Assign_Tuple_swapped (yt (H a ow st s _ X f R q) (λv s₁ h=>?_) λ_ _ x=>zdG f R x) (hs _) (hw a f);left;obtain⟨r,st₁,hq,K,hr⟩:=h;obtain⟨ds,rfl,hq⟩:=Res.tup_inv hq;obtain⟨hr,_⟩:=hr;obtain⟨hl,hq⟩:=zje hq;have hl:=Nat.eq_of_beq_eq_true hl;obtain⟨t,o,vs,n,rfl,h1,h2,h3,h4⟩:=hr.inv;have R1:=R.step f K;have hn:names.length=vs.size:=by
  rw[←List.length_reverse,T.len,←hl,←h4.length,Array.length_toList]
 show wpAny _ _ (unpackItems (.ref t) names.length none) _ _ _;rw[hn];refine wpAny_unpackItems_tuple (f.calm hcalm).1 ⟨o,h1,h2,n,h3⟩ λh' he=>?_;have hk:∀b o,s₁.heap.get? b=some o->h'.get? b=some o:=λb o e=>he b o (λz=>by rw[z,Heap.get?_none_of_le (Nat.le_refl _)]at e;exact zae e) e;have K2:Step a st₁ st₁ s₁ {s₁ with heap:=h'}:=⟨.refl _,.of_keeps hk,rfl,rfl⟩;have R2:=R1.step f K2;exact zsJ f T R2 (h4.goes (R1.goes f K2.keep λb _ q=>q.restr)).rev (by rw[List.length_reverse];exact hl) λs' ow' R'=>⟨.next,ow',_,hq,R',trivial⟩
end
noncomputable def znA(scope sc:Scope):Scope:={scope with names:=scope.names.map λ(n,k)=>if(k == .free&&sc.kind == .function&&sc.names.lookup n==some .cell)then(n,.cell)else(n,k)}
noncomputable def zak.comp(sh:zak)(scope:Scope)(K:Str)(cs:List Str):zak:={scope:=znA scope sh.scope,names:=[K],rank:=sh.rank,calm:=true,cells:=cs}
noncomputable def zk6(env:Env):List (Str×NameKind)->List (Str×Addr)->List (Str×Addr)
 |[],acc=>acc
 |y::r,acc=>zk6 env r (match y.2 == .free,env.cells.lookup y.1 with
  |true,some b=>(y.1,b)::acc
  |_,_=>acc)
theorem zg9{env:Env}{y:Str×NameKind}{r:List (Str×NameKind)}{acc:List (Str×Addr)}{b:Addr}(h:y.2=.free)(e:env.cells.lookup y.1=some b):zk6 env (y::r) acc=zk6 env r ((y.1,b)::acc):=by
 rw[zk6,h,e];rfl
theorem zms{env:Env}{y:Str×NameKind}{r:List (Str×NameKind)}{acc:List (Str×Addr)}(h:(y.2 == .free)=false):zk6 env (y::r) acc=zk6 env r acc:=by
 rw[zk6,h]
theorem zxm{env:Env}{ns:List (Str×NameKind)}{acc:List (Str×Addr)}(h:∀y∈ns,y.2=.free->∃b,env.cells.lookup y.1=some b) :
  (forIn ns acc λx (r:List (Str×Addr))=>if(x.2 == .free)=true then do let c ←cellOf env x.1;pure (.yield ((x.1,c)::r))else pure (.yield r):Sem _)=pure (zk6 env ns acc):=by
 induction ns generalizing acc with
 |nil=>rfl
 |cons y r ih=>
  have ih:=λacc=>ih (acc:=acc) λz hz=>h z (yn _ hz);rw[List.forIn_cons];cases hy:y.2 == .free with
  |false=>rw[zms hy];exact ih acc
  |true=>
   have hy':=eq_of_beq hy;refine zfc (h y yq hy') λb e=>?_;rw[zg9 hy' e];have ec:cellOf env y.1=pure b:=by unfold cellOf;rw[e]
   rw[if_pos rfl,ec];exact ih _
theorem zrt{env:Env}{x:Str}{b:Addr}(e:env.cells.lookup x=some b){ns:List (Str×NameKind)}{acc:List (Str×Addr)}(h:acc.lookup x=some b):(zk6 env ns acc).lookup x=some b:=by
 induction ns generalizing acc with
 |nil=>exact h
 |cons y r ih=>
  cases e0:y.2 == .free with
  |false=>rw[zms e0];exact ih h
  |true=>
   cases e1:env.cells.lookup y.1 with
   |none=>unfold zk6;rw[e0,e1];exact ih h
   |some c=>
    rw[zg9 (eq_of_beq e0) e1];refine ih ?_;rw[List.lookup_cons];cases q:x==y.1 with
    |false=>exact h
    |true=>rw[←eq_of_beq q,e]at e1;exact e1.symm
theorem ztM{env:Env}{x:Str}{b:Addr}(e:env.cells.lookup x=some b){ns:List (Str×NameKind)}(h:(x,NameKind.free)∈ns){acc:List (Str×Addr)}:(zk6 env ns acc).lookup x=some b:=by
 induction ns generalizing acc with
 |nil=>exact zcx h
 |cons y r ih=>
  rcases yz.mp h with q|q
  ·subst q
   rw[zg9 rfl e];exact zrt e (by rw[List.lookup_cons,beq_self_eq_true])
  ·unfold zk6;exact ih q
theorem zsN{env:Env}{x:Str}{ns:List (Str×NameKind)}(h:∀y∈ns,y.2=.free->y.1≠x){acc:List (Str×Addr)}(h0:acc.lookup x=none):(zk6 env ns acc).lookup x=none:=by
 induction ns generalizing acc with
 |nil=>exact h0
 |cons y r ih=>
  have ih:=λacc=>ih (λz hz=>h z (yn _ hz)) (acc:=acc);cases e0:y.2 == .free with
  |false=>rw[zms e0];exact ih _ h0
  |true=>
   cases e1:env.cells.lookup y.1 with
   |none=>unfold zk6;rw[e0,e1];exact ih _ h0
   |some c=>
    rw[zg9 (eq_of_beq e0) e1];refine ih _ ?_;rw[List.lookup_cons,show(x==y.1)=false from beq_false_of_ne (Ne.symm (h y List.mem_cons_self (eq_of_beq e0)))];exact h0
noncomputable def zjt(sh:zak)(scope:Scope)(K:Str)(cs:List Str)(is:List Nat):Bool:=
 (decide (scope.kind=.function)&&decide (scope.names.lookup K=some .local)&&decide (K::cs).Nodup&&decide is.Nodup&&decide (is.length=cs.length)) &&
 (scope.names.all λy=>decide (y.2≠.cell)&&decide (y.2=.local->scope.names.lookup y.1=some .local)&&decide (y.2=.free->y.1∈sh.cells∧y.1≠K)) &&
 ((is.zip cs).all λp=>decide (sh.all[p.1]?=some p.2)&&decide (p.2∈sh.cells)&&decide ((p.2,NameKind.free)∈scope.names)&&decide ((znA scope sh.scope).names.lookup p.2=some .cell))
inductive zne(sh:zak)(scope:Scope)(K:Str)(cs:List Str)(is:List Nat):Prop
 |mk (qa:scope.kind=.function) (qb:scope.names.lookup K=some .local) (qc:(K::cs).Nodup) (qd:is.Nodup) (qe:is.length=cs.length)
  (qf:∀y∈scope.names,y.2≠.cell∧(y.2=.local->scope.names.lookup y.1=some .local)∧(y.2=.free->y.1∈sh.cells∧y.1≠K))
  (qg:∀p∈is.zip cs,(sh.all[p.1]?=some p.2∧p.2∈sh.cells)∧(p.2,NameKind.free)∈scope.names∧(znA scope sh.scope).names.lookup p.2=some .cell)
theorem zra{sh:zak}{scope:Scope}{K:Str}{cs:List Str}{is:List Nat}(h:zjt sh scope K cs is=true):zne sh scope K cs is:=by
 unfold zjt at h;simp only[Bool.and_eq_true,decide_eq_true_eq,List.all_eq_true]at h;left;obtain⟨⟨⟨⟨⟨⟨h1,h2⟩,h3⟩,h4⟩,h5⟩,h6⟩,h7⟩:=h;exact⟨h1,h2,h3,h4,h5,λy hy=>⟨(h6 y hy).1.1,(h6 y hy).1.2,(h6 y hy).2⟩,λp hp=>⟨(h7 p hp).1.1,(h7 p hp).1.2,(h7 p hp).2⟩⟩
open Classical in
noncomputable def Act.comp(a:Act)(ow owc:Nat->Option Addr)(X:Addr->Prop)(scope:Scope)(h:Heap)(C:Addr):Act:=
 {a with env:=compEnvC scope (zk6 a.env scope.names []) C a.env,outer:=a.fr,L:=C,h₀:=⟨λb=>if b=C∨∃i,owc i=some b then none else h.get? b⟩,P:=λb=>a.P b∨b=a.L∨(X b∧b≠C)∨∃i,ow i=some b∧∀j,owc j≠some b}
noncomputable def owC(ow:Nat->Option Addr)(is:List Nat):Nat->Option Addr
 |0=>none
 |j+1=>(is[j]?).bind ow
theorem zg1{ow:Nat->Option Addr}{is:List Nat}{j:Nat}{b:Addr}(h:owC ow is j=some b):∃k i,j=k+1∧is[k]?=some i∧ow i=some b:=by
 left
 induction j with
 |zero=>exact zae h
 |succ k=>obtain⟨i,h1,h2⟩:=Option.bind_eq_some_iff.mp h;exact zlH k i rfl h1 h2
section
variable{S:St0}{sh:zak}{a:Act}{ow:Nat->Option Addr}{st:Sl}{s:Shared}{scope:Scope}{K:Str}{cs:List Str}{is:List Nat}{X:Addr->Prop}{C:Addr}
theorem zl0{h:Heap}{owc:Nat->Option Addr}{b:Addr}{o:Obj}(e:(a.comp ow owc X scope h C).h₀.get? b=some o):h.get? b=some o∧b≠C∧∀i,owc i≠some b:=by
 unfold Act.comp at e;dsimp only at e;by_cases n:b=C∨∃i,owc i=some b
 ·rw[if_pos n]at e;exact zae e
 ·rw[if_neg n]at e;exact⟨e,λz=>n (.inl z),λi z=>n (.inr ⟨i,z⟩)⟩
theorem zoI{h:Heap}{owc:Nat->Option Addr}{b:Addr}{o:Obj}(e:h.get? b=some o)(h1:b≠C)(h2:∀i,owc i≠some b):(a.comp ow owc X scope h C).h₀.get? b=some o:=by
 unfold Act.comp;dsimp only;rw[if_neg (by rintro(z|⟨i,z⟩);exact h1 z;exact h2 i z)];exact e
theorem zos{h:Heap}{b:Addr}(hC:X C):Pv (a.comp ow (owC ow is) X scope h C) noX (owC ow is) b↔Pv a X ow b:=by
 constructor
 ·rintro((q|q|q|⟨i,q,_⟩)|q|q|⟨j,q⟩)
  ·exact .inl q
  ·exact .inr (.inl q)
  ·exact .inr (.inr (.inl q.1))
  ·exact .inr (.inr (.inr ⟨i,q⟩))
  ·exact .inr (.inr (.inl (by rw[show b=C from q];exact hC)))
  ·exact q.elim
  ·left
   obtain⟨_,i,_,_,e⟩:=zg1 q;exact .inr (.inr (.inr ⟨i,e⟩))
 ·rintro(q|q|q|⟨i,q⟩)
  ·exact .inl (.inl q)
  ·exact .inl (.inr (.inl q))
  ·by_cases z:b=C
   ·exact .inr (.inl z)
   ·exact .inl (.inr (.inr (.inl ⟨q,z⟩)))
  ·by_cases z:∃j,owC ow is j=some b
   ·exact .inr (.inr (.inr z))
   ·exact .inl (.inr (.inr (.inr ⟨i,q,λj e=>z ⟨j,e⟩⟩)))
theorem zso(f:a.Fits S sh)(hcalm:sh.calm=true)(R:Rel S sh a X ow st s)(O:zne sh scope K cs is)(hC:X C)(hCL:C≠a.L)(hX:∀b,X b->(s.heap.get? b).isSome=true∧a.h₀.get? b=none) :
  (a.comp ow (owC ow is) X scope s.heap C).Fits S (sh.comp scope K cs):=by
 obtain⟨oa,ob,oc,od,oe,of,og⟩:=O;have hC0:=(hX C hC).2;have hrel:relabel scope a.env=znA scope sh.scope:=by rw[←f.scope];rfl
 have there:∀{b},(s.heap.get? b).isSome=true->b≠C->(∀i,ow i≠some b)->((a.comp ow (owC ow is) X scope s.heap C).h₀.get? b).isSome=true:=λ{b} h n m=>by
  refine zfc (yL.mp h) λo ho=>?_;rw[zoI ho n λj z=>by obtain⟨_,i,_,_,e⟩:=zg1 z;exact m i e];rfl
 have hL:((a.comp ow (owC ow is) X scope s.heap C).h₀.get? a.L).isSome=true:=by
  left;obtain⟨m,⟨o,_,_,ho,_⟩,_⟩:=R.slots;exact there (ya _ ho) (Ne.symm hCL) λi z=>(R.own i _ z).2.2.2 rfl
 have old:∀{b},(a.h₀.get? b).isSome=true->((a.comp ow (owC ow is) X scope s.heap C).h₀.get? b).isSome=true:=λ{b} h=>by
  refine zfc (yL.mp h) λo ho=>?_;exact there (R.keep.there ho) (λz=>by rw[z,hC0]at ho;exact zae ho) λi z=>by rw[(R.own i b z).2.1]at ho;exact zae ho
 have zs:∀{x},x∈cs->∃p∈is.zip cs,p.2=x:=λ{x} hx=>by
  refine zfc (List.getElem?_of_mem hx) λj hj=>?_;have hlt:j<is.length:=oe▸(yp.mp hj).1;exact zbB (is[j],x) (yy (i:=j) (by rw[List.getElem?_zip_eq_some];exact⟨yu hlt,hj⟩)) rfl
 exact{
  scope:=hrel,kind:=oa
  loc:=λx hx=>by
   rw[List.mem_singleton.mp hx];show(znA scope sh.scope).names.lookup K=some .local;exact hrel.symm▸(lookup_relabel_local ob)
  nodup:=oc
  cellk:=λx hx=>by obtain⟨p,hp,rfl⟩:=zs hx;exact(og p hp).2.2
  celld:=λx hx=>by
   obtain⟨p,hp,rfl⟩:=zs hx;refine zfc (f.celld p.2 (og p hp).1.2) λc hc=>?_;exact⟨c,ztM hc (og p hp).2.1⟩
  nocell:=λx hx=>by
   rw[List.mem_singleton.mp hx];exact zsN (λy hy hf=>((of y hy).2.2 hf).2) rfl
  glob:=f.glob,blt:=f.blt,locals:=rfl,fronts:=f.fronts
  LFsub:=λb hb=>yn _ (yn _ hb)
  outs:=λe he=>he
  FP:=λb hb=>by
   rcases yz.mp hb with q|q
   ·exact .inl (q▸f.tabP)
   ·rcases yz.mp (f.LFsub b q)with q|q
    ·exact .inr (.inl q)
    ·exact .inl (f.FP b q)
  nobase:=by
   show S.base.get? C=none;cases q:S.base.get? C with
   |none=>rfl
   |some o=>have:=f.stays _ _ q;exact zae (hC0.symm.trans this)
  noh₀:=by
   cases q:(a.comp ow (owC ow is) X scope s.heap C).h₀.get? C with
   |none=>exact q
   |some o=>exact absurd rfl (zl0 q).2.1
  stays:=λb o e=>zoI (R.stays f b o e) (λz=>by have:=f.stays b o e;rw[z,hC0]at this;exact zae this) λj z=>by
   refine zfB (zg1 z) λ_ i _ _ e'=>?_;have:=f.stays b o e;rw[(R.own i b e').2.1]at this;exact zae this
  depth:=f.depth,units:=f.units,guards:=f.guards,hand:=f.hand,calm:=λ_=>f.calm hcalm
  Pdom:=λb q=>by
   rcases q with q|q|q|⟨i,q,m⟩
   ·exact old (f.Pdom b q)
   ·exact q▸hL
   ·exact there (hX b q.1).1 q.2 λi z=>(R.own i b z).2.2.1 q.1
   ·cases z:(a.comp ow (owC ow is) X scope s.heap C).h₀.get? b with
    |some o=>rfl
    |none=>
     obtain⟨o,ho⟩:=yL.mp (R.own_there q);rw[zoI ho (λe=>(R.own i b q).2.2.1 (e▸hC)) m]at z;exact zgL z
  outer:=λb hb=>by
   rcases yz.mp hb with q|q
   ·exact old (f.outer b (q▸yq))
   ·rcases yz.mp (f.LFsub b q)with q|q
    ·exact q▸hL
    ·exact old (f.outer b q)
  tab:=f.tab,tabP:=.inl f.tabP,tabB:=f.tabB,code:=λh=>zaF h,codeA:=λ_=>f.codeA hcalm}
theorem zvf(f:a.Fits S sh)(hcalm:sh.calm=true)(R:Rel S sh a X ow st s)(O:zne sh scope K cs is)(hC:X C){m:Str->Option Value}{v:Value}{d:D}(hn:s.heap.Ns C m)(hm:m K=some v)(hv:zcN S s.heap (Pv a X ow) v d){cl:Sl}(hcl:cl.length=is.length)(hst:∀(j i:Nat),is[j]?=some i->∃o,st[i]?=some (Slot.cel o)∧cl[j]?=some (Slot.cel o)) :
  Rel S (sh.comp scope K cs) (a.comp ow (owC ow is) X scope s.heap C) noX (owC ow is) (.val d::cl) s:=by
 left;obtain⟨oa,ob,oc,od,oe,of,og⟩:=O;have GO:zeY S s.heap s.heap (Pv a X ow) (Pv (a.comp ow (owC ow is) X scope s.heap C) noX (owC ow is)):=.less λb _ q=>(zos hC).mp q;refine zcM R.slots λm0a hn0 hl0 hs0=>?_;refine⟨⟨m,hn,?_,λj x sl hj hsl=>?_⟩,.of_keeps λb o e=>(zl0 e).1,R.frames,λj b h=>?_,λj j' b h1 h2=>?_,R.gens,R.os,λw hw=>?_,R.tab⟩
 ·show cl.length+1=cs.length+1
  rw[hcl,oe]
 ·left
  cases j with
  |zero=>
   obtain rfl:=yj hj;obtain rfl:=yj hsl;refine⟨rfl,v,?_,hv.goes GO⟩;show(match (zk6 a.env scope.names []).lookup K with|some c=>some (Value.ref c)|none=>m K)=some v;rw[zsN (λy hy hf=>((of y hy).2.2 hf).2) rfl];exact hm
  |succ j=>
   have hj:cs[j]?=some x:=hj;have hlt:j<is.length:=oe▸(yp.mp hj).1;have hi:=yu hlt;refine zaO (hst j is[j] hi) λo h1 h2=>?_;have hsl:cl[j]?=some sl:=hsl;rw[h2]at hsl;obtain rfl:=yj hsl;obtain⟨⟨g1,g2⟩,g3,_⟩:=og (is[j],x) (yy (i:=j) (by rw[List.getElem?_zip_eq_some];exact⟨hi,hj⟩));obtain⟨c,hc⟩:=f.celld x g2;obtain⟨b,ob',w,k1,k2,k3,k4,k5⟩:=hs0 _ x _ g1 h1;have k2:(match a.env.cells.lookup x with|some c=>some (Value.ref c)|none=>m0a x)=some (.ref b):=k2;rw[hc]at k2;cases k2;refine⟨c,ob',w,?_,?_,k3,k4,k5.goes GO⟩
   ·show(is[j]?).bind ow=some c
    exact hi▸k1
   ·show(match (zk6 a.env scope.names []).lookup x with|some c=>some (Value.ref c)|none=>m x)=some (.ref c)
    rw[ztM hc g3]
 ·refine zfB (zg1 h) λk i hzz h1 h2=>?_
  subst hzz;refine⟨?_,?_,λq=>q,?_⟩
  ·show k+1<cs.length+1
   exact oe.symm▸(Nat.succ_lt_succ (yp.mp h1).1)
  ·cases z:(a.comp ow (owC ow is) X scope s.heap C).h₀.get? b with
   |none=>rfl
   |some o=>exact absurd h ((zl0 z).2.2 _)
  ·exact λe=>(R.own i b h2).2.2.1 (by rw[show b=C from e];exact hC)
 ·refine zfB (zg1 h1) λk i hzz g1 g2=>?_
  subst hzz;refine zfB (zg1 h2) λk' i' hzz g1' g2'=>?_;subst hzz;have e:=R.inj i i' b g2 g2';subst e;obtain⟨l1,e1⟩:=yp.mp g1;obtain⟨l2,e2⟩:=yp.mp g1';rw[(List.getElem_inj od).mp (e1.trans e2.symm)]
 ·have:w∈a.hands:=hw
  rw[(f.calm hcalm).2]at this;exact zcx this
end
@[reducible]noncomputable def noE:Err->Sl->Prop:=λ_ _=>False
theorem zs9{S:St0}{a:Act}{st:Sl}{s s':Shared}{ev:Value}(h:zfA S a st s noE ev s'):False:=by
 obtain⟨_,_,h,_,_⟩:=h;exact h
noncomputable def Res.nb:Res->Option D
 |.pl d=>some d
 |.fr ds=>some (.lst ds)
 |.bo _ _=>none
@[reducible]noncomputable def zya(st:Sl):List Nat->(Sl->Prop)->Prop
 |[],Q=>Q []
 |i::is,Q=>zAg st i (zya st is λl=>oM st[i]? λx=>Q (x::l))
theorem znL{st:Sl}:∀{is:List Nat}{Q:Sl->Prop},zya st is Q->∃cl,Q cl∧cl.length=is.length∧∀(j i:Nat),is[j]?=some i->∃o,st[i]?=some (Slot.cel o)∧cl[j]?=some (Slot.cel o)
 |[],Q,h=>(zga ([]) h rfl (λj i e=>nomatch e))
 |i::is,Q,h=>by
  left;obtain⟨⟨o,e⟩,h⟩:=zpw h;refine zcM (znL h) λl h h1 h2=>?_;refine zaO (oM_inv h) λx e' h=>?_;rw[e]at e';obtain rfl:=yj e';refine zga _ h (ya (· + 1) h1) (λj k q=>?_)
  induction j with
  |zero=>obtain rfl:=yj q;exact zbB o e rfl
  |succ j=>exact h2 j k q
noncomputable def zww(S:St0)(sh:zak)(ifs:List Expr)(c:PT):Prop:=
 ∀(a:Act)(ow:Nat->Option Addr)(st:Sl)(s:Shared)(Q:Bool->Sl->Prop)(X:Err->Sl->Prop),a.Fits S sh->Rel S sh a noX ow st s->c Q X st ->
  wpAny (model S.prog S.w) a.A (forIn ifs true λc r=>if r=true then do let ok ←isTrue c a.env (eval c a.env);pure (ForInStep.yield ok)else pure (ForInStep.yield r)) (λb s'=>∃st',Q b st'∧Step a st st' s s') (zfA S a st s X) s
@[reducible]noncomputable def zxT:PT:=λQ _ st=>Q true st
theorem zxV{S:St0}{sh:zak}:zww S sh [] zxT:=λa ow st s Q X f R q=>yo ⟨st,q,.refl ..⟩
theorem zxr{S:St0}{sh:zak}{e:Expr}{c:PT}(H:zdg S sh e c):zww S sh [e] c:=λa ow st s Q X f R q=>by
 rw[List.forIn_cons];refine yl ?_;refine zer rfl ?_;refine yl (yt (H a ow st s Q X f R q) (λb s' h=>?_) λ_ _ x=>x);exact yo (yo h)
@[reducible]noncomputable def ziV(t:PT)(b:PE)(cl:Sl):List D->List D->(List D->Prop)->Prop
 |[],acc,Q=>Q acc
 |d::ds,acc,Q=>t (λc st'=>ifB c (b (λr _=>oM r.nb λe=>ziV t b cl ds (acc++[e]) Q) noE st') (ziV t b cl ds acc Q)) noE (.val d::cl)
@[reducible]noncomputable def zhW(c:PE)(is:List Nat)(t:PT)(b:PE):PE:=λQ X st=>c (λr st₁=>oM (zyI r.d) λds=>ds.length≤1000000∧zya (r.seal st₁) is λcl=>ziV t b cl ds [] λes=>Q (.fr es) (r.seal st₁)) X st
section
variable{S:St0}{sh:zak}{a:Act}{ow:Nat->Option Addr}{st:Sl}{s:Shared}{scope:Scope}{K:Str}{cs:List Str}{is:List Nat}{X:Addr->Prop}{C:Addr}
theorem zeY.but{h h':Heap}{G P P':Addr->Prop}(k:∀b o,¬G b->h.get? b=some o->h'.get? b=some o)(hP:∀b,G b->P b)(hb:∀b,G b->S.base.get? b=none)
  (hn:∀b o,G b->h.get? b=some o->(∀vs n,o.cls=.type "tuple"->o.data≠.seq vs n)∧(∀vs,o.data≠.fields vs)∧∀fd,o.data≠.func fd)(p:∀b,(h.get? b).isSome=true->P' b->P b):zeY S h h' P P':=
 ⟨λb o e n=>k b o (λg=>n (hP b g)) e,λb o e1 e2=>k b o (λg=>by rw[hb b g]at e1;exact zae e1) e2,λb o vs n e c d=>(zga o (k b o (λg=>(hn b o g e).1 vs n c d) e) rfl rfl),p,λb o e c=>⟨o,k b o (λg=>by
  rcases c with⟨_,vs,c⟩|⟨fd,c⟩
  ·exact(hn b o g e).2.1 vs c
  ·exact(hn b o g e).2.2 fd c) e,rfl,rfl⟩⟩
theorem zxF{o:Obj}{es ep}(h:o.data=.dict es ep):(∀vs n,o.cls=.type "tuple"->o.data≠.seq vs n)∧(∀vs,o.data≠.fields vs)∧∀fd,o.data≠.func fd:=
 ⟨λ_ _ _ z=>(by cases h.symm.trans z),λ_ z=>(by cases h.symm.trans z),λ_ z=>by rw[h]at z;cases z⟩
theorem zzz{o:Obj}{ws k}(hc:o.cls=.type "list")(h:o.data=.seq ws k):(∀vs n,o.cls=.type "tuple"->o.data≠.seq vs n)∧(∀vs,o.data≠.fields vs)∧∀fd,o.data≠.func fd:=
 ⟨λ_ _ z=>(by rw[hc]at z;simp at z),λ_ z=>(by cases h.symm.trans z),λ_ z=>by cases h.symm.trans z⟩
theorem zdU.but{F:List Addr}{h1 h h':Heap}{G P P':Addr->Prop}(k:zdU F h1 h)(n:∀b,G b->h1.get? b=none)(c:∀b o,¬G b->h.get? b=some o->h'.get? b=some o)(g:zeY S h h' P P'):zdU F h1 h':=λb o e=>by
 have nb:¬G b:=λz=>by rw[n b z]at e;exact zae e
 left;obtain⟨x1,o',x2,s⟩:=k b o e;exact⟨λhb=>c b o nb (x1 hb),o',c b o' nb x2,s.same λ_ q=>g.codeQ q⟩
theorem ztl{A:Around}{P:Addr->Prop}{I:Addr}{ds:List D}(x:zko S s.heap P I ds){Q:Value->Shared->Prop}{E:Value->Shared->Prop}(q:Q (.ref I) s):wpAny (model S.prog S.w) A (pyIter (.ref I)) Q E s:=by
 left
 induction x with
 |list h _ _ _=>exact wpAny_pyIter_listiter h q
 |tup h _ _=>exact wpAny_pyIter_tupleiter h q
 |ascii h _=>exact wpAny_pyIter_striter_ascii h q
 |wide h _=>exact wpAny_pyIter_striter_wide h q
 |range h _=>exact wpAny_pyIter_rangeiter h q
theorem znI{st0 st':Sl}(h0:∀j b,owC ow is j=some b->∃o,st0[j]?=some (Slot.cel o))(F:Frz st0 st'):restr (owC ow is) st'=owC ow is∧∀j b,owC ow is j=some b->∃o,st'[j]?=some (Slot.cel o):=by
 have h1:∀j b,owC ow is j=some b->∃o,st'[j]?=some (Slot.cel o):=λj b e=>by
  refine zfc (h0 j b e) λo ho=>?_;refine⟨o,?_⟩;rcases F.2 j with p|⟨_,p,_⟩
  ·exact p.trans ho
  ·exact nomatch (ho.symm.trans p)
 refine⟨funext λj=>?_,h1⟩;unfold restr;cases e:owC ow is j with
 |none=>rcases st'[j]? with _|(_|_|_|_)<;>rfl
 |some b=>obtain⟨o,ho⟩:=h1 j b e;rw[ho]
inductive zus(S:St0)(a:Act)(ow:Nat->Option Addr)(X:Addr->Prop)(I L C:Addr)(s₁ s:Shared)(es:List D):Prop
 |mk (qa:zdU (a.L::a.F) s₁.heap s.heap) (qb:s.gens=s₁.gens) (qc:s.os=s₁.os) (ys:Array Value) (qd:s.heap.PlainList L ys) (qe:zaN S s.heap (Pv a X ow) ys.toList es) (m:Str->Option Value) (qf:s.heap.Ns C m)
theorem zaN.snoc{h:Heap}{P:Addr->Prop}{vs:List Value}{ds:List D}{v:Value}{d:D}(x:zaN S h P vs ds)(y:zcN S h P v d):zaN S h P (vs++[v]) (ds++[d]):=(zaN.cons y .nil).append x
structure zmE(S:St0)(sh:zak)(a:Act)(ow:Nat->Option Addr)(st:Sl)(scope:Scope)(K:Str)(cs:List Str)(is:List Nat)(cl:Sl)(I L C:Addr)(s₁:Shared):Prop where
 f:a.Fits S sh
 calm:sh.calm=true
 O:zne sh scope K cs is
 R:Rel S sh a noX ow st s₁
 clen:cl.length=is.length
 cels:∀(j i:Nat),is[j]?=some i->∃o,st[i]?=some (Slot.cel o)∧cl[j]?=some (Slot.cel o)
 nI:s₁.heap.get? I=none
 nL:s₁.heap.get? L=none
 nC:s₁.heap.get? C=none
 IL:I≠L
 IC:I≠C
 LC:L≠C
@[reducible]noncomputable def X3(I L C:Addr):Addr->Prop:=λb=>b=I∨b=L∨b=C
section
variable{cl:Sl}{I L:Addr}{s₁:Shared}
theorem zmE.new(V:zmE S sh a ow st scope K cs is cl I L C s₁){b:Addr}(h:X3 I L C b):s₁.heap.get? b=none:=by
 rcases h with h|h|h
 ·rw[h];exact V.nI
 ·rw[h];exact V.nL
 ·rw[h];exact V.nC
theorem zmE.base(V:zmE S sh a ow st scope K cs is cl I L C s₁){b:Addr}(h:X3 I L C b):S.base.get? b=none:=by
 cases q:S.base.get? b with
 |none=>rfl
 |some o=>have:=V.R.stays V.f b o q;rw[V.new h]at this;exact zae this
theorem zmE.notF(V:zmE S sh a ow st scope K cs is cl I L C s₁){b:Addr}(h:X3 I L C b):b∉a.L::a.F:=λq=>by
 have n:=V.new h;rcases yz.mp q with q|q
 ·obtain⟨m,⟨o,_,_,ho,_⟩,_⟩:=V.R.slots
  rw[q,ho]at n;exact zae n.symm
 ·obtain⟨o,ho⟩:=yL.mp (V.f.outer b q)
  have:=V.R.keep.there ho;rw[n]at this;exact zaF this
theorem zmE.rel(V:zmE S sh a ow st scope K cs is cl I L C s₁){s:Shared}(k:zdU (a.L::a.F) s₁.heap s.heap)(hg:s.gens=s₁.gens)(ho:s.os=s₁.os):Rel S sh a (X3 I L C) ow st s:=by
 have:=V.R.stepX V.f (st':=st) ⟨.refl _,k,hg,ho⟩ (X':=X3 I L C) λb hb q=>by rw[V.new q]at hb;exact zaF hb
 rwa[zdr V.R]at this
theorem zmE.goesC(V:zmE S sh a ow st scope K cs is cl I L C s₁){h h':Heap}{m:Str->Option Value}(hn:h.Ns C m)(hs:Heap.SameBut C h h'){P':Addr->Prop}(p:∀b,(h.get? b).isSome=true->P' b->Pv a (X3 I L C) ow b):zeY S h h' (Pv a (X3 I L C) ow) P':=
 .but (G:=λb=>b=C) (λb o n e=>(hs.2 b n).trans e) (λb e=>.inr (.inr (.inl (.inr (.inr e))))) (λb e=>V.base (.inr (.inr e))) (λb o q e=>by
  refine zrm hn λo' es ep h1 h2 _=>?_;rw[show b=C from q,h1]at e;obtain rfl:=yj e;exact zxF h2) p
theorem zmE.goesL(V:zmE S sh a ow st scope K cs is cl I L C s₁){h h':Heap}{ys:Array Value}(hn:h.PlainList L ys)(hs:Heap.SameBut L h h'):zeY S h h' (Pv a (X3 I L C) ow) (Pv a (X3 I L C) ow):=
 .but (G:=λb=>b=L) (λb o n e=>(hs.2 b n).trans e) (λb e=>.inr (.inr (.inl (.inr (.inl e))))) (λb e=>V.base (.inr (.inl e))) (λb o q e=>by
  refine zfc hn λn h1=>?_;rw[show b=L from q,h1]at e;obtain rfl:=yj e;exact zzz rfl rfl) λ_ _ q=>q
theorem znM(V:zmE S sh a ow st scope K cs is cl I L C s₁){s₂ s s':Shared}{owc:Nat->Option Addr}{st₁ st₂:Sl}(F:(a.comp ow (owC ow is) (X3 I L C) scope s₂.heap C).Fits S (sh.comp scope K cs))(R:Rel S (sh.comp scope K cs) (a.comp ow (owC ow is) (X3 I L C) scope s₂.heap C) noX owc st₁ s)(T:Step (a.comp ow (owC ow is) (X3 I L C) scope s₂.heap C) st₁ st₂ s s')
  {es ds:List D}(N:zus S a ow (X3 I L C) I L C s₁ s es)(it:zko S s.heap (Pv a (X3 I L C) ow) I ds):zus S a ow (X3 I L C) I L C s₁ s' es∧zko S s'.heap (Pv a (X3 I L C) ow) I ds:=by
 have sub:∀b∈C::(a.T::a.fr.filterMap (·.frame)),b∈C::a.L::a.F:=λb hb=>by
  rcases yz.mp hb with q|q
  ·exact q▸yq
  ·rcases yz.mp q with q|q
   ·exact q▸yn _ (yn _ yq)
   ·exact yn _ (V.f.LFsub b q)
 have ke:zdU (C::a.L::a.F) s.heap s'.heap:=T.keep.mono sub;have G:zeY S s.heap s'.heap (Pv a (X3 I L C) ow) (Pv a (X3 I L C) ow):=R.goes F T.keep (λ_ _ q=>q) λb hb=>by
  rcases yz.mp (sub b hb)with q|q
  ·exact .inr (.inr (.inl (.inr (.inr q))))
  ·exact V.f.inP b q
 have no:∀b,X3 I L C b->b≠C->b∉C::a.L::a.F:=λb h n q=>by
  rcases yz.mp q with q|q
  ·exact n q
  ·exact V.notF h q
 obtain⟨k,kg,ko,ys,hp,hv,m,hC⟩:=N;refine zfw it.there λoI w hI _=>?_;exact⟨⟨zb7.transL k ke V.nC,T.gens.trans kg,T.os.trans ko,ys,hp.at λo e=>(ke L o e).1 (no L (.inr (.inl rfl)) V.LC),hv.goes G,m,ke.ns hC⟩,it.goes G (((ke I oI hI).1 (no I (.inl rfl) V.IC)).trans hI.symm)⟩
theorem zqk(V:zmE S sh a ow st scope K cs is cl I L C s₁){s:Shared}{es ds:List D}(N:zus S a ow (X3 I L C) I L C s₁ s es)(it:zko S s.heap (Pv a (X3 I L C) ow) I ds):∀b,Pv a (X3 I L C) ow b->(s.heap.get? b).isSome=true:=λb q=>by
 obtain⟨k,kg,ko,ys,⟨n,hp⟩,hv,m,⟨oC,_,_,hC,_⟩⟩:=N;have R:=V.rel k kg ko;rcases q with q|q|(q|q|q)|⟨i,q⟩
 ·obtain⟨o,ho⟩:=yL.mp (V.f.Pdom b q);exact R.keep.there ho
 ·obtain⟨m,⟨o,_,_,h,_⟩,_⟩:=R.slots;exact q▸yL.mpr ⟨_,h⟩
 ·obtain⟨o,w,h,_⟩:=it.there;exact q▸yL.mpr ⟨_,h⟩
 ·exact q▸yL.mpr ⟨_,hp⟩
 ·exact q▸yL.mpr ⟨_,hC⟩
 ·exact R.own_there q
theorem zu7(V:zmE S sh a ow st scope K cs is cl I L C s₁){h:Heap}{hs h':Heap}{owc:Nat->Option Addr}(ho:owc=owC ow is){st₁:Sl}{v:Value}{r:Res}{e:D}(he:r.nb=some e)(hr:zhS S (a.comp ow (owC ow is) (X3 I L C) scope h C) owc st₁ hs h' v r)
  (hP:∀b,Pv a (X3 I L C) ow b->(hs.get? b).isSome=true):zcN S h' (Pv a (X3 I L C) ow) v e:=by
 subst ho
 induction r with
 |pl d=>obtain rfl:=yj he;exact hr.1.goes (.less λb _ q=>(zos (.inr (.inr rfl))).mpr q)
 |fr ds=>
  obtain rfl:=yj he;obtain⟨b,o,vs,n,rfl,h0,h1,h2,h3,h4,_⟩:=hr;exact .lst h1 (λq=>by have:=hP b q;rw[h0]at this;exact zaF this) h2 h3 (h4.goes (.less λc _ q=>((zos (.inr (.inr rfl))).mpr q).noX_le))
 |bo i ds=>exact zae he
noncomputable def zoX(J:List D->Nat->Prop)(S:St0)(sh:zak)(e:Expr)(c:PE):Prop:=
 ∀(a:Act)(ow:Nat->Option Addr)(st:Sl)(s:Shared)(Q:Res->Sl->Prop)(X:Err->Sl->Prop)(es:List D),J es s.toks->a.Fits S sh->Rel S sh a noX ow st s->c Q X st ->
  wpAny (model S.prog S.w) a.A (eval e a.env) (λv s'=>OkE S a ow st s (λr st'=>Q r st'∧∀e,r.nb=some e->J (es++[e]) s'.toks) v s') (zfA S a st s X) s
theorem zau.j{S:St0}{sh:zak}{e:Expr}{c:PE}(H:zau S sh e c):zoX (λ_ _=>True) S sh e c:=λa ow st s Q X _ _ f R q=>
 yt (H a ow st s Q X f R q) (λv s' h=>by
  obtain⟨r,st',h1,h2,h3⟩:=h;exact⟨r,st',⟨h1,λ_ _=>trivial⟩,h2,h3⟩) λ_ _ x=>x
noncomputable def Grows(J:List D->Nat->Prop):Prop:=∀es k k',k≤k'->J es k->J es k'
theorem ztk{J:List D->Nat->Prop}(Jm:Grows J)(V:zmE S sh a ow st scope K cs is cl I L C s₁){elt iter:Expr}{ifs:List Expr}{px pos:Pos}{t:PT}{b:PE}{Q:List D->Prop}{RR:Result->Shared->Prop}(Ht:zww S (sh.comp scope K cs) ifs t)(Hb:zoX J S (sh.comp scope K cs) elt b)
  (hR:∀s' es,zus S a ow (X3 I L C) I L C s₁ s' es->J es s'.toks->Q es->RR (.ok .next) s'){s:Shared}{ds:List D}(hlen:ds.length≤1000000)(q:ziV t b cl ds [] Q)(h0:zus S a ow (X3 I L C) I L C s₁ s [])(j0:J [] s.toks)(it0:zko S s.heap (Pv a (X3 I L C) ow) I ds) :
  codeAny (model S.prog S.w) a.A (.compLoop (.ListComp elt [⟨.Name K px,iter,ifs,0⟩] scope pos) 0 (.ref I) (.ref L) (compEnvC scope (zk6 a.env scope.names []) C a.env)) RR s:=by
 have f:=V.f;have O:=V.O;have hh:=(f.calm V.calm).1;obtain⟨oa,ob,oc,od,oe,of,og⟩:=id O;have hI0:a.h₀.get? I=none:=V.R.keep.new V.nI;have hCL:C≠a.L:=λz=>V.notF (.inr (.inr rfl)) (z▸yq);refine codeAny_compLoop_tests (λn s=>∃rest es,rest.length=n∧ziV t b cl rest es Q∧es.length+n≤1000000∧J es s.toks∧zus S a ow (X3 I L C) I L C s₁ s es∧zko S s.heap (Pv a (X3 I L C) ow) I rest) (λn s hI=>?_) ds.length ⟨ds,[],rfl,q,by rw[List.length_nil,Nat.zero_add];exact hlen,j0,h0,it0⟩;left;obtain⟨rest,es,rfl,q,hle,hJ,⟨k,kg,ko,ys,hp,hv,m,hC⟩,it⟩:=hI;have R:=V.rel k kg ko
 induction rest with
 |nil=>exact wpAny_with_toks (yr _) (zps f hh (.inl rfl) R hI0 it λs' R' G hb hn=>hR s' es ⟨k.but (G:=λb=>b=I) (λb e=>e▸V.nI) hb G,R'.gens.trans V.R.gens.symm,R'.os.trans V.R.os.symm,ys,hp.at λo e=>hb L o (Ne.symm V.IL) e,hv.goes G,m,hC.at' λo e=>hb C o (Ne.symm V.IC) e⟩ (Jm _ _ _ hn hJ) q)
 |cons d rest=>
  refine wpAny_with_toks (yr _) (zni f (.inl rfl) R hI0 it λs₂ v R2 G2 hb2 hv2 it₂ hn2=>?_);have k₂:=k.but (G:=λb=>b=I) (λb e=>e▸V.nI) hb2 G2;have hC2:=hC.at' λo e=>hb2 C o (Ne.symm V.IC) e;have hp2:=hp.at λo e=>hb2 L o (Ne.symm V.IL) e;have kg2:=R2.gens.trans V.R.gens.symm;have ko2:=R2.os.trans V.R.os.symm;refine wpAny_assign_Name (wpAny_storeName_local (env:=compEnvC scope (zk6 a.env scope.names []) C a.env) (lookup_relabel_local ob) hC2 (λh3 hn3 hs3=>?_) (by simp[compEnvC,relabel,oa]));have G3:=V.goesC hC2 hs3 λ_ _ q=>q;have k3:=k₂.but (G:=λb=>b=C) (λb e=>e▸V.nC) (λb o n e=>(hs3.2 b n).trans e) G3;have it3:=it₂.goes G3 (hs3.2 I V.IC);have hp3:h3.PlainList L ys:=hp2.at λo e=>(hs3.2 L V.LC).trans e;have N3:zus S a ow (X3 I L C) I L C s₁ {s₂ with heap:=h3,toks:=s₂.toks+1} es:=⟨k3,kg2,ko2,ys,hp3,(hv.goes G2).goes G3,_,hn3⟩;have R3:=V.rel (s:={s₂ with heap:=h3,toks:=s₂.toks+1}) k3 kg2 ko2;have hX:∀b,X3 I L C b->(h3.get? b).isSome=true∧a.h₀.get? b=none:=λb hb=>⟨by
   rcases hb with e|e|e
   ·obtain⟨o,w,h,_⟩:=it3.there;exact e▸yL.mpr ⟨_,h⟩
   ·obtain⟨n,h⟩:=hp3;exact e▸yL.mpr ⟨_,h⟩
   ·obtain⟨o,_,_,h,_⟩:=hn3;exact e▸yL.mpr ⟨_,h⟩,V.R.keep.new (V.new hb)⟩
  have F:=zso (s:={s₂ with heap:=h3,toks:=s₂.toks+1}) f V.calm R3 O (.inr (.inr rfl)) hCL hX;have R':=zvf (s:={s₂ with heap:=h3,toks:=s₂.toks+1}) f V.calm R3 O (.inr (.inr rfl)) hn3 (if_pos rfl) (hv2.goes G3) V.clen V.cels;have c0:∀j b,owC ow is j=some b->∃o,(Slot.val d::cl)[j]?=some (Slot.cel o):=λj b e=>by
   refine zfB (zg1 e) λk i hzz e1 _=>?_;subst hzz;refine zaO (V.cels k i e1) λo _ e2=>?_;exact⟨o,e2⟩
  have hJ:=Jm _ _ (s₂.toks+1) (xg hn2) hJ;refine yt (wpAny_toks (Ht _ _ _ _ _ _ F R' q)) (λc s4a h=>?_) λ_ _ x=>(zs9 x.2).elim;left;obtain⟨hn4,st',q,K4⟩:=h;have hJ:=Jm _ _ s4a.toks hn4 hJ;refine zb0 (znM V F R' K4 N3 it3) λN4 it4=>?_;have hle':es.length+rest.length≤1000000:=yk (yZ (yi _) _) hle
  induction c with
  |false=>exact⟨rest.length,yS _,rest,es,rfl,ziL q,hle',hJ,N4,it4⟩
  |true=>
   have R'4:=R'.step F K4;refine zb0 (znI c0 K4.frz) λe4 c4=>?_;refine yt (Hb _ _ _ _ _ _ es hJ F R'4 (ziG q)) (λx s5a h=>?_) λ_ _ x=>(zs9 x).elim;left;obtain⟨r,st'',⟨q,hj⟩,K5,hr⟩:=h;refine zaO (oM_inv q) λe he q=>?_;refine zb0 (znI c4 K5.frz) λe5 _=>?_;have there:∀b,Pv a (X3 I L C) ow b->(s4a.heap.get? b).isSome=true:=zqk V N4 it4;have hx:=zu7 V ((ya (λz=>restr z st'') e4).trans e5) he hr there;obtain⟨⟨k5,kg5,ko5,ys5,hp5,hv5,m5,hC5⟩,it5⟩:=znM V F R'4 K5 N4 it4;have hsz:ys5.size=es.length:=by rw[←hv5.length,Array.length_toList]
   refine wpAny_list_append_plain hp5 (λh6 hp6 hs6=>?_) (hsz▸yk (yR _ _) (yk hle (by decide)));have G6:=V.goesL hp5 hs6;refine⟨rest.length,yS _,rest,es++[e],rfl,q,?_,hj e he,⟨k5.but (G:=λb=>b=L) (λb e=>e▸V.nL) (λb o n e=>(hs6.2 b n).trans e) G6,kg5,ko5,_,hp6,?_,m5,hC5.at' λo e=>(hs6.2 C (Ne.symm V.LC)).trans e⟩,it5.goes G6 (hs6.2 I V.IL)⟩
   ·rw[List.length_append,List.length_singleton,Nat.add_assoc,Nat.add_comm 1];exact hle
   ·exact Array.toList_push.symm▸((hv5.goes G6).snoc (hx.goes G6))
end
theorem zAz(f:a.Fits S sh)(O:zne sh scope K cs is):closureFor scope a.env=pure (zk6 a.env scope.names []):=by
 obtain⟨_,_,_,_,_,of,_⟩:=O;have h:=zxm (env:=a.env) (acc:=[]) λy hy hf=>f.celld y.1 ((of y hy).2.2 hf).1;unfold closureFor;exact(ya (· >>= λr=>pure r) h).trans rfl
theorem znv{J:List D->Nat->Prop}{n₀:Nat}(hn0:n₀≤s.toks)(Jm:Grows J)(J0:∀k,n₀≤k->J [] k){elt iter:Expr}{ifs:List Expr}{px pos p0:Pos}{c:PE}{t:PT}{b:PE}{Q:Res->Sl->Prop}{X:Err->Sl->Prop}{use:Option (Value->Sem Unit)}{QQ:Value->Shared->Prop}(hcalm:sh.calm=true)(hO:zjt sh scope K cs is=true)(H:zau S sh iter c)(Ht:zww S (sh.comp scope K cs) ifs t)(Hb:zoX J S (sh.comp scope K cs) elt b)
  (hs:∀env x,foldedSetIterable iter env x=pure x)(f:a.Fits S sh)(R:Rel S sh a noX ow st s)(q:zhW c is t b Q X st)
  (hR:∀(r:Res)(st₁ cl:Sl)(I L C:Addr)(s₁ s':Shared)(es:List D),zmE S sh a (restr ow (r.seal st₁)) (r.seal st₁) scope K cs is cl I L C s₁->Step a st (r.seal st₁) s s₁->zus S a (restr ow (r.seal st₁)) (X3 I L C) I L C s₁ s' es->J es s'.toks->Q (.fr es) (r.seal st₁)->compPost (model S.prog S.w) a.A (zfA S a st s X) use QQ (.ref L) C (.ok .next) s') :
  wpAny (model S.prog S.w) a.A (comprehension (.ListComp elt [⟨.Name K px,iter,ifs,0⟩] scope pos) scope a.env p0 (newList []) false (eval iter a.env) use) QQ (zfA S a st s X) s:=by
 have O:=zra hO;left;obtain⟨oa,ob,oc,od,oe,of,og⟩:=id O;refine wpAny_comprehension_free (use:=use) rfl (hs a.env) (zAz f O) oa (λy hy=>(of y hy).2.1) (yt (wpAny_toks_of hn0 (H a ow st s _ X f R q)) (λv s₁ h=>?_) λ_ _ x=>x.2);clear oe;left;obtain⟨hn1,r,st₁,q,K1,hr⟩:=h;refine zcM (oM_inv q) λds e1 hlen q=>?_;refine zcM (znL q) λcl q hcl hce=>?_;refine zb0 (zgN f R K1 hr) λK' hv=>?_;have R1:=R.step f K';refine wpAny_with_toks hn1 (zkJ f R1 hv e1 λI s₂ hI T2 R2 it hn2=>?_);refine wpAny_newObj_type (wpAny_newFunctionEnv (λy hy=>(of y hy).1) (λy hy=>by simp at hy) (λh3 hn3 hs3=>?_) oa);have hsz:(s₂.heap.push {cls:=.type "list",data:=.seq ([]:List Value).toArray}).objs.size=s₂.heap.objs.size+1:=Heap.size_push ..;have old:∀b o,s₂.heap.get? b=some o->b≠s₂.heap.objs.size∧b≠(s₂.heap.push {cls:=.type "list",data:=.seq ([]:List Value).toArray}).objs.size∧h3.get? b=some o:=λb o e=>by
  have h1:=Heap.lt_size e;have h2:b≠(s₂.heap.push {cls:=.type "list",data:=.seq ([]:List Value).toArray}).objs.size:=by rw[hsz];exact Nat.ne_of_lt (Nat.lt_succ_of_lt h1)
  exact⟨Nat.ne_of_lt h1,h2,hs3.extBut b o h2 (yE _ (yE _ e))⟩
 left;refine zfw it.there λoI wI eI _=>?_;refine zn2 (old I oI eI) λi1 i2 i3=>?_;have hLC:s₂.heap.objs.size≠(s₂.heap.push {cls:=.type "list",data:=.seq ([]:List Value).toArray}).objs.size:=hsz▸(Nat.ne_of_lt (yS _));have V:zmE S sh a (restr ow (r.seal st₁)) (r.seal st₁) scope K cs is cl I s₂.heap.objs.size (s₂.heap.push {cls:=.type "list",data:=.seq ([]:List Value).toArray}).objs.size s₁:=
  ⟨f,hcalm,O,R1,hcl,hce,hI,T2.keep.new (yT (yr _)),T2.keep.new (yT (hsz▸(yi _))),i1,i2,hLC⟩
 have G3:zeY S s₂.heap h3 (Pv a (λb=>b=I) (restr ow (r.seal st₁))) (Pv a (X3 I s₂.heap.objs.size (s₂.heap.push {cls:=.type "list",data:=.seq ([]:List Value).toArray}).objs.size) (restr ow (r.seal st₁))):=
  .but (G:=λ_=>False) (λb o _ e=>(old b o e).2.2) (λ_ z=>z.elim) (λ_ z=>z.elim) (λ_ _ z=>z.elim) λb hb q=>by
   obtain⟨o,ho⟩:=yL.mp hb;rcases q with q|q|(q|q|q)|q
   ·exact .inl q
   ·exact .inr (.inl q)
   ·exact .inr (.inr (.inl q))
   ·exact absurd q (old b o ho).1
   ·exact absurd q (old b o ho).2.1
   ·exact .inr (.inr (.inr q))
 have it3:=it.goes G3 (i3.trans eI.symm);have N:zus S a (restr ow (r.seal st₁)) (X3 I s₂.heap.objs.size (s₂.heap.push {cls:=.type "list",data:=.seq ([]:List Value).toArray}).objs.size) I s₂.heap.objs.size (s₂.heap.push {cls:=.type "list",data:=.seq ([]:List Value).toArray}).objs.size s₁ {s₂ with heap:=h3,toks:=s₂.toks+([]:List (Str×Value)).length} []:=
  ⟨T2.keep.trans (.of_keeps λb o e=>(old b o e).2.2),T2.gens,T2.os,#[],⟨_,hs3.extBut _ _ hLC (yE _ (yI _ rfl))⟩,.nil,_,hn3⟩
 have loop:=ztk Jm V (px:=px) (pos:=pos) (iter:=iter) (RR:=compPost (model S.prog S.w) a.A (zfA S a st s X) use QQ (.ref s₂.heap.objs.size) (s₂.heap.push {cls:=.type "list",data:=.seq ([]:List Value).toArray}).objs.size) Ht Hb (λs' es N hJ q=>hR r st₁ cl _ _ _ s₁ s' es V K' N hJ q) hlen q N (J0 _ hn2) it3;exact codeAny_compStart_list loop (ztl it3 loop)
theorem zpy{J:List D->Nat->Prop}{n₀:Nat}(Jm:Grows J)(J0:∀k,n₀≤k->J [] k){elt iter:Expr}{ifs:List Expr}{px pos:Pos}{c:PE}{t:PT}{b:PE}(hcalm:sh.calm=true)(hO:zjt sh scope K cs is=true)(H:zau S sh iter c)(Ht:zww S (sh.comp scope K cs) ifs t)(Hb:zoX J S (sh.comp scope K cs) elt b)
  (hs:∀env x,foldedSetIterable iter env x=pure x){a:Act}{ow:Nat->Option Addr}{st:Sl}{s:Shared}{Q:Res->Sl->Prop}{X:Err->Sl->Prop}(hn0:n₀≤s.toks)(f:a.Fits S sh)(R:Rel S sh a noX ow st s)(q:zhW c is t b Q X st) :
  wpAny (model S.prog S.w) a.A (eval (.ListComp elt [⟨.Name K px,iter,ifs,0⟩] scope pos) a.env) (λv s'=>OkE S a ow st s (λr st₁=>Q r st₁∧∃es,r=.fr es∧J es s'.toks) v s') (zfA S a st s X) s:=by
 rw[eval_ListComp];refine znv hn0 Jm J0 (use:=none) hcalm hO H Ht Hb hs f R q λr st₁ cl I L C s₁ s' es V K' N hJ q=>?_;left;obtain⟨k,kg,ko,ys,⟨n,hp⟩,hv,m,hC⟩:=N;refine zbB m hC (λh' hs'=>⟨.fr es,r.seal st₁,⟨q,es,rfl,hJ⟩,K'.trans ⟨.refl _,k.but (G:=λb=>b=C) (λb e=>e▸V.nC) (λb o n e=>(hs'.2 b n).trans e) (V.goesC hC hs' λ_ _ q=>q),kg,ko⟩,L,_,ys,n,rfl,K'.keep.new V.nL,(hs'.2 _ V.LC).trans hp,rfl,rfl,hv.goes (V.goesC hC hs' λb _ q=>?_),rfl⟩);rcases q with q|q|q|q
 ·exact .inl q
 ·exact .inr (.inl q)
 ·exact .inr (.inr (.inl (.inr (.inl q))))
 ·exact .inr (.inr (.inr q))
theorem zu4{elt iter:Expr}{ifs:List Expr}{px pos:Pos}{c:PE}{t:PT}{b:PE}(hcalm:sh.calm=true)(hO:zjt sh scope K cs is=true)(H:zau S sh iter c)(Ht:zww S (sh.comp scope K cs) ifs t)(Hb:zau S (sh.comp scope K cs) elt b)
  (hs:∀env x,foldedSetIterable iter env x=pure x:=by intro _ _;rfl):zau S sh (.ListComp elt [⟨.Name K px,iter,ifs,0⟩] scope pos) (zhW c is t b):=λa ow st s Q X f R q=>
 yt (zpy (n₀:=0) (λ_ _ _ _ _=>trivial) (λ_ _=>trivial) hcalm hO H Ht Hb.j hs (yb _) f R q) (λv s' h=>by
  obtain⟨r,st',h1,h2,h3⟩:=h;exact⟨r,st',h1.1,h2,h3⟩) λ_ _ x=>x
theorem zz2{h h':Heap}{L:Addr}{m m':Str->Option Value}(x:h.Ns L m)(y:h'.Ns L m')(e:h'.get? L=h.get? L):m'=m:=by
 refine zuk x λo es ep x1 x2 _ x3=>?_;refine zuk y λo' es' ep' y1 y2 _ y3=>?_;rw[e,x1]at y1;obtain rfl:=yj y1;rw[x2]at y2;cases y2;exact funext λn=>(y3 n).symm.trans (x3 n)
theorem zqv{J:List D->Nat->Prop}{n₀:Nat}(Jm:Grows J)(J0:∀k,n₀≤k->J [] k){i:Nat}{x:Str}{p':Pos}{elt iter:Expr}{ifs:List Expr}{px pos spos:Pos}{c:PE}{t:PT}{b:PE}(hi:sh.names[i]?=some x)(hcalm:sh.calm=true)(hO:zjt sh scope K cs is=true)(H:zau S sh iter c)(Ht:zww S (sh.comp scope K cs) ifs t)(Hb:zoX J S (sh.comp scope K cs) elt b)
  (hs:∀env x,foldedSetIterable iter env x=pure x){a:Act}{ow:Nat->Option Addr}{st:Sl}{s:Shared}{Q:Fl->Sl->Prop}{X:Err->Sl->Prop}(hn0:n₀≤s.toks)(g:a.FitsS S sh)(R:Rel S sh a noX ow st s)(q:zao i (zhW c is t b) Q X st) :
  wpAny (model S.prog S.w) a.A (exec (.Assign [.Name x p'] (.ListComp elt [⟨.Name K px,iter,ifs,0⟩] scope pos) spos) a.env) (λfl s'=>OkS S sh a (λfl' st'=>Q fl' st'∧∃es st₁,fl'=.next∧st'=zuo i (.fr es) st₁∧J es s'.toks) fl s') (zlv S sh a X) s:=by
 have f:=g.f;have sw:∃bb,swapsWith (.ListComp elt [⟨.Name K px,iter,ifs,0⟩] scope pos) (some (.Name x p')) spos.line a.env=pure bb:=⟨_,rfl⟩;obtain⟨bb,sw⟩:=sw
 induction bb with
 |false=>
  refine wpAny_Assign_Name (yt (zpy Jm J0 hcalm hO H Ht Hb hs hn0 f R q) (λv s₁ h=>?_) λ_ _ x=>zdG f R x) sw;left;obtain⟨r,st₁,⟨h1,es,rfl,hJ⟩,h2,h3⟩:=h;exact wpAny_with_toks (yr _) (zlE f R h2 hi h3 λs' ow' R' hn=>⟨.next,ow',_,⟨h1,es,st₁,rfl,rfl,Jm _ _ _ hn hJ⟩,R',trivial⟩)
 |true=>
  rw[exec_Assign_Name_used _ _ _ _ sw];refine yl (yX (yl ?_));show wpAny _ a.A (do let _ ←comprehension (.ListComp elt [⟨.Name K px,iter,ifs,0⟩] scope pos) scope a.env _ (newList []) false (eval iter a.env) (some (assign (.Name x p') a.env))) _ _ s;refine yl (yt (znv hn0 Jm J0 (QQ:=λ_ s'=>OkS S sh a (λfl' st'=>Q fl' st'∧∃es st₁,fl'=.next∧st'=zuo i (.fr es) st₁∧J es s'.toks) .next s') hcalm hO H Ht Hb hs f R q λr st₁ cl I L C s₁ s' es V K' N hJ q=>?_) (λ_ s' hq=>yo (yo hq)) λ_ _ x=>zdG f R x);left;obtain⟨k,kg,ko,ys,⟨n,hp⟩,hv,m',hC⟩:=N;have R':=V.rel k kg ko;refine zaO R'.slots λm hn _=>?_;have hLC:C≠a.L:=λz=>V.notF (.inr (.inr rfl)) (z▸yq);have hLL:L≠a.L:=λz=>V.notF (.inr (.inl rfl)) (z▸yq);have hk:a.env.kindOf x=some .local:=by unfold Env.kindOf;exact f.scope▸(f.loc x (yy hi))
  refine wpAny_assign_Name (wpAny_storeName_local hk (f.locals▸hn) (λh4 hn4 hs4=>?_) (by rw[f.scope,f.kind];rfl));rw[f.locals]at hn4 hs4;refine zbB m' (hC.sameBut hs4 hLC) (λh5 hs5=>?_);have hn5:=hn4.sameBut hs5 (Ne.symm hLC);left;refine zuk (id hn) λoL es0 ep0 e1 e2 e3 e4=>?_;have hfr:oL.isFreed=false:=(Heap.get?_some_iff.mp e1).2;refine zBq (id hn5) λo5 _ _ e5 _=>?_;have us:(h5.update a.L λ_=>oL).get? a.L=some oL:=xi _ e5 hfr;have un:∀b,b≠a.L->(h5.update a.L λ_=>oL).get? b=h5.get? b:=λb hb=>xj _ _ (Ne.symm hb);have sC:Heap.SameBut C s'.heap (h5.update a.L λ_=>oL):=⟨(Heap.size_after_update ..).trans (hs5.1.trans hs4.1),λb hb=>by
   by_cases z:b=a.L
   ·rw[z,us,e1]
   ·rw[un b z,hs5.2 b hb,hs4.2 b z]⟩
  have sL:Heap.SameBut a.L (h5.update a.L λ_=>oL) h5:=⟨(Heap.size_after_update ..).symm,λb hb=>(un b hb).symm⟩;have G:=V.goesC hC sC (P':=Pv a (X3 I L C) (restr ow (r.seal st₁))) λ_ _ q=>q;have Rv:=V.rel (s:={s' with heap:=h5.update a.L λ_=>oL}) (k.but (G:=λb=>b=C) (λb e=>e▸V.nC) (λb o n e=>(sC.2 b n).trans e) G) kg ko;refine zaO Rv.slots λmv hnv hLv=>?_;have em:=zz2 hn hnv (us.trans e1.symm);rw[em]at hnv hLv;have hvv:=hv.goes G;have hno:∀j,restr ow (r.seal st₁) j≠some L:=λj q=>(Rv.own j L q).2.2.1 (.inr (.inl rfl));have hle:∀b,Pv a noX (λj=>if j=i then some L else restr ow (r.seal st₁) j) b->Pv a (X3 I L C) (restr ow (r.seal st₁)) b:=λb q=>by
   rcases q with q|q|q|⟨j,q⟩
   ·exact .inl q
   ·exact .inr (.inl q)
   ·exact q.elim
   ·by_cases e:j=i
    ·simp[e]at q;exact .inr (.inr (.inl (.inr (.inl q.symm))))
    ·simp[e]at q;exact .inr (.inr (.inr ⟨j,q⟩))
  refine⟨.next,_,_,⟨q,es,_,rfl,rfl,Jm _ _ _ (by first|exact yr _|exact yi _) hJ⟩,Rel.setH f Rv (X':=noX) (ow':=λj=>if j=i then some L else restr ow (r.seal st₁) j) (sl:=.own es) hnv hLv hi (λj hj=>if_neg hj) (λb _ q=>hle b q) hn5 sL (λh' G' hsb=>⟨L,_,ys,n,if_pos rfl,rfl,(hsb.2 L hLL).trans ((sC.2 L V.LC).trans hp),rfl,rfl,hvv.goes G',rfl⟩) (λb e=>?_) (λ_ _ _ q=>q) (λ_ _ q=>q.elim),trivial⟩;simp at e;subst e;exact⟨V.R.keep.new V.nL,hLL,hno⟩
end
section
open PySem.Builtin PySem.Builtin.Str
section
variable{S:St0}{sh:zak}
theorem zeh{n i:Nat}{x:Str}{p' value pos}{c:PE}(hi:sh.names[i]?=some x)(H:zeg n S sh value c)(hs:∀env,swapsWith value (some (.Name x p')) pos.line env=pure false) :
  zix n S sh (.Assign [.Name x p'] value pos) (zao i c):=λa ow st s Q X hn g R q=>by
 have f:=g.f;refine wpAny_Assign_Name (yt (H a ow st s _ X hn f R q) (λv s₁ h=>?_) λ_ _ x=>zdG f R x) (hs _);left;obtain⟨r,st₁,h1,h2,h3⟩:=h;exact zlE f R h2 hi h3 λs' ow' R'=>⟨.next,ow',_,h1,R',trivial⟩
noncomputable def zfb(l p z:List Nat):List Nat:=zik z (zbg l p)
theorem zoS{l p z:List Nat}(hp:p≠[]):Txt.replace (mk l) (mk p) (mk z)=mk (zfb l p z):=by
 unfold Txt.replace zfb;rw[zhA,show(mk p).length=p.length from zaI p];have h0:(p.length==0)=false:=by
  induction p with
  |nil=>exact absurd rfl hp
  |cons _ _=>rfl
 rw[h0,Bool.false_and,Bool.or_false];cases e:zkr l p 0 l.length with
 |nil=>rw[zgk e];rfl
 |cons a r=>
  rw[if_neg (by simp),←e,zmu,StrLaws.glued_eq_join,zo1]
@[reducible]noncomputable def zkU(c:PE)(p z:List Nat):PE:=λQ X st=>c (λr st₁=>r.oM D.str? λl=>l.length≤1000000∧Q (.pl (.str (zfb l p z))) st₁) X st
end
end
noncomputable def zAD(n₀:Nat)(S:St0)(a:Addr)(rank:Nat)(calm:Bool)(F:List D->List D->PD):Prop:=∀(A:Around)(fr:List Env)(hands:List Value)(P:Addr->Prop)(s:Shared)(vs:List Value)(ds:List D)(Q:D->Prop)(X:Err->Prop),n₀≤s.toks->ziB S A fr hands P rank calm s->zaN S s.heap P vs ds->F ds [] Q X->wpAny (model S.prog S.w) A (call (.ref a) vs []) (OkC S fr P s Q) (zz0 S fr s X) s
theorem zpT{S:St0}(D0:Std S){sh:zak}{n:Str}{a:Addr}{o:Obj}{params:Arguments}{body:List Stmt}{scope:Scope}{pm cd doc dV kV:Value}{ps rest:List Str}{c:PS}{F:List D->List D->PD}{n₀:Nat}
  (ho:S.base.get? a=some o)(hd:o.data=.func {docDef n params body scope pm cd doc with defaults:=dV,kwdefaults:=kV})(hcd:S.base.CodeRec cd n)
  (hco:scope.isCoroutine=false)(hgen:scope.isGenerator=false)(hk:scope.kind=.function)(hsc:sh.scope=scope)(hkeys:∀n,(cellsFrom n scope.names []).map (·.1)=sh.cells)(hcl:(sh.cells.all λx=>sh.scope.names.lookup x==some .cell)=true)
  (hnames:sh.names=ps++rest)(hloc:(sh.names.all λx=>sh.scope.names.lookup x==some .local)=true)(hnd:sh.all.Nodup)
  (hbind:∀(s:Shared)(vs:List Value),vs.length=ps.length->BindsTo s {docDef n params body scope pm cd doc with defaults:=dV,kwdefaults:=kV} ⟨vs,[]⟩ (ps.zip vs))
  (H:zdj n₀ S sh body c)(k:∀ds dk Q X,F ds dk Q X->dk=[]∧ds.length=ps.length∧c (zmD Q) (λx _=>X x) (start ds rest.length++List.replicate sh.cells.length (.cel none)))
  (hin:sh.inner=false):zAD n₀ S a (sh.rank+10) sh.calm F:=by
 intro A fr hands P s vs ds Q X hn0 C hv q;refine zn2 (k _ _ _ _ q) λ_ hlen g=>?_;have hst:=C.stays;have hl:vs.length=ps.length:=hv.length.trans hlen;refine zhO D0 (ks:=[]) (dk:=[]) (hst _ _ ho) hd (hcd.keeps hst) rfl rfl rfl hco hgen hk hsc rfl hkeys (λx hx=>?_) hnames (λx hx=>?_) hnd rfl ?_ hn0 H (by rw[hin];intro h;exact zaF h) (λ_=>zs6 hcd) C hv .nil hlen rfl ?_
 ·have:=yO.mp hcl x hx
  exact eq_of_beq this
 ·have:=yO.mp hloc x hx
  exact eq_of_beq this
 ·rw[List.append_nil]
  exact hbind s vs hl
 ·rw[List.append_nil]
  exact g
section
open PySem.Builtin PySem.Builtin.Str
section
variable{S:St0}{sh:zak}
noncomputable def D.norm:D->D
 |.tstr l _=>.str l
 |d=>d
noncomputable def D.tstr?:D->Option (List Nat×Nat)
 |.tstr l b=>Option.some (l,b)
 |_=>Option.none
theorem D.tstr?_inv{d:D}{l}(h:d.tstr?=Option.some l):d=.tstr l.1 l.2:=by cases d<;>first|exact zae h|(obtain rfl:=yj h;rfl)
theorem zcN.norm{h:Heap}{P:Addr->Prop}{v:Value}{d:D}(x:zcN S h P v d):zcN S h P v d.norm:=by
 cases d with
 |tstr l b=>refine zcM x.inv λt _ _ hzz=>?_;rw[hzz];exact .str l t
 |_=>exact x
theorem zqQ(d:D):d.norm.isExc=d.isExc:=by cases d<;>rfl
noncomputable def Res.norm:Res->Res
 |.pl d=>.pl d.norm
 |r=>r
@[reducible]noncomputable def zsE(c:PE):PE:=λQ X st=>c (λr st₁=>Q r.norm st₁) X st
theorem zhS.norm{a:Act}{ow:Nat->Option Addr}{st:Sl}{hs h:Heap}{v:Value}{r:Res}(x:zhS S a ow st hs h v r):zhS S a ow st hs h v r.norm:=by
 cases r with
 |pl d=>exact⟨x.1.norm,λz=>x.2 ((zqQ d).symm.trans z)⟩
 |fr ds=>exact x
 |bo i ds=>exact x
theorem zr3{e:Expr}{c:PE}(H:zau S sh e c):zau S sh e (zsE c):=λa ow st s Q X f R q=>by
 refine yt (H a ow st s _ X f R q) (λv s₁ h=>?_) λ_ _ x=>x;obtain⟨r,st₁,h1,h2,h3⟩:=h;exact⟨r.norm,st₁,h1,h2,h3.norm⟩
theorem zAX{p z:List Nat}(h:p≠z):(mk p==mk z)=false:=beq_eq_false_iff_ne.mpr λe=>h (zm8 e)
theorem zhs{a:Act}{st:Sl}{s:Shared}{k:Nat}:Step a st st s {s with toks:=k}:=⟨.refl _,.refl _ _,rfl,rfl⟩
@[reducible]noncomputable def zmc(n:Nat)(c:PE)(p:List Nat)(c2:PE):PE:=λQ X st=>c (λr st₁=>r.oM D.str? λl=>l.length≤1000000∧c2 (λr2 st₂=>r2.oM D.tstr? λz=>(z.2≤n∧p≠[]∧p≠z.1∧z.1.length≤14)∧Q (.pl (.str (zfb l p z.1))) st₂) X st₁) X st
@[reducible]noncomputable def zlG(n:Nat)(c:PE)(c2:PE)(z:List Nat):PE:=λQ X st=>c (λr st₁=>r.oM D.str? λl=>l.length≤1000000∧c2 (λr2 st₂=>r2.oM D.tstr? λp=>(p.2≤n∧p.1≠[]∧p.1≠z∧z.length≤14)∧Q (.pl (.str (zfb l p.1 z))) st₂) X st₁) X st
theorem Res.tstr_inv{r:Res}{K:List Nat×Nat->Prop}(h:r.oM D.tstr? K):∃l,r=.pl (.tstr l.1 l.2)∧K l:=by
 refine zfB (Res.oM_inv h) λd l h1 h2 h=>?_;exact⟨l,h1.trans (ya _ (D.tstr?_inv h2)),h⟩
theorem zlD{n:Nat}{o:Expr}{name:Str}{m:String}{apos pos:Pos}{e:Expr}{es:List Expr}{c':List Nat->Sl->Prop}
  (hm:∀{M:Model}{A:Around}{E:Value->Shared->Prop}{s:Shared}{x:Str}{t:Tok}{pl:Sem Bool}{Q:Value×List Value->Shared->Prop},Q (.builtin m,[.str x t]) s->wpAny M A (getMethod (.str x t) name pl) Q E s)
  (hline:(apos.endLine==pos.line)=true)(hbase:∀env,attributeBase o name env (eval o env)=eval o env)
  (hform:∀env,methodCallForm ((e::es).length+([]:List Keyword).length) (backTo pos (starEach (e::es) env)) (backToKw pos (keywordEach [] env))=true)
  (hplain:∀env,(backTo pos (starEach (e::es) env)).any (·.1)=false)
  (he:∀env,starEach (e::es) env=(false,eval e env)::starEach es env){a:Act}{ow:Nat->Option Addr}{st:Sl}{s:Shared}{Q:Res->Sl->Prop}{X:Err->Sl->Prop}(hn:n≤s.toks)(f:a.Fits S sh)(R:Rel S sh a noX ow st s)
  (H:wpAny (model S.prog S.w) a.A (eval o a.env) (OkE S a ow st s λr st₁=>r.oM D.str? λl=>c' l st₁) (zfA S a st s X) s)
  (A:∀(l:List Nat)(t:Tok)(ow1:Nat->Option Addr)(st₁:Sl)(s₁:Shared),n≤s₁.toks->Rel S sh a noX ow1 st₁ s₁->c' l st₁ ->
   wpAny (model S.prog S.w) a.A (spliced (backTo pos (starEach (e::es) a.env))) (λvs s₂=>wpAny (model S.prog S.w) a.A (call (.builtin m) (.str (mk l) t::vs)) (OkE S a ow1 st₁ s₁ Q) (zfA S a st₁ s₁ X) s₂) (zfA S a st₁ s₁ X) s₁) :
  wpAny (model S.prog S.w) a.A (eval (.Call (.Attribute o name apos) (e::es) [] pos) a.env) (OkE S a ow st s Q) (zfA S a st s X) s:=by
 rw[arm_eval_Call,hbase];refine yl (yt (wpAny_toks_of hn H) (λov s₁ h=>yl (yX ?_)) λ_ _ x=>x.2);obtain⟨hn1,r,st₁,q,K,hr⟩:=h;refine zaO (Res.str_inv q) λl hzz q=>?_;subst hzz;obtain⟨hr,_⟩:=hr;refine zfc hr.inv λt hzz=>?_;subst hzz;have hgo:=A l t _ st₁ s₁ hn1 (R.step f K) q;clear A hr q H;unfold methodCall;rw[hform];refine yl (yH (hm ?_));have hpos:methodCallPos true o a.env apos pos=Pure.pure pos:=by unfold methodCallPos;simp[hline]
 refine yl (wpAny_of_eq hpos ?_);show wpAny _ _ (callWith pos (.builtin m) [.str (mk l) t] (backTo pos (starEach (e::es) a.env)) []) _ _ _;refine Calls.callWith_builtin (hplain _) ?_;have hb:backTo pos (starEach (e::es) a.env)=(false,eval e a.env)::backTo pos (starEach es a.env):=by rw[he];rfl
 rw[hb]at hgo⊢;exact Calls.evalArgs_plain (yt hgo (λvs s₂ h=>yt h (λ_ _ x=>ziZ K x) λ_ _ x=>zaP K x) λ_ _ x=>zaP K x)
section
variable{n:Nat}{o e2:Expr}{x y:Str}{X0 Y0:List Nat}{apos pos p1 p2:Pos}{k1 k2:Nat}{c c2:PE}
theorem zlx(H:zeg n S sh o c)(H2:zau S sh e2 c2)(hP:x=mk X0)(hline:(apos.endLine==pos.line)=true)(hbase:∀env,attributeBase o "replace" env (eval o env)=eval o env)
  (hform:∀env,methodCallForm ([Expr.Constant (.str x) k1 p1,e2].length+([]:List Keyword).length) (backTo pos (starEach [Expr.Constant (.str x) k1 p1,e2] env)) (backToKw pos (keywordEach [] env))=true)
  (hplain:∀env,(backTo pos (starEach [Expr.Constant (.str x) k1 p1,e2] env)).any (·.1)=false)(he:∀env,starEach [e2] env=(false,eval e2 env)::starEach [] env):zeg n S sh (.Call (.Attribute o "replace" apos) [.Constant (.str x) k1 p1,e2] [] pos) (zmc n c X0 c2):=λa ow st s Q X hn f R q=>
 zlD GM.replace hline hbase hform hplain (λ_=>rfl) hn f R (H a ow st s _ X hn f R q) λl t ow1 st₁ s₁ hn' R1 q=>by
 obtain⟨hlen,q⟩:=q;have K1:Step a st₁ st₁ s₁ {s₁ with toks:=s₁.toks+1}:=zhs;refine wpAny_items_cons (wpAny_Constant_str (wpAny_items_cons (yt (H2 a _ st₁ _ _ X f (R1.step f K1) q) (λv s₂ h=>wpAny_items_nil ?_) λ_ _ x=>zaP K1 x) (he _))) rfl;obtain⟨r2,st₂,q,K2,hr2⟩:=h;obtain⟨z,rfl,⟨hb1,hp0,hpz,hz⟩,q⟩:=Res.tstr_inv q;refine zcM hr2.1.inv λu h0 h1 hzz=>?_;subst hzz;have hu:u<s₁.toks:=yA h1 (yk hb1 hn');refine SC.replaceW (Nat.ne_of_gt (Nat.lt_trans h0 hu)) (Nat.ne_of_gt h0) (Nat.ne_of_gt hu) (by rw[hP];exact zAX hpz) (by rw[zaI];exact yk hlen (by decide)) (by rw[zaI];exact hz) λt' k=>?_;rw[hP,zoS hp0];exact⟨_,st₂,q,(K1.trans K2).trans zhs,.str _ _,λz=>zaF z⟩
theorem zmt(H:zeg n S sh o c)(H2:zau S sh e2 c2)(hP:x=mk X0)(hline:(apos.endLine==pos.line)=true)(hbase:∀env,attributeBase o "replace" env (eval o env)=eval o env)
  (hform:∀env,methodCallForm ([e2,Expr.Constant (.str x) k1 p1].length+([]:List Keyword).length) (backTo pos (starEach [e2,Expr.Constant (.str x) k1 p1] env)) (backToKw pos (keywordEach [] env))=true)
  (hplain:∀env,(backTo pos (starEach [e2,Expr.Constant (.str x) k1 p1] env)).any (·.1)=false)(he:∀env,starEach [e2,Expr.Constant (.str x) k1 p1] env=(false,eval e2 env)::starEach [Expr.Constant (.str x) k1 p1] env):zeg n S sh (.Call (.Attribute o "replace" apos) [e2,.Constant (.str x) k1 p1] [] pos) (zlG n c c2 X0):=λa ow st s Q X hn f R q=>
 zlD GM.replace hline hbase hform hplain he hn f R (H a ow st s _ X hn f R q) λl t ow1 st₁ s₁ hn' R1 q=>by
 obtain⟨hlen,q⟩:=q;refine wpAny_items_cons (yt (wpAny_toks_of hn' (H2 a _ st₁ _ _ X f R1 q)) (λv s₂ h=>wpAny_items_cons (wpAny_Constant_str (wpAny_items_nil ?_)) rfl) λ_ _ x=>x.2) (he _);obtain⟨hn2,r2,st₂,q,K2,hr2⟩:=h;obtain⟨z,rfl,⟨hb1,hp0,hpz,hz⟩,q⟩:=Res.tstr_inv q;refine zcM hr2.1.inv λu h0 h1 hzz=>?_;subst hzz;have hu:u<s₂.toks:=yA h1 (yk hb1 hn2);refine SC.replaceW (Nat.ne_of_gt h0) (Nat.ne_of_gt (Nat.lt_trans h0 hu)) (Nat.ne_of_lt hu) (by rw[hP];exact zAX hpz) (by rw[zaI];exact yk hlen (by decide)) (by rw[hP,zaI];exact hz) λt' k=>?_;rw[hP,zoS hp0];exact⟨_,st₂,q,K2.trans zhs,.str _ _,λz=>zaF z⟩
theorem zhK(h0:0<n)(H:zeg n S sh o c)(hP:x=mk X0)(hZ:y=mk Y0)(hc:X0≠[]∧(x==y)=false∧Y0.length≤14)(hline:(apos.endLine==pos.line)=true)(hbase:∀env,attributeBase o "replace" env (eval o env)=eval o env)
  (hform:∀env,methodCallForm ([Expr.Constant (.str x) k1 p1,.Constant (.str y) k2 p2].length+([]:List Keyword).length) (backTo pos (starEach [Expr.Constant (.str x) k1 p1,.Constant (.str y) k2 p2] env)) (backToKw pos (keywordEach [] env))=true)
  (hplain:∀env,(backTo pos (starEach [Expr.Constant (.str x) k1 p1,.Constant (.str y) k2 p2] env)).any (·.1)=false):zeg n S sh (.Call (.Attribute o "replace" apos) [.Constant (.str x) k1 p1,.Constant (.str y) k2 p2] [] pos) (zkU c X0 Y0):=λa ow st s Q X hn f R q=>
 zlD GM.replace hline hbase hform hplain (λ_=>rfl) hn f R (H a ow st s _ X hn f R q) λl t ow1 st₁ s₁ hn' R1 q=>by
 obtain⟨hlen,q⟩:=q;refine wpAny_items_cons (wpAny_Constant_str (wpAny_items_cons (wpAny_Constant_str (wpAny_items_nil ?_)) rfl)) rfl;refine SC.replaceW (Nat.ne_of_gt (yA h0 hn')) (Nat.succ_ne_zero _) (Nat.ne_of_lt (yS _)) hc.2.1 (by rw[zaI];exact yk hlen (by decide)) (by rw[hZ,zaI];exact hc.2.2) λt' k=>?_;rw[hP,hZ,zoS hc.1];exact⟨_,st₁,q,zhs,.str _ _,λz=>zaF z⟩
end
end
end
theorem zvI(z x:List Nat){l:List (List Nat)}(h:l≠[]):zik z (x::l)=x++z++zik z l:=by
 induction l with
 |nil=>exact absurd rfl h
 |cons _ _=>rfl
theorem zva(l p:List Nat):zbg l p≠[]:=λh=>by
 have:=ziw l p;rw[h]at this;exact Nat.succ_ne_zero _ this.symm
theorem zvn(p r:List Nat):zee (p++r) p (p++r).length 0=true:=by
 unfold zee;rw[List.drop_zero,List.take_left,beq_self_eq_true,Bool.and_true,decide_eq_true_eq,Nat.zero_add,List.length_append];exact yR ..
theorem zvc(p r:List Nat):zbS (p++r) p 0 (p++r).length=some 0:=by
 unfold zbS;rw[Nat.sub_zero,List.range'_succ,List.find?_cons_of_pos (zvn p r)]
theorem zp5{p:List Nat}(hp:p≠[])(r z:List Nat):zfb (p++r) p z=z++zfb r p z:=by
 unfold zfb;rw[ze1 hp (zvc p r),Nat.zero_add,List.drop_left,List.take_zero,zvI _ _ (zva r p)];rfl
theorem zmZ{l p z:List Nat}(h:zbS l p 0 l.length=none):zfb l p z=l:=by
 unfold zfb;rw[zdm h];rfl
theorem zqM(z:List Nat)(c:Nat)(x:List Nat)(l:List (List Nat)):zik z ((c::x)::l)=c::zik z (x::l):=by
 cases l with
 |nil=>rfl
 |cons _ _=>rfl
theorem ztI{p:List Nat}(hp:p≠[]){c:Nat}{r:List Nat}(z:List Nat)(h:zee (c::r) p (c::r).length 0=false):zfb (c::r) p z=c::zfb r p z:=by
 refine zfw (zkZ hp h) λx l h1 h2=>?_;unfold zfb;rw[h1,h2,zqM]
noncomputable def rp(a b c:Nat):Nat:=if c=a then b else c
theorem zhT{a b:Nat}:rp a b a=b:=if_pos rfl
theorem zdJ{a b c:Nat}(h:c≠a):rp a b c=c:=if_neg h
theorem zeb(a b:Nat)(l:List Nat):zfb l [a] [b]=l.map (rp a b):=by
 induction l with
 |nil=>exact zmZ (zh8 List.not_mem_nil)
 |cons c l ih=>
  rw[List.map_cons,←ih];by_cases e:c=a
  ·subst e
   rw[zhT];exact zp5 (p:=[c]) nofun l [b]
  ·rw[zdJ e]
   refine ztI (p:=[a]) nofun _ (Bool.eq_false_iff.mpr λz=>e ?_);exact yj ((zht _ _ _).mp z)
theorem zAu(P:Nat->Prop)(q:Nat):(∀i,q≤i->¬P i)∨∃k,q≤k∧P k∧∀i,q≤i->i<k->¬P i:=by
 by_cases h:∃i,q≤i∧P i
 ·refine .inr (zaO h λi hi hP=>?_)
  clear h
  induction i using Nat.strongRecOn with
  |ind i ih=>
   by_cases h:∃j,q≤j∧j<i∧P j
   ·exact zcM h λj h1 h2 h3=>ih j h2 h1 h3
   ·exact zga i hi hP λj h1 h2 h3=>h (zga j h1 h2 h3)
 ·exact .inl λi hi hP=>h (zbB i hi hP)
noncomputable def mks(ml:Bool)(c:Nat):List Nat:=if ml then[c,c,c]else[c]
noncomputable def zdF(s:List Nat)(ml:Bool)(c i:Nat):Prop:=s[i]?=some c∧(ml=true->s[i+1]?=some c∧s[i+2]?=some c)
theorem zgi{s:List Nat}{c i:Nat}:cut s i (i+3)=[c,c,c]↔s[i]?=some c∧s[i+1]?=some c∧s[i+2]?=some c:=by
 have e:∀j,j<3->(cut s i (i+3))[j]?=s[i+j]?:=λj hj=>zoy (Nat.add_lt_add_left hj i)
 constructor
 ·intro h
  rw[h]at e;exact⟨(e 0 (by decide)).symm,(e 1 (by decide)).symm,(e 2 (by decide)).symm⟩
 ·intro h
  rw[zml h.1 (Nat.lt_add_of_pos_right (by decide)),zml h.2.1 (Nat.lt_add_of_pos_right (by decide:0<2)),show i+3=i+1+1+1 from rfl,zke h.2.2]
theorem zdy{s:List Nat}{c i:Nat}:cut s i (i+1)=[c]↔s[i]?=some c:=by
 constructor
 ·intro h
  have e:(cut s i (i+1))[0]?=s[i+0]?:=zoy (yS _);rw[h]at e;exact e.symm
 ·exact zke
theorem zvr{s p:List Nat}(hp:1≤p.length){i:Nat}:zee s p s.length i=true↔cut s i (i+p.length)=p:=by
 unfold zee;rw[Bool.and_eq_true,decide_eq_true_iff,beq_iff_eq];have e:(s.drop i).take p.length=cut s i (i+p.length):=by unfold cut;rw[Nat.add_sub_cancel_left]
 rw[e];exact⟨λh=>h.2,λh=>⟨zlw hp (by rw[h]),h⟩⟩
theorem zj6{s:List Nat}{ml:Bool}{c i:Nat}:zee s (mks ml c) s.length i=true↔zdF s ml c i:=by
 induction ml with
 |false=>exact(zht s c i).trans ⟨λh=>⟨h,λz=>zaF z⟩,λh=>h.1⟩
 |true=>exact(zvr (p:=[c,c,c]) (zci rfl)).trans (zgi.trans ⟨λh=>⟨h.1,λ_=>h.2⟩,λh=>⟨h.1,h.2 rfl⟩⟩)
theorem zxv{s p:List Nat}{q e:Nat}(h1:q≤e)(h2:zee s p s.length e=true)(h3:∀i,q≤i->i<e->¬zee s p s.length i=true)(he:e≤s.length):zbS s p q s.length=some e:=by
 refine List.find?_range'_eq_some.mpr ⟨h2,List.mem_range'_1.mpr ⟨h1,?_⟩,λj j1 j2=>?_⟩
 ·rw[Nat.add_sub_cancel' (Nat.le_succ_of_le (Nat.le_trans h1 he))]
  exact Nat.lt_succ_of_le he
 ·rw[Bool.not_eq_true',Bool.eq_false_iff];exact h3 j j1 j2
theorem zmU{s p:List Nat}{q:Nat}(h:∀i,q≤i->¬zee s p s.length i=true):zbS s p q s.length=none:=
 List.find?_eq_none.mpr λi hi=>h i (List.mem_range'_1.mp hi).1
noncomputable def zjZ(s:List Nat)(cs:List (List Nat))(p e:Nat):Prop:=∀i c,p≤i->i<e->s[i]?=some c->¬[c]∈cs
theorem zlj{s:List Nat}{cs:List (List Nat)}{k:Nat}:∀(n p:Nat),p+n=k->k≤s.length->zjZ s cs p k->zcD s cs p=zcD s cs k
 |0,p,h,_,_=>by rw[show p=k from h]
 |n+1,p,h,hk,hc=>by
  have hp:p<k:=h▸yf (yd n);have hg:=yu (yA hp hk);rw[zjA hg (hc p _ (Nat.le_refl _) hp hg)];exact zlj n (p+1) (by rw[←h,Nat.add_assoc,Nat.add_comm 1 n]) hk λi c h1 h2=>hc i c (Nat.le_of_succ_le h1) h2
theorem zn7{s:List Nat}{cs:List (List Nat)}{p e:Nat}(h:zjZ s cs p e):zjF s p cs e=.ok e:=by
 refine if_pos (yO.mpr λc hc=>?_);refine zcM (zh0 hc) λi h1 h2 h3=>?_;rw[decide_eq_false (h i c h1 h2 h3)];rfl
theorem zqh{s:List Nat}{cs:List (List Nat)}{p e k c:Nat}(h1:p≤k)(h2:k<e)(h3:s[k]?=some c)(h4:[c]∈cs)(h:zjZ s cs p k):zjF s p cs e=.error (zcH s k (zbX++za2 [c])):=by
 have e0:zcD s cs p=k:=(zlj (k-p) p (Nat.add_sub_cancel' h1) (yc (zaC h3)) h).trans (zlh h3 h4);unfold zjF;rw[e0,zke h3];refine if_neg λz=>?_;have hm:c∈cut s p e:=by
  obtain⟨j,rfl⟩:=Nat.le.dest h1;exact yy ((zoy h2).trans h3)
 have z:=yO.mp z c hm;rw[decide_eq_true h4]at z;exact zaF z
noncomputable def zBf(ml:Bool)(s:List Nat)(q e:Nat):R:=if ml then zfC s 39 (e+3) (cut s q e)else .ok (e+1,cut s q e)
noncomputable def zjl(ml:Bool)(s:List Nat)(q:Nat):R:=match zeo s q (mks ml 39) (zfG ml) true with
 |.error m=>.error m
 |.ok e=>zBf ml s q e
theorem zkX(s:List Nat)(q:Nat):zn0 s q=zjl true s q:=rfl
theorem zo3(s:List Nat)(p:Nat):zrc s p=zjl false s (p+1):=rfl
structure zoT(s:List Nat)(ml:Bool)(c q e:Nat):Prop where
 le:q≤e
 at':zdF s ml c e
 no:∀i,q≤i->i<e->¬zdF s ml c i
noncomputable def zyy(s:List Nat)(ml:Bool)(c q:Nat):Prop:=∀i,q≤i->¬zdF s ml c i
structure zq5(s:List Nat)(cs:List (List Nat))(q k c:Nat):Prop where
 le:q≤k
 at':s[k]?=some c
 bad:[c]∈cs
 no:zjZ s cs q k
theorem zjK(s:List Nat)(ml:Bool)(c q:Nat):zyy s ml c q∨∃e,zoT s ml c q e:=by
 rcases zAu (zdF s ml c) q with h|⟨k,h1,h2,h3⟩
 ·exact .inl h
 ·exact .inr ⟨k,h1,h2,h3⟩
theorem zhJ(s:List Nat)(cs:List (List Nat))(q:Nat)(e:Nat):zjZ s cs q e∨∃k c,k<e∧zq5 s cs q k c:=by
 rcases zAu (λi=>∃c,s[i]?=some c∧[c]∈cs) q with h|⟨k,h1,⟨c,h2,h4⟩,h3⟩
 ·exact .inl λi c h1 _ h2 h3=>h i h1 ⟨c,h2,h3⟩
 ·by_cases hk:k<e
  ·exact .inr ⟨k,c,hk,h1,h2,h4,λi d i1 i2 i3 i4=>h3 i i1 i2 ⟨d,i3,i4⟩⟩
  ·exact .inl λi d i1 i2 i3 i4=>h3 i i1 (yA i2 (xa hk)) ⟨d,i3,i4⟩
section
variable{s:List Nat}{ml:Bool}{q e k c:Nat}
theorem zpN(h:zoT s ml 39 q e):zbS s (mks ml 39) q s.length=some e:=
 zxv h.le (zj6.mpr h.at') (λi h1 h2 z=>h.no i h1 h2 (zj6.mp z)) (yc (zaC h.at'.1))
theorem zmy(h:zyy s ml 39 q):zjl ml s q=.error (zcH s s.length (zhu++za2 (mks ml 39))):=by
 unfold zjl;rw[zlc (zmU λi hi z=>h i hi (zj6.mp z))]
theorem zjc(h:zoT s ml 39 q e)(hc:zjZ s (zfG ml) q e):zjl ml s q=zBf ml s q e:=by
 unfold zjl;rw[zid (zpN h),zn7 hc]
theorem zlC(h:zoT s ml 39 q e)(hk:k<e)(hb:zq5 s (zfG ml) q k c):zjl ml s q=.error (zcH s k (zbX++za2 [c])):=by
 unfold zjl;rw[zid (zpN h),zqh hb.le hk hb.at' hb.bad hb.no]
noncomputable def zsM(s:List Nat):Prop:=∀i:Nat,s[i]?≠some 92
theorem zzl(h:s[q]?=some 34)(hn:¬zdF s ml 34 q):ml=true∧¬cut s q (q+3)=[34,34,34]:=by
 induction ml with
 |false=>exact absurd ⟨h,λz=>zaF z⟩ hn
 |true=>exact⟨rfl,λz=>hn ⟨h,λ_=>(zgi.mp z).2⟩⟩
theorem zyZ{s:List Nat}{p c e:Nat}(h:s[p]?=some c)(he:p<e)(acc:List Nat):acc++[c]++cut s (p+1) e=acc++cut s p e:=by
 rw[zml h he,List.append_assoc];rfl
theorem zmC(hb:zsM s):∀(n p:Nat)(acc:List Nat),p+n=e->e≤s.length->zjZ s (zfG ml) p e->(∀i,p≤i->i<e->¬zdF s ml 34 i)->zdu s ml acc p=zdu s ml (acc++cut s p e) e
 |0,p,acc,h,_,_,_=>by
  obtain rfl:p=e:=h;unfold cut;rw[Nat.sub_self,List.take_zero,List.append_nil]
 |n+1,p,acc,h,he,hc,hs=>by
  have hp:p<e:=h▸yf (yd n);have hg:=yu (yA hp he);generalize s[p]=c at hg;have ih:=zmC hb n (p+1) (acc++[c]) (by rw[←h,Nat.add_assoc,Nat.add_comm 1 n]) he (λi c h1 h2=>hc i c (Nat.le_of_succ_le h1) h2) λi h1 h2=>hs i (Nat.le_of_succ_le h1) h2;rw[zyZ hg hp]at ih;rw[zcX hg,←ih];unfold zgS;have hb92:c≠92:=λz=>hb p (z▸hg);by_cases e1:c=34
  ·have h34:=zzl (e1▸hg) (hs p (yr _) hp)
   rw[if_pos e1,if_neg (λz=>Bool.noConfusion (h34.1.symm.trans z)),if_neg h34.2,e1]
  ·rw[if_neg e1,if_neg hb92,if_neg (hc p c (Nat.le_refl _) hp hg)]
theorem zxp(hb:zsM s)(h:zyy s ml 34 q)(hc:∀i c,q≤i->s[i]?=some c->¬[c]∈zfG ml):∃p,s.length≤p∧zcv s ml q=.error (zcH s p zfz):=by
 by_cases hq:q≤s.length
 ·refine zbB s.length (yr _) ?_
  refine(zmC hb (s.length-q) q [] (Nat.add_sub_cancel' hq) (yr _) (λi c h1 _=>hc i c h1) λi h1 _=>h i h1).trans ?_;exact zdn (List.getElem?_eq_none_iff.mpr (yr _))
 ·exact zbB q (Nat.le_of_not_le hq) (zdn (List.getElem?_eq_none_iff.mpr (Nat.le_of_not_le hq)))
theorem zuD(hb:zsM s)(h:zoT s ml 34 q e)(hc:zjZ s (zfG ml) q e):zcv s ml q=.ok (e+(mks ml 34).length,cut s q e):=by
 have hlt:=zaC h.at'.1;refine(zmC hb (e-q) q [] (Nat.add_sub_cancel' h.le) (yc hlt) hc h.no).trans ?_;rw[zcX h.at'.1,List.nil_append];unfold zgS;rw[if_pos rfl];have h2:=h.at';clear h hc
 induction ml with
 |false=>exact if_pos rfl
 |true=>
  rw[if_neg (λz=>Bool.noConfusion z),if_pos (zgi.mpr ⟨h2.1,h2.2 rfl⟩)];rfl
theorem zd8{c:Nat}(h:[c]∈zfG ml):c≠34∧c≠39∧c≠92∧c<128:=by
 have:c<32∨c=127:=zxk.mp (by
  induction ml with
  |true=>exact(zgl.mp h).1
  |false=>exact(zjg.mp h).1)
 lia
theorem zyp(hb:zsM s)(hs:∀i,q≤i->i<k->¬zdF s ml 34 i)(h:zq5 s (zfG ml) q k c):zcv s ml q=.error (zcH s k (zgW++za2 [c])):=by
 refine(zmC hb (k-q) q [] (Nat.add_sub_cancel' h.le) (yc (zaC h.at')) h.no hs).trans ?_;have h3:=zd8 h.bad;rw[zcX h.at'];unfold zgS;rw[if_neg h3.1,if_neg h3.2.2.1,if_pos h.bad]
end
structure Frn(s:List Nat)(f0 f1 f2:Nat):Prop where
 g0:19968≤f0
 g1:19968≤f1
 g2:19968≤f2
 c0:f0<1114112
 c1:f1<1114112
 c2:f2<1114112
 n0:f0∉s
 n1:f1∉s
 ne:f0≠f1
theorem zsc{l:List Nat}{k f:Nat}(h:k<l.length):l.take k++[f]++l.drop (k+1)=l.set k f:=by
 rw[List.set_eq_take_append_cons_drop,if_pos h,List.append_assoc];rfl
theorem zmi{l:List Nat}{k f i:Nat}(h:k<l.length):(l.set k f)[i]?=if k=i then some f else l[i]?:=by
 rw[List.getElem?_set];by_cases e:k=i
 ·rw[if_pos e,if_pos e,if_pos h]
 ·rw[if_neg e,if_neg e]
noncomputable def zws(ml:Bool)(l:List Nat):Nat:=l.countP λc=>decide ([c]∈zfG ml)
theorem zwt{ml:Bool}{l:List Nat}{k c f:Nat}(h:l[k]?=some c)(hc:[c]∈zfG ml)(hf:¬[f]∈zfG ml):zws ml (l.set k f)+1=zws ml l:=by
 unfold zws;have hk:=zaC h;have e:l[k]=c:=yj ((yu hk).symm.trans h);have hm:0<l.countP λc=>decide ([c]∈zfG ml):=List.countP_pos_iff.mpr ⟨c,yy h,yv hc⟩;rw[List.countP_set hk,e,if_pos (decide_eq_true hc),if_neg (by rw[decide_eq_false hf];exact Bool.false_ne_true),Nat.add_zero];exact Nat.sub_add_cancel hm
theorem zrQ{ml:Bool}{f:Nat}(h:19968≤f):¬[f]∈zfG ml:=λz=>by have:=(zd8 z).2.2.2;lia
noncomputable def zfI(s:List Nat)(d p:Nat):Nat:=if s[p]?=some d then(if s[p+1]?=some d then 2 else 1)else 0
theorem ziy(s:List Nat)(d p:Nat)(t:List Nat):zfC s d p t=.ok (p+zfI s d p,t++List.replicate (zfI s d p) d):=by
 unfold zfC zfI;by_cases h1:s[p]?=some d
 ·rw[if_pos (zdy.mpr h1),if_pos h1]
  by_cases h2:s[p+1]?=some d
  ·rw[if_pos (zdy.mpr h2),if_pos h2];rfl
  ·rw[if_neg (λz=>h2 (zdy.mp z)),if_neg h2];rfl
 ·rw[if_neg (λz=>h1 (zdy.mp z)),if_neg h1,List.replicate_zero,List.append_nil];rfl
theorem zpv{s U:List Nat}{d d' p p':Nat}(h:∀i,U[p'+i]?=some d'↔s[p+i]?=some d):zfI U d' p'=zfI s d p:=by
 unfold zfI;have h0:U[p']?=some d'↔s[p]?=some d:=h 0;by_cases h1:s[p]?=some d
 ·rw[if_pos h1,if_pos (h0.mpr h1)]
  by_cases h2:s[p+1]?=some d
  ·rw[if_pos h2,if_pos ((h 1).mpr h2)]
  ·rw[if_neg h2,if_neg λz=>h2 ((h 1).mp z)]
 ·rw[if_neg h1,if_neg λz=>h1 (h0.mp z)]
theorem zsA(f:Nat->Nat)(l:List Nat)(a b:Nat):cut (l.map f) a b=(cut l a b).map f:=by
 unfold cut;rw[←List.map_drop,←List.map_take]
theorem zvC(c:Nat)(l:List Nat)(a b:Nat):cut (c::l) (a+1) (b+1)=cut l a b:=by
 unfold cut;rw[List.drop_succ_cons,Nat.add_sub_add_right]
theorem zt4{l:List Nat}{a b c:Nat}(h1:a≤b)(h2:b≤c):cut l a b++cut l b c=cut l a c:=by
 obtain⟨m,rfl⟩:=Nat.le.dest h1;obtain⟨n,rfl⟩:=Nat.le.dest h2;unfold cut;rw[Nat.add_sub_cancel_left,Nat.add_sub_cancel_left,Nat.add_assoc,Nat.add_sub_cancel_left,List.take_add,List.drop_drop]
inductive zfp(s:List Nat)(b f0 f1:Nat)(no:Prop)(row:List Nat):Prop
 |mk (len:row.length=s.length-(b+1)+1) (h0:row[0]?=some 39) (at':∀j c,1≤j->s[b+j]?=some c->row[j]?=some (rp 10 f0 c)∨(no∧[c]∈zkq∧row[j]?=some f1))
section
variable{s row done:List Nat}{b f0 f1 f2 at':Nat}{no:Prop}
theorem zfp.has(R:zfp s b f0 f1 no row){j d:Nat}(hj:1≤j)(h:row[j]?=some d):∃c,s[b+j]?=some c∧(d=rp 10 f0 c∨(no∧[c]∈zkq∧d=f1)):=by
 obtain⟨h1,h2,h3⟩:=R;have hl:=zaC h;have hb:b+j<s.length:=by lia
 refine zbB _ (yu hb) ?_;rcases h3 j _ hj (yu hb)with h4|⟨h4,h5,h6⟩
 ·exact .inl (yj (h.symm.trans h4))
 ·exact .inr ⟨h4,h5,yj (h.symm.trans h6)⟩
theorem zfp.q(R:zfp s b f0 f1 no row)(F:Frn s f0 f1 f2){j:Nat}(hj:1≤j):row[j]?=some 39↔s[b+j]?=some 39:=by
 constructor
 ·intro h
  refine zaO (R.has hj h) λc h1 h2=>?_;rcases h2 with h2|⟨_,_,h2⟩
  ·by_cases e:c=10
   ·rw[e,zhT]at h2;have:=F.g0;lia
   ·rw[zdJ e]at h2;rw[h1,h2]
  ·have:=F.g1;lia
 ·intro h
  obtain⟨h1,h2,h3⟩:=R;rcases h3 j _ hj h with h4|⟨_,h4,_⟩
  ·rwa[zdJ (by decide)]at h4
  ·exact absurd rfl (zd8 (ml:=true) h4).2.1
theorem zfp.ill(R:zfp s b f0 f1 no row)(F:Frn s f0 f1 f2){j d:Nat}(hj:1≤j)(h:row[j]?=some d)(hd:[d]∈zqF):s[b+j]?=some d∧[d]∈zkq:=by
 refine zaO (R.has hj h) λc h1 h2=>?_;have hlt:=(zd8 (ml:=false) hd).2.2.2;rcases h2 with h2|⟨_,_,h2⟩
 ·by_cases e:c=10
  ·rw[e,zhT]at h2;have:=F.g0;lia
  ·rw[zdJ e]at h2
   subst h2;exact⟨h1,zgl.mpr ⟨(zjg.mp hd).1,(zjg.mp hd).2,e⟩⟩
 ·have:=F.g1;lia
theorem zfp.back(R:zfp s b f0 f1 no row){j c:Nat}(hn:¬no)(hj:1≤j)(h:s[b+j]?=some c)(hc:[c]∈zkq):row[j]?=some c:=by
 obtain⟨h1,h2,h3⟩:=R;rcases h3 j _ hj h with h4|⟨h4,_⟩
 ·rwa[zdJ (zgl.mp hc).2.2]at h4
 ·exact absurd h4 hn
theorem zfp.is(R:zfp s b f0 f1 no row)(hn:¬no):row=39::(s.drop (b+1)).map (rp 10 f0):=by
 obtain⟨h1,h2,h3⟩:=R;refine List.ext_getElem? λi=>?_;cases i with
 |zero=>exact h2
 |succ i=>
  rw[List.getElem?_cons_succ,List.getElem?_map,List.getElem?_drop,Nat.add_assoc,Nat.add_comm 1 i];cases h:s[b+(i+1)]? with
  |none=>
   have:=List.getElem?_eq_none_iff.mp h;exact List.getElem?_eq_none_iff.mpr (by lia)
  |some c=>
   rcases h3 (i+1) c (xf ..) h with h4|⟨h4,_⟩
   ·exact h4
   ·exact absurd h4 hn
theorem zfp.cuts(R:zfp s b f0 f1 no row)(hn:¬no)(a e:Nat):cut row (a+1) (e+1)=(cut s (b+a+1) (b+e+1)).map (rp 10 f0):=by
 rw[R.is hn,zvC,zsA,←zmS,Nat.add_comm a,Nat.add_comm e,Nat.add_right_comm b 1 a,Nat.add_right_comm b 1 e]
theorem zfp.chr(R:zfp s b f0 f1 no row)(F:Frn s f0 f1 f2)(hs:∀c∈s,c<1114112):∀d∈row,d<1114112:=λd hd=>by
 obtain⟨j,hj,e⟩:=List.getElem_of_mem hd;have e:=(yu hj).trans (ya some e);cases j with
 |zero=>
  obtain⟨h1,h2,h3⟩:=R;obtain rfl:=yj (h2.symm.trans e);decide
 |succ j=>
  refine zaO (R.has (xf ..) e) λc h1 h2=>?_;have hc:=hs c (yy h1);rcases h2 with rfl|⟨_,_,rfl⟩
  ·unfold rp
   by_cases z:c=10
   ·rw[if_pos z];exact F.c0
   ·rw[if_neg z];exact hc
  ·exact F.c1
theorem zfp.set(R:zfp s b f0 f1 no row){k c:Nat}{no':Prop}(hk:1≤k)(h:s[b+k]?=some c)(hc:[c]∈zkq)(hr:k<row.length)(hn:no'):zfp s b f0 f1 no' (row.set k f1):=by
 obtain⟨h1,h2,h3⟩:=R;refine⟨(List.length_set ..).trans h1,?_,λj d hj hd=>?_⟩
 ·rw[zmi hr,if_neg (Nat.ne_of_gt hk)];exact h2
 ·rw[zmi hr]
  by_cases e:k=j
  ·subst e
   rw[h]at hd;obtain rfl:=yj hd;rw[if_pos rfl];exact .inr ⟨hn,hc,rfl⟩
  ·rw[if_neg e]
   exact(h3 j d hj hd).imp id λz=>⟨hn,z.2⟩
inductive zyE(s:List Nat)(b f0 f1:Nat)(row:List Nat)(p:Nat)(done:List Nat)(rf:Option (Nat×Nat)):Prop
 |mk (row':zfp s b f0 f1 (rf≠none) row) (h39:row[p]?=some 39) (no3:∀i,b+1≤i->i≤b+p->¬zdF s true 39 i)
  (fresh:rf=none->zjZ s zkq (b+1) (b+p+1)∧done=(cut s (b+1) (b+p+1)).map (rp 10 f0))
  (first:∀k c,rf=some (k,c)->zq5 s zkq (b+1) k c∧∀i,b+1≤i->i≤k->¬zdF s true 39 i) (dlen:done.length≤p)
theorem zwg:zyE s b f0 f1 (39::(s.drop (b+1)).map (rp 10 f0)) 0 [] none:=by
 refine⟨⟨?_,rfl,λj c hj h=>.inl ?_⟩,rfl,λi h1 h2=>absurd (yk h1 h2) (Nat.not_succ_le_self b),λ_=>⟨λi c h1 h2=>absurd (yY h1 h2) (Nat.lt_irrefl _),?_⟩,λk c h=>zae h,yr _⟩
 ·rw[List.length_cons,List.length_map,List.length_drop]
 ·obtain⟨i,rfl⟩:=Nat.le.dest hj
  rw[Nat.add_comm 1 i,List.getElem?_cons_succ,List.getElem?_map,List.getElem?_drop,Nat.add_assoc,h];rfl
 ·unfold cut
  rw[Nat.add_zero,Nat.sub_self,List.take_zero];rfl
theorem zpk{no:Prop}(R:zfp s b f0 f1 no row)(F:Frn s f0 f1 f2){j:Nat}(hj:1≤j):zdF row true 39 j↔zdF s true 39 (b+j):=by
 unfold zdF;rw[R.q F hj,R.q F (Nat.le_succ_of_le hj),show j+2=j+1+1 from rfl,R.q F (Nat.le_succ_of_le (Nat.le_succ_of_le hj))];exact Iff.rfl
inductive zCl(s:List Nat)(b f0 f1:Nat)(row:List Nat)(p:Nat)(done:List Nat)(rf:Option (Nat×Nat)):Prop
 |eof (h1:zrc row p=.error (zcH row row.length (zhu++za2 [39]))) (h2:zn0 s (b+1)=.error (zcH s s.length (zhu++za2 [39,39,39])))
 |bad (k c:Nat) (h0:p<k) (h1:zrc row p=.error (zcH row k (zbX++za2 [c]))) (h2:row[k]?=some c) (h3:s[b+k]?=some c) (h4:[c]∈zqF) (h5:zyE s b f0 f1 (row.set k f1) p done (some (rf.getD (b+k,c))))
 |stop (e:Nat) (h0:p<e) (h1:zrc row p=.ok (e+1,cut row (p+1) e)) (h2:zdF row true 39 e) (h3:rf=none->zn0 s (b+1)=zfC s 39 (b+e+3) (cut s (b+1) (b+e))∧done++cut row (p+1) e=(cut s (b+1) (b+e)).map (rp 10 f0))
  (h4:∀k c,rf=some (k,c)->zn0 s (b+1)=.error (zcH s k (zbX++za2 [c])))
 |on (e:Nat) (h0:p<e) (h1:zrc row p=.ok (e+1,cut row (p+1) e)) (h2:¬zdF row true 39 e) (h3:row[e]?=some 39) (h4:zyE s b f0 f1 row e (done++(cut row (p+1) e++[39])) rf)
theorem zBv{rf:Option (Nat×Nat)}{p:Nat}(F:Frn s f0 f1 f2)(I:zyE s b f0 f1 row p done rf):zCl s b f0 f1 row p done rf:=by
 obtain⟨R,h39,no3,fresh,first,dlen⟩:=I;have stop1:∀{i},zdF row false 39 i↔row[i]?=some 39:=⟨λh=>h.1,λh=>⟨h,λz=>zaF z⟩⟩;rcases zjK row false 39 (p+1)with he|⟨e,he⟩
 ·refine .eof (zo3 row p▸zmy he) (zkX s _▸zmy (ml:=true) λi hi z=>?_)
  by_cases hp:i≤b+p
  ·exact no3 i hi hp z
  ·obtain⟨j,rfl⟩:∃j,i=b+j:=⟨i-b,by lia⟩
   exact he j (by lia) (stop1.mpr ((R.q F (by lia)).mpr z.1))
 ·have hpe:p<e:=he.le
  have hno:∀i,b+1≤i->i<b+e->¬zdF s true 39 i:=λi h1 h2 z=>by
   by_cases hp:i≤b+p
   ·exact no3 i h1 hp z
   ·obtain⟨j,rfl⟩:∃j,i=b+j:=⟨i-b,by lia⟩
    exact he.no j (by lia) (by lia) (stop1.mpr ((R.q F (by lia)).mpr z.1))
  -- from a clean row to a clean text
  have hclean:∀k,rf=none->zjZ row zqF (p+1) k->zjZ s zkq (b+1) (b+k):=λk hn hc i c h1 h2 h3 h4=>by
   by_cases hp:i≤b+p
   ·exact(fresh hn).1 i c h1 (Nat.lt_succ_of_le hp) h3 h4
   ·obtain⟨j,rfl⟩:∃j,i=b+j:=⟨i-b,by lia⟩
    exact hc j c (by lia) (by lia) (R.back (λz=>z hn) (by lia) h3 h4) (zjg.mpr ⟨(zgl.mp h4).1,(zgl.mp h4).2.1⟩)
  rcases zhJ row zqF (p+1) e with hc|⟨k,c,hk,hb⟩
  ·have h1:zrc row p=.ok (e+1,cut row (p+1) e):=zo3 row p▸zjc he hc
   have h3:=he.at'.1;have e1:1≤e:=yY (yb p) hpe;have hcat:rf=none->done++cut row (p+1) e=(cut s (b+1) (b+e)).map (rp 10 f0):=λhn=>by
    obtain⟨m,rfl⟩:∃m,e=m+1:=⟨e-1,by lia⟩;rw[R.cuts (λz=>z hn),(fresh hn).2,←List.map_append,zt4 (by lia) (by lia)];rfl
   by_cases h2:zdF row true 39 e
   ·have E:zoT s true 39 (b+1) (b+e):=⟨by lia,(zpk R F e1).mp h2,hno⟩
    refine .stop e hpe h1 h2 (λhn=>⟨zkX s _▸zjc E (hclean e hn hc),hcat hn⟩) λk c hk=>?_;obtain⟨B,hB⟩:=first k c hk
    refine zkX s _▸zlC E ?_ B;refine xh λz=>hB (b+e) (by lia) z E.at'
   ·refine .on e hpe h1 h2 h3 ⟨R,h3,λi i1 i2 z=>?_,λhn=>⟨λi c i1 i2 i3 i4=>?_,?_⟩,first,?_⟩
    ·rcases Nat.lt_or_eq_of_le i2 with i2|rfl
     ·exact hno i i1 i2 z
     ·exact h2 ((zpk R F e1).mpr z)
    ·rcases Nat.lt_or_eq_of_le (Nat.le_of_lt_succ i2)with i2|rfl
     ·exact hclean e hn hc i c i1 i2 i3 i4
     ·rw[(R.q F e1).mp h3]at i3
      obtain rfl:=yj i3;exact absurd rfl (zd8 (ml:=true) i4).2.1
    ·rw[←List.append_assoc,hcat hn,←zt4 (l:=s) (a:=b+1) (b:=b+e) (c:=b+e+1) (by lia) (Nat.le_succ _),zke ((R.q F e1).mp h3),List.map_append];rfl
    ·have:=zsa row (p+1) e
     rw[List.length_append,List.length_append,List.length_singleton];lia
  ·have hpk:p<k:=hb.le
   have k1:1≤k:=yY (yb p) hpk;obtain⟨hs,hm⟩:=R.ill F k1 hb.at' hb.bad;refine .bad k c hpk (zo3 row p▸zlC he hk hb) hb.at' hs hb.bad ⟨R.set k1 hs hm (zaC hb.at') (λz=>zgL z),?_,no3,λz=>zgL z,λk' c' h=>?_,dlen⟩
   ·rw[zmi (zaC hb.at'),if_neg (Nat.ne_of_gt hpk)];exact h39
   ·have h:=yj h
    cases hrf:rf with
    |some x=>rw[hrf]at h;exact first k' c' (hrf.trans (ya some h))
    |none=>
     rw[hrf]at h;obtain⟨rfl,rfl⟩:=Prod.mk.inj (show(b+k,c)=(k',c')from h);exact⟨⟨by lia,hs,hm,hclean k hrf hb.no⟩,λi h1 h2=>hno i h1 (by lia)⟩
end
noncomputable def mu(f0 f1 c:Nat):Nat:=rp 39 34 (rp 92 f1 (rp 34 f0 c))
noncomputable def um(f0 f1 c:Nat):Nat:=rp f1 92 (rp f0 34 (rp 34 39 c))
section
variable{s U:List Nat}{f0 f1 f2 c d:Nat}
theorem zi6(F:Frn s f0 f1 f2)(c:Nat):(c=34∧mu f0 f1 c=f0)∨(c=92∧mu f0 f1 c=f1)∨(c=39∧mu f0 f1 c=34)∨(c≠34∧c≠92∧c≠39∧mu f0 f1 c=c):=by
 have h0:=F.g0;have h1:=F.g1;unfold mu;by_cases e:c=34
 ·refine .inl ⟨e,?_⟩
  rw[e,zhT,zdJ (show f0≠92 by lia),zdJ (show f0≠39 by lia)]
 ·rw[zdJ e]
  by_cases e2:c=92
  ·refine .inr (.inl ⟨e2,?_⟩)
   rw[e2,zhT,zdJ (show f1≠39 by lia)]
  ·rw[zdJ e2]
   by_cases e3:c=39
   ·exact .inr (.inr (.inl ⟨e3,by rw[e3,zhT]⟩))
   ·exact .inr (.inr (.inr ⟨e,e2,e3,zdJ e3⟩))
theorem zwz(F:Frn s f0 f1 f2)(h:mu f0 f1 c=d)(hd:d<19968):(c=39∧d=34)∨(c≠34∧c≠92∧c≠39∧d=c):=by
 have h0:=F.g0;have h1:=F.g1;rcases zi6 F c with e|e|e|e
 ·lia
 ·lia
 ·exact .inl ⟨e.1,by lia⟩
 ·exact .inr ⟨e.1,e.2.1,e.2.2.1,by lia⟩
theorem zn6(F:Frn s f0 f1 f2)(h1:c≠34)(h2:c≠92)(h3:c≠39):mu f0 f1 c=c:=by
 rcases zi6 F c with e|e|e|e
 ·exact absurd e.1 h1
 ·exact absurd e.1 h2
 ·exact absurd e.1 h3
 ·exact e.2.2.2
theorem zCk(F:Frn s f0 f1 f2):mu f0 f1 39=34:=by
 unfold mu;rw[zdJ (show 39≠34 by decide),zdJ (show 39≠92 by decide),zhT]
theorem zBs(F:Frn s f0 f1 f2)(hc:c∈s):um f0 f1 (mu f0 f1 c)=c:=by
 have h0:=F.g0;have h1:=F.g1;have n0:c≠f0:=λz=>F.n0 (z▸hc);have n1:c≠f1:=λz=>F.n1 (z▸hc);unfold um;rcases zi6 F c with e|e|e|e
 ·rw[e.2,zdJ (show f0≠34 by lia),zhT,zdJ (show 34≠f1 by lia),e.1]
 ·rw[e.2,zdJ (show f1≠34 by lia),zdJ (Ne.symm F.ne),zhT,e.1]
 ·rw[e.2,zhT,zdJ (show 39≠f0 by lia),zdJ (show 39≠f1 by lia),e.1]
 ·rw[e.2.2.2,zdJ e.1,zdJ n0,zdJ n1]
theorem zzO(F:Frn s f0 f1 f2)(a b:Nat):(cut (s.map (mu f0 f1)) a b).map (um f0 f1)=cut s a b:=by
 rw[zsA,List.map_map];refine(List.map_congr_left λc hc=>?_).trans (List.map_id _);refine zcM (zh0 hc) λi _ _ h=>?_;exact zBs F (yy h)
theorem zsr{f:Nat->Nat}(h:∀c,f c=10↔c=10)(k:Nat):zaQ (s.map f) k=zaQ s k:=by
 have e1:((s.map f).take k).count 10=(s.take k).count 10:=by
  rw[←List.map_take];generalize s.take k=l
  induction l with
  |nil=>rfl
  |cons c l ih=>
   rw[List.map_cons,List.count_cons,List.count_cons,ih];by_cases z:c=10
   ·rw[if_pos (beq_iff_eq.mpr ((h c).mpr z)),if_pos (beq_iff_eq.mpr z)]
   ·rw[if_neg (λw=>z ((h c).mp (beq_iff_eq.mp w))),if_neg (λw=>z (beq_iff_eq.mp w))]
 have e2:(((s.map f).take k).reverse.takeWhile (· != 10)).length=((s.take k).reverse.takeWhile (· != 10)).length:=by
  rw[←List.map_take,←List.map_reverse];generalize (s.take k).reverse=l
  induction l with
  |nil=>rfl
  |cons c l ih=>
   rw[List.map_cons,List.takeWhile_cons,List.takeWhile_cons];by_cases z:c=10
   ·rw[if_neg (by rw[(h c).mpr z];exact Bool.false_ne_true),if_neg (by rw[z];exact Bool.false_ne_true)]
   ·rw[if_pos (bne_iff_ne.mpr λw=>z ((h c).mp w)),if_pos (bne_iff_ne.mpr z),List.length_cons,List.length_cons,ih]
 unfold zaQ zev zkp;rw[List.length_map,e1,e2]
theorem zBx(F:Frn s f0 f1 f2)(c:Nat):mu f0 f1 c=10↔c=10:=by
 constructor
 ·intro h
  rcases zwz F h (by decide)with e|e
  ·exact absurd e.2 (by decide)
  ·exact e.2.2.2.symm
 ·intro h
  rw[h];exact zn6 F (by decide) (by decide) (by decide)
inductive zdX(s:List Nat)(f0 f1 f2:Nat)(ml:Bool)(no:Prop)(U:List Nat):Prop
 |mk (len:U.length=s.length) (at':∀(i c:Nat),s[i]?=some c->U[i]?=some (mu f0 f1 c)∨(no∧[c]∈zfG ml∧U[i]?=some f2))
variable{ml:Bool}{no:Prop}{i:Nat}
theorem zdX.has(R:zdX s f0 f1 f2 ml no U)(h:U[i]?=some d):∃c,s[i]?=some c∧(mu f0 f1 c=d∨(no∧[c]∈zfG ml∧d=f2)):=by
 obtain⟨h1,h3⟩:=R;have hl:i<s.length:=h1▸zaC h;refine zbB _ (yu hl) ?_;rcases h3 i _ (yu hl)with h4|⟨h4,h5,h6⟩
 ·exact .inl (yj (h4.symm.trans h))
 ·exact .inr ⟨h4,h5,yj (h.symm.trans h6)⟩
theorem zdX.low(R:zdX s f0 f1 f2 ml no U)(F:Frn s f0 f1 f2)(h:U[i]?=some d)(hd:d<19968):∃c,s[i]?=some c∧((c=39∧d=34)∨(c≠34∧c≠92∧c≠39∧d=c)):=by
 refine zaO (R.has h) λc h1 h2=>?_;rcases h2 with h2|⟨_,_,h2⟩
 ·exact zbB c h1 (zwz F h2 hd)
 ·have:=F.g2;lia
theorem zdX.noEsc(R:zdX s f0 f1 f2 ml no U)(F:Frn s f0 f1 f2):zsM U:=λi h=>by
 refine zaO (R.low F h (by decide)) λc h1 h2=>?_;rcases h2 with h2|h2
 ·exact absurd h2.2 (by decide)
 ·exact h2.2.1 h2.2.2.2.symm
theorem zdX.q(R:zdX s f0 f1 f2 ml no U)(F:Frn s f0 f1 f2):U[i]?=some 34↔s[i]?=some 39:=by
 constructor
 ·intro h
  refine zaO (R.low F h (by decide)) λc h1 h2=>?_;rcases h2 with h2|h2
  ·rw[h1,h2.1]
  ·exact absurd h2.2.2.2.symm h2.1
 ·intro h
  obtain⟨h1,h3⟩:=R;rcases h3 i _ h with h4|⟨_,h4,_⟩
  ·rw[h4,zCk F]
  ·exact absurd rfl (zd8 h4).2.1
theorem zdX.stop(R:zdX s f0 f1 f2 ml no U)(F:Frn s f0 f1 f2){ml':Bool}:zdF U ml' 34 i↔zdF s ml' 39 i:=by
 unfold zdF;rw[R.q F,R.q F,R.q F]
theorem zdX.ill(R:zdX s f0 f1 f2 ml no U)(F:Frn s f0 f1 f2)(h:U[i]?=some d)(hd:[d]∈zfG ml):s[i]?=some d:=by
 have h34:=zd8 hd;refine zaO (R.low F h (by lia)) λc h1 h2=>?_;rcases h2 with h2|h2
 ·exact absurd h2.2 h34.1
 ·rw[h1,h2.2.2.2]
theorem zdX.back(R:zdX s f0 f1 f2 ml no U)(F:Frn s f0 f1 f2)(hn:¬no)(h:s[i]?=some c)(hc:[c]∈zfG ml):U[i]?=some c:=by
 obtain⟨h1,h3⟩:=R;have h34:=zd8 hc;rcases h3 i _ h with h4|⟨h4,_⟩
 ·rwa[zn6 F h34.1 h34.2.2.1 h34.2.1]at h4
 ·exact absurd h4 hn
theorem zdX.is(R:zdX s f0 f1 f2 ml no U)(hn:¬no):U=s.map (mu f0 f1):=by
 obtain⟨h1,h3⟩:=R;refine List.ext_getElem? λi=>?_;rw[List.getElem?_map];cases h:s[i]? with
 |none=>exact List.getElem?_eq_none_iff.mpr (h1▸List.getElem?_eq_none_iff.mp h)
 |some c=>
  rcases h3 i c h with h4|⟨h4,_⟩
  ·exact h4
  ·exact absurd h4 hn
theorem zdX.chr(R:zdX s f0 f1 f2 ml no U)(F:Frn s f0 f1 f2)(hs:∀c∈s,c<1114112):∀d∈U,d<1114112:=λd hd=>by
 obtain⟨j,hj,e⟩:=List.getElem_of_mem hd;refine zaO (R.has ((yu hj).trans (ya some e))) λc h1 h2=>?_;have hc:=hs c (yy h1);have:=F.c0;have:=F.c1;rcases h2 with rfl|⟨_,_,rfl⟩
 ·rcases zi6 F c with e|e|e|e<;>lia
 ·exact F.c2
theorem zdX.set(R:zdX s f0 f1 f2 ml no U){k:Nat}{no':Prop}(h:s[k]?=some c)(hc:[c]∈zfG ml)(hn:no'):zdX s f0 f1 f2 ml no' (U.set k f2):=by
 obtain⟨h1,h3⟩:=R;have hk:k<U.length:=h1.symm▸zaC h;refine⟨(List.length_set ..).trans h1,λj d hd=>?_⟩;rw[zmi hk];by_cases e:k=j
 ·subst e
  rw[h]at hd;obtain rfl:=yj hd;rw[if_pos rfl];exact .inr ⟨hn,hc,rfl⟩
 ·rw[if_neg e]
  exact(h3 j d hd).imp id λz=>⟨hn,z.2⟩
inductive zzf(s:List Nat)(f0 f1 f2:Nat)(ml:Bool)(q:Nat)(U:List Nat)(rf:Option (Nat×Nat)):Prop
 |mk (row':zdX s f0 f1 f2 ml (rf≠none) U) (first:∀k c,rf=some (k,c)->zq5 s (zfG ml) q k c∧∀i,q≤i->i≤k->¬zdF s ml 39 i)
theorem zrG{q:Nat}:zzf s f0 f1 f2 ml q (s.map (mu f0 f1)) none:=
 ⟨⟨List.length_map ..,λi c h=>.inl (by rw[List.getElem?_map,h];rfl)⟩,λk c h=>zae h⟩
inductive zzE(s:List Nat)(f0 f1 f2:Nat)(ml:Bool)(q:Nat)(U:List Nat)(rf:Option (Nat×Nat)):Prop
 |eof (p:Nat) (h0:s.length≤p) (h1:zcv U ml q=.error (zcH U p zfz)) (h2:zjl ml s q=.error (zcH s s.length (zhu++za2 (mks ml 39))))
 |bad (k c:Nat) (h1:zcv U ml q=.error (zcH U k (zgW++za2 [c]))) (h2:U[k]?=some c) (h3:s[k]?=some c) (h4:[c]∈zfG ml) (h5:rf=none->zaQ U k=zaQ s k) (h6:zzf s f0 f1 f2 ml q (U.set k f2) (some (rf.getD (k,c))))
 |stop (e:Nat) (h0:e<U.length) (h1:zcv U ml q=.ok (e+(mks ml 34).length,cut U q e)) (h2:rf=none->zjl ml s q=zBf ml s q e∧(cut U q e).map (um f0 f1)=cut s q e) (h3:∀k c,rf=some (k,c)->zjl ml s q=.error (zcH s k (zbX++za2 [c])))
theorem zxu{rf:Option (Nat×Nat)}{q:Nat}(F:Frn s f0 f1 f2)(I:zzf s f0 f1 f2 ml q U rf):zzE s f0 f1 f2 ml q U rf:=by
 obtain⟨R,first⟩:=I;have hlen:U.length=s.length:=by obtain⟨h,_⟩:=R;exact h
 have bad:∀k c,zq5 U (zfG ml) q k c->(∀i,q≤i->i<k->¬zdF U ml 34 i)->zzE s f0 f1 f2 ml q U rf:=λk c B hno=>by
  have hs:=R.ill F B.at' B.bad;refine .bad k c (zyp (R.noEsc F) hno B) B.at' hs B.bad (λhn=>?_) ⟨R.set hs B.bad λz=>zgL z,λk' c' h=>?_⟩
  ·rw[R.is λz=>z hn]
   exact zsr (zBx F) k
  ·have h:=yj h
   cases hrf:rf with
   |some x=>rw[hrf]at h;exact first k' c' (hrf.trans (ya some h))
   |none=>
    rw[hrf]at h;obtain⟨rfl,rfl⟩:=Prod.mk.inj (show(k,c)=(k',c')from h);refine⟨⟨B.le,hs,B.bad,λi d h1 h2 h3 h4=>B.no i d h1 h2 (R.back F (λz=>z hrf) h3 h4) h4⟩,λi h1 h2 z=>?_⟩;rcases Nat.lt_or_eq_of_le h2 with h2|rfl
    ·exact hno i h1 h2 ((R.stop F).mpr z)
    ·exact(zd8 B.bad).2.1 (yj (hs.symm.trans z.1))
 rcases zjK U ml 34 q with he|⟨e,he⟩
 ·rcases zhJ U (zfG ml) q U.length with hc|⟨k,c,hk,hb⟩
  ·refine zaO (zxp (R.noEsc F) he λi c h1 h2=>hc i c h1 (zaC h2) h2) λp h0 h1=>?_
   exact .eof p (hlen▸h0) h1 (zmy λi hi z=>he i hi ((R.stop F).mpr z))
  ·exact bad k c hb λi h1 _=>he i h1
 ·rcases zhJ U (zfG ml) q e with hc|⟨k,c,hk,hb⟩
  ·have E:zoT s ml 39 q e:=⟨he.le,(R.stop F).mp he.at',λi h1 h2 z=>he.no i h1 h2 ((R.stop F).mpr z)⟩
   refine .stop e (zaC he.at'.1) (zuD (R.noEsc F) he hc) (λhn=>⟨zjc E λi c h1 h2 h3 h4=>hc i c h1 h2 (R.back F (λz=>z hn) h3 h4) h4,?_⟩) λk c hk=>?_
   ·rw[R.is λz=>z hn]
    exact zzO F q e
   ·obtain⟨B,hB⟩:=first k c hk
    exact zlC E (xh λz=>hB e he.le z E.at') B
  ·exact bad k c hb λi h1 h2=>he.no i h1 (Nat.lt_trans h2 hk)
theorem zyF(R:zdX s f0 f1 f2 true no U)(F:Frn s f0 f1 f2)(p:Nat):lfN U p=lfN s p:=by
 have e:U[p+3]?=some 10↔s[p+3]?=some 10:=by
  constructor
  ·intro h
   refine zaO (R.low F h (by decide)) λc h1 h2=>?_;rcases h2 with h2|h2
   ·exact absurd h2.2 (by decide)
   ·rw[h1,h2.2.2.2]
  ·intro h
   obtain⟨h1,h3⟩:=R;rcases h3 _ _ h with h4|⟨_,h4,_⟩
   ·rwa[zn6 F (by decide) (by decide) (by decide)]at h4
   ·exact absurd rfl (zgl.mp h4).2.2
 unfold lfN;by_cases h:s[p+3]?=some 10
 ·rw[if_pos (zdy.mpr h),if_pos (zdy.mpr (e.mpr h))]
 ·rw[if_neg λz=>h (zdy.mp z),if_neg λz=>h (e.mp (zdy.mp z))]
end
noncomputable def Chr(l:List Nat):Prop:=∀c∈l,c<1114112
theorem Chr.app{a b:List Nat}(x:Chr a)(y:Chr b):Chr (a++b):=λc h=>(List.mem_append.mp h).elim (x c) (y c)
theorem Chr.cons{a:Nat}{b:List Nat}(x:a<1114112)(y:Chr b):Chr (a::b):=λc h=>(yz.mp h).elim (λe=>e▸x) (y c)
theorem Chr.nil:Chr []:=λc h=>zcx h
theorem Chr.cut{s:List Nat}(x:Chr s)(a b:Nat):Chr (cut s a b):=λc h=>by
 obtain⟨i,_,_,e⟩:=zh0 h;exact x c (yy e)
theorem Chr.of{l:List Nat}(h:(l.all λc=>decide (c<1114112))=true):Chr l:=λc hc=>yF (yO.mp h c hc)
theorem zrY{s:List Nat}(h1:s.length≤300000)(h2:Chr s):okT s=true:=by
 unfold okT;rw[decide_eq_true h1,Bool.true_and];refine yO.mpr λc hc=>?_;have hr:=StrLaws.reprText_len (mk [c]) λd hd=>by
  rw[zwR,List.mem_singleton]at hd;rw[hd];exact Nat.lt_trans (h2 c hc) (by decide)
 rw[zaI]at hr;rw[decide_eq_true (h2 c hc),Bool.true_and];exact yv (yk hr (show 12≤1000 by decide))
theorem zil{s:List Nat}(h:okT s=true):Chr s:=λc hc=>(ziv h hc).1
theorem zsl(i:Int):Chr (zbm i):=λc hc=>by
 unfold zbm at hc;rw[Str.ofString_eq_toList]at hc;simp only[List.mem_map]at hc;obtain⟨d,_,rfl⟩:=hc;have:=d.valid;unfold UInt32.isValidChar at this;rcases this with h|h
 ·exact Nat.lt_trans h (by decide)
 ·exact h.2
theorem zjJ{s m:List Nat}{p:Nat}(h:Chr m):Chr (zcH s p m):=by
 unfold zcH zaQ;refine((h.app (.of (by decide))).app ?_).app (.of (by decide));by_cases c:s.length≤p
 ·rw[if_pos c];exact .of (by decide)
 ·rw[if_neg c];exact(((Chr.of (by decide)).app (zsl _)).app (.of (by decide))).app (zsl _)
noncomputable def zza:R->Prop
 |.ok r=>Chr r.2
 |.error m=>Chr m
theorem zrN{c:Nat}(h:c∈zig):Chr (za2 [c]):=by
 have:∀c∈zig,((za2 [c]).all λc=>decide (c<1114112))=true:=by right
 exact .of (this c h)
theorem zpe{ml:Bool}{c:Nat}(h:[c]∈zfG ml):c∈zig:=by
 induction ml with
 |true=>exact(List.mem_filter.mp (zpA.mp (show[c]∈zkq from h))).1
 |false=>exact(List.mem_filter.mp (zpA.mp (show[c]∈zqF from h))).1
theorem zvG{i:Int}{l:List Nat}(h:Chr l):okD (.tup [.int i,.str l])=true:=by
 have h1:SeqAt.shaped (.str (mk l))=true:=zgP h;show SeqAt.shaped (.tuple [.int i,.str (mk l)])=true;unfold SeqAt.shaped PyData.canLay0 at h1⊢;simp[PyData.canLayAll0,PyData.canLay0,PyData.depth,PyData.depthAll]at h1⊢;exact h1
theorem ztx{s t:List Nat}{d p:Nat}(hd:d<1114112)(ht:Chr t):zza (zfC s d p t):=by
 unfold zfC;by_cases e1:cut s p (p+1)=[d]
 ·rw[if_pos e1]
  by_cases e2:cut s (p+1) (p+1+1)=[d]
  ·rw[if_pos e2];exact ht.app (.cons hd (.cons hd .nil))
  ·rw[if_neg e2];exact ht.app (.cons hd .nil)
 ·rw[if_neg e1];exact ht
noncomputable def toL:R->D
 |.ok r=>.tup [.int (r.1:Nat),.str r.2]
 |.error m=>.lst [.str m]
theorem zoB{l:List Nat}(h:Chr l):okD (.lst [.str l])=true:=by
 have h1:SeqAt.shaped (.str (mk l))=true:=zgP h;show SeqAt.shaped (.list [.str (mk l)])=true;unfold SeqAt.shaped PyData.canLay0 at h1⊢;simp[PyData.canLayAll0,PyData.canLay0,PyData.depth,PyData.depthAll]at h1⊢;exact h1
theorem ztp{r:R}(h:zza r):okD (toL r)=true:=by
 cases r with
 |ok r=>exact zvG h
 |error m=>exact zoB h
theorem zyz(r:R):eqD (toL r) (toL r)=true:=by
 induction r with
 |ok r=>
  show((((r.1:Nat):Int)==((r.1:Nat):Int))&&((mk r.2==mk r.2)&&true))=true;simp
 |error m=>
  show((mk m==mk m)&&true)=true;simp
theorem zmz{ml:Bool}{s:List Nat}{q:Nat}(hs:Chr s):zza (zjl ml s q):=by
 rcases zjK s ml 39 q with he|⟨e,he⟩
 ·rw[zmy he]
  refine zjJ (Chr.app (.of (by decide)) ?_)
  induction ml with
  |true=>exact .of (by right)
  |false=>exact .of (by right)
 ·rcases zhJ s (zfG ml) q e with hc|⟨k,c,hk,hb⟩
  ·rw[zjc he hc]
   induction ml with
   |true=>exact ztx (by decide) (hs.cut _ _)
   |false=>exact hs.cut _ _
  ·rw[zlC he hk hb]
   exact zjJ (Chr.app (.of (by decide)) (zrN (zpe hb.bad)))
noncomputable def zkv(m s:List Nat)(p:Nat):R:=if m=[39]then zrc s p else if m=[34]then zcv s false (p+1)else zkf s (decide (m=[39,39,39])) p
noncomputable def zsn:List (List Nat):=[[39],[34],[39,39,39],[34,34,34]]
noncomputable def zj0(l:List D):Option (List (Nat×Nat)):=match l with
 |[]=>some []
 |d::l=>match d.tstr? with
  |some ([c],b)=>match zj0 l with
   |some m=>some ((c,b)::m)
   |none=>none
  |_=>none
@[reducible]noncomputable def tkD(x:Nat×Nat):D:=.tstr [x.1] x.2
theorem zkP:∀{l:List D}{ns:List (Nat×Nat)},zj0 l=some ns->l=ns.map tkD
 |[],ns,h=>by obtain rfl:=yj h;rfl
 |d::l,ns,h=>by
  rw[zj0]at h;cases e1:d.tstr? with
  |none=>rw[e1]at h;exact zae h
  |some x=>
   obtain⟨x,b⟩:=x;rw[e1]at h;have e1:=D.tstr?_inv e1;rcases x with _|⟨c,_|⟨c',x⟩⟩
   ·exact zae h
   ·cases e2:zj0 l with
    |none=>rw[e2]at h;exact zae h
    |some m=>
     rw[e2]at h;obtain rfl:=yj h;rw[List.map_cons,←zkP e2,e1]
   ·exact zae h
theorem zjq:∀(ns:List (Nat×Nat)),zj0 (ns.map tkD)=some ns
 |[]=>rfl
 |i::ns=>by
  show(match zj0 (ns.map tkD)with|some m=>some ((i.1,i.2)::m)|none=>none)=_;rw[zjq ns]
noncomputable def tks?(d:D):Option (List (Nat×Nat)):=match d with
 |.lst l=>zj0 l
 |_=>none
theorem tks?_inv{d:D}{ns:List (Nat×Nat)}(h:tks? d=some ns):d=.lst (ns.map tkD):=by
 cases d<;>first|(exact zae h;done)|exact ya D.lst (zkP h)
noncomputable def cJ:Dc (List (Nat×Nat)):=⟨tks?,λns=>.lst (ns.map tkD),tks?_inv⟩
noncomputable def zCr{α β γ δ:Type}(A:Dc α)(B:Dc β)(C:Dc γ)(E:Dc δ)(k:α->β->γ->δ->zkh):Fn:=λds dk=>zdo A ds λx ds=>zdo B ds λy ds=>zdo C ds λz ds=>zdo E ds λu ds=>zng ds (zng dk (k x y z u))
theorem zwj{α β γ δ:Type}{A:Dc α}{B:Dc β}{C:Dc γ}{E:Dc δ}{ds dk:List D}{Q:D->Prop}{X:Err->Prop}{k:α->β->γ->δ->zkh}(h:zbu (zCr A B C E k ds dk) Q X):∃x y z u,ds=[A.to x,B.to y,C.to z,E.to u]∧dk=[]∧zbu (k x y z u) Q X:=by
 left;refine zfw (zbc h) λx r1 e1 g1=>?_;refine zfw (zbc g1) λy r2 e2 g2=>?_;refine zfw (zbc g2) λz r3 e3 g3=>?_;refine zfw (zbc g3) λu r4 e4 g4=>?_;obtain⟨e5,g5⟩:=zcK g4;refine zb0 (zcK g5) λe6 g6=>?_;exact⟨x,y,z,u,by rw[e1,e2,e3,e4,e5],e6,g6⟩
noncomputable def zpH(n:Nat)(s:List Nat)(l:List (Nat×Nat)):Bool:=decide (3≤l.length)&&(decide (l.map (·.1)).Nodup&&l.all λx=>decide (19968≤x.1∧x.1<1114112∧x.1∉s∧x.2≤n))
inductive Fg(n:Nat)(s:List Nat)(l:List (Nat×Nat))(f0 f1 f2 b0 b1 b2:Nat):Prop
 |mk (F:Frn s f0 f1 f2) (i0:l[0]?=some (f0,b0)) (i1:l[1]?=some (f1,b1)) (i2:l[2]?=some (f2,b2)) (h0:b0≤n) (h1:b1≤n) (h2:b2≤n)
theorem zwU{n:Nat}{s:List Nat}{l:List (Nat×Nat)}(h:zpH n s l=true):∃f0 f1 f2 b0 b1 b2,Fg n s l f0 f1 f2 b0 b1 b2:=by
 unfold zpH at h;obtain⟨h1,h⟩:=yw.mp h;obtain⟨h2,h3⟩:=yw.mp h;have h1:=yF h1;have h2:=yF h2;have h3:∀x∈l,_:=λx hx=>yF (yO.mp h3 x hx);rcases l with _|⟨⟨f0,b0⟩,_|⟨⟨f1,b1⟩,_|⟨⟨f2,b2⟩,l⟩⟩⟩
 ·exact absurd h1 (by decide)
 ·exact absurd (show 3≤1 from h1) (by decide)
 ·exact absurd (show 3≤2 from h1) (by decide)
 have a0:=h3 _ yq;have a1:=h3 _ (yn _ yq);have a2:=h3 _ (yn _ (yn _ yq));refine⟨f0,f1,f2,b0,b1,b2,⟨a0.1,a1.1,a2.1,a0.2.1,a1.2.1,a2.2.1,a0.2.2.1,a1.2.2.1,λz=>?_⟩,rfl,rfl,rfl,a0.2.2.2,a1.2.2.2,a2.2.2.2⟩;exact(List.nodup_cons.mp h2).1 (z▸yq)
noncomputable def zkm:List D->List D->PD:=λds dk Q _=>one cL ds λns=>zy8 dk (ns.length≤63∧∀t,Chr t->t.length≤200->Q (.str t))
noncomputable def zcO:Fn:=zzc cS cS cI λm s p=>gO (decide (m∈zsn)&&okB 340000 s p) (some (.ok (toL (zkv m s p.toNat))))
inductive zAI(ds dk:List D)(Q:D->Prop):Prop
 |mk (s:List Nat) (p:Nat) (e1:ds=[.str s,.str (zaQ s p++zlf)]) (e2:dk=[]) (hp:p<s.length) (hs:okT s=true) (hl:s.length≤5000) (q:Q (.int (p:Nat)))
@[irreducible]noncomputable def zdE:List D->List D->PD:=λds dk Q _=>zAI ds dk Q
noncomputable def zbL(n:Nat):Fn:=zzc cS cI cJ λs q l=>gO ((okT s&&decide (s.length≤200))&&(decide (1≤q∧q≤300)&&zpH n s l)) (some (.ok (toL (zn0 s q.toNat))))
noncomputable def zxL(m s:List Nat)(p:Nat):R:=if m=[39]then zrc s p else zkf s true p
noncomputable def zbw(n:Nat):Fn:=zCr cS cI cS cJ λs p m l=>gO ((okT s&&decide (s.length≤200))&&(decide (0≤p∧p≤300)&&(decide (m∈[[39],[39,39,39]])&&zpH n s l))) (some (.ok (toL (zxL m s p.toNat))))
noncomputable def zu2:Fn:=zBi cL λns=>gO (decide (ns.length≤63)) (some (.ok (.bool true)))
noncomputable def zfi:Ctr:=⟨110,true,[],zkm⟩
noncomputable def zcT:Ctr:=⟨110,true,[],λds dk=>zbu (zcO ds dk)⟩
noncomputable def zey:Ctr:=⟨110,true,[],zdE⟩
noncomputable def zc9(n:Nat):Ctr:=⟨120,true,[],λds dk=>zbu (zbL n ds dk)⟩
noncomputable def zct(n:Nat):Ctr:=⟨120,true,[],λds dk=>zbu (zbw n ds dk)⟩
noncomputable def zkj:D:=.fn (ofString "_law_text")
noncomputable def zor:D:=.fn (ofString "_law_read")
noncomputable def zfT:D:=.fn (ofString "_law_place")
noncomputable def zhi:D:=.fn (ofString "_law_by_one_mark")
noncomputable def zih:D:=.fn (ofString "_law_by_escapes")
noncomputable abbrev p8:Program:=PySem.Challenge.pw_kq0033_07
noncomputable def gl8:List (Str×D):=[(ofString "TOML_WS",zm1),(ofString "TOML_WS_AND_NEWLINE",zdT),(ofString "ILLEGAL_BASIC_STR_CHARS",zbQ),(ofString "ILLEGAL_LITERAL_STR_CHARS",zco),(ofString "ILLEGAL_MULTILINE_BASIC_STR_CHARS",zaX),(ofString "ILLEGAL_MULTILINE_LITERAL_STR_CHARS",zaR),(ofString "HEXDIGIT_CHARS",zfF),(ofString "suffixed_err",zkz),(ofString "skip_chars",znF),(ofString "is_unicode_scalar_value",zeQ),(ofString "parse_hex_char",ziR),(ofString "parse_basic_str_escape",zcW),(ofString "parse_basic_str_escape_multiline",zbF),(ofString "parse_basic_str",zh3),(ofString "parse_one_line_basic_str",zeu),(ofString "skip_until",zmX),(ofString "parse_literal_str",zg0),(ofString "parse_multiline_str",zgb)]
noncomputable def zbJ:List (Str×Ctr):=(ofString "parse_literal_str",zcS)::zb9
noncomputable def zck:Ctr:=⟨70,true,[ofString "literal"],λds dk=>zbu (zbM ds dk)⟩
noncomputable def zAH:List (Str×Ctr):=(ofString "parse_multiline_str",zck)::zbJ
noncomputable def zef:zak:=⟨zka p8 27,[ofString "src",ofString "pos",ofString "line",ofString "column"],0,false,false,[]⟩
section
variable{S:St0}(D0:Std S)(NG:NoG S)(G:Gl S gl8)(E0:zav S)
include D0 NG G E0
theorem znz:zaG S zef (zpZ p8 27) zeB:=
 (zac (zdP (zaW zaw (zaa (i:=1) (by rfl)) (zen D0 (by kernel_rfl) (NG _ (by right)) (by right) (by right) (zaa (i:=0) (by rfl)) zc6) zod) (zac (zbl (zaL (by rfl))) zal) zal) (zac (zas (i:=2) (by rfl) (zaA (zcA (zaa (i:=0) (by rfl)) (by(refine zaj ?_ ?_);(exact(zaL (by rfl)));(exact(zaj zaB (zaj (zaa (i:=1) (by rfl)) zaq)))) zqi (λh=>GM.count h) (by rfl)) zaB zan)) (zac (zdP (zaW zaw (zaa (i:=2) (by rfl)) zaB zdp) (zac (zas (i:=3) (by rfl) (zaA (zaa (i:=1) (by rfl)) zaB zan)) zal) (zac (zas (i:=3) (by rfl) (zaA (zaa (i:=1) (by rfl)) (zcA (zaa (i:=0) (by rfl)) (by(refine zaj ?_ ?_);(exact(zaL (by rfl)));(exact(zaj zaB (zaj (zaa (i:=1) (by rfl)) zaq)))) zoJ (λh=>GM.rindex h) (by rfl)) zfn)) zal)) (zac (zbl (zjo (zd9.cons (zaL (by rfl)) (zd9.cons (zi1 (zaa (i:=2) (by rfl))) (zd9.cons (zaL (by rfl)) (zd9.cons (zi1 (zaa (i:=3) (by rfl))) zd9.nil)))))) zal))))
noncomputable def zf6:zak:=⟨zap p8 27,[ofString "src",ofString "pos",ofString "msg",ofString "coord_repr"],10,false,true,[]⟩
theorem zky(TB:zaD S (zay zcG))(hlf:S.lf=zB3 p8 27 S)(hB:S.base.BuiltinsAt S.mg S.tab)(CL:zkG S 10 false (λds=>zbu (zcY ds []))):zaG S zf6 (zah p8 27) zeN:=
 (zac (zA7 D0 (i:=3) rfl (by rfl) hlf hB (by right) (by rfl) (by intro;rfl)) (zac (zbl (zxj D0 (by kernel_rfl) (zjo (zd9.cons (zi1 (zaa (i:=2) (by rfl))) (zd9.cons (zaL (by rfl)) (zd9.cons (zi1 (zCj (by decide) (by decide) CL (zaa (i:=3) (by rfl)) (zaj (zaa (i:=0) (by rfl)) (zaj (zaa (i:=1) (by rfl)) zaq)))) (zd9.cons (zaL (by rfl)) zd9.nil))))))) zal))
noncomputable def zhG:zak:=⟨zap p8 18,[ofString "src",ofString "pos",ofString "chars"],0,true,false,[]⟩
theorem znc(TB:zaD S (zay zeG)):zaG S zhG (zah p8 18) zfQ:=
 (zac (zkR D0 (zac (zhv (zaW zaw (zbe rfl (zaa (i:=0) (by rfl)) (zaa (i:=1) (by rfl))) (zaa (i:=2) (by rfl)) zr0) (zac (zc3 (i:=1) (by rfl) zaB zaU) zal)) zal) (znr.cons (HdS.plain (T:=.index) (by kernel_rfl) (λ_=>NG _ (by right)) (zac zzD zal)) znr.nil)) (zac (zbl (zaa (i:=1) (by rfl))) zal))
noncomputable def zcw:zak:=⟨zap p8 28,[ofString "codepoint"],0,true,false,[]⟩
theorem zeS(TB:zaD S (zay zbi)):zaG S zcw (zah p8 28) zbN:=
 (zac (zbl (zv1 zaw (zpt zaB (zaa (i:=0) (by rfl)) zaB zlQ zlQ) (zqc (zpt zaB (zaa (i:=0) (by rfl)) zaB zlQ zlQ)))) zal)
noncomputable def ze9:zak:=⟨zap p8 23,[ofString "src",ofString "pos",ofString "hex_len",ofString "hex_str",ofString "hex_int"],20,true,false,[]⟩
theorem ziT(TB:zaD S (zay zcL)):zaG S ze9 (zah p8 23) zdV:=
 (zac (zas (i:=3) (by rfl) (zbU (zaa (i:=0) (by rfl)) (zaE (zaa (i:=1) (by rfl))) (zaE (zaA (zaa (i:=1) (by rfl)) (zaa (i:=2) (by rfl)) zan)))) (zac (zdP (zsO (zaW zaw (zen D0 (by kernel_rfl) (NG _ (by right)) (by right) (by right) (zaa (i:=3) (by rfl)) zc6) (zaa (i:=2) (by rfl)) zhZ) (zsO (zfd (za0 zaw (zpP (zqJ D0 G (by kernel_rfl) (by rfl) (by rfl) (by right)) (zaj (zaa (i:=3) (by rfl)) zaq) zq0 FZ.slot_issuperset FZ.type_issuperset (by rfl)))) zur)) (zac (zhk D0 (ziY D0 G TB (c:=za6) (by kernel_rfl) (by kernel_rfl) rfl rfl (by decide) (by decide) (by kernel_rfl) (by right) (by(refine zaj ?_ ?_);(exact(zaa (i:=0) (by rfl)));(exact(zaj (zaa (i:=1) (by rfl)) (zaj (zaL (by rfl)) zaq)))) KwS.nil)) zal) zal) (zac (zc3 (i:=1) (by rfl) (zaa (i:=2) (by rfl)) zaU) (zac (zas (i:=4) (by rfl) (zgz D0 (by kernel_rfl) (NG _ (by right)) (by right) (by right) (zaj (zaa (i:=3) (by rfl)) (zaj zaB zaq)) zmg)) (zac (zdP (zfd (za0 zaw (ziY D0 G TB (c:=zbO) (by kernel_rfl) (by kernel_rfl) rfl rfl (by decide) (by decide) (by kernel_rfl) (by right) (zaj (zaa (i:=4) (by rfl)) zaq) KwS.nil))) (zac (zhk D0 (ziY D0 G TB (c:=za6) (by kernel_rfl) (by kernel_rfl) rfl rfl (by decide) (by decide) (by kernel_rfl) (by right) (by(refine zaj ?_ ?_);(exact(zaa (i:=0) (by rfl)));(exact(zaj (zaa (i:=1) (by rfl)) (zaj (zaL (by rfl)) zaq)))) KwS.nil)) zal) zal) (zac (zbl (zeC (zaj (zaa (i:=1) (by rfl)) (zaj (zpY D0 (by kernel_rfl) (NG _ (by right)) (by right) (by right) (zaj (zaa (i:=4) (by rfl)) zaq) zlA) zaq)))) zal))))))
noncomputable def zaV:zak:=⟨zap p8 21,[ofString "src",ofString "pos",ofString "multiline",ofString "escape_id",ofString "char"],30,true,false,[]⟩
theorem zcZ(TB:zaD S (zay zaZ)):zaG S zaV (zah p8 21) za1:=
 (zac (zas (i:=3) (by rfl) (zbU (zaa (i:=0) (by rfl)) (zaE (zaa (i:=1) (by rfl))) (zaE (zaA (zaa (i:=1) (by rfl)) zaB zan)))) (zac (zc3 (i:=1) (by rfl) zaB zaU) (zac (zdP (ziX (za0 zaw (zaa (i:=2) (by rfl))) (ziX (zre rfl (zaa (i:=3) (by rfl)) (zc4.cons (by rfl) (zc4.cons (by rfl) (zc4.cons (by rfl) zc4.nil))) (by decide) (by kernel_rfl) (by kernel_rfl)) zmO)) (zac (zdP (zaW zaw (zaa (i:=3) (by rfl)) (zaL (by rfl)) zhZ) (zac (zas (i:=1) (by rfl) (ziY D0 G TB (c:=zeE) (by kernel_rfl) (by kernel_rfl) rfl rfl (by decide) (by decide) (by kernel_rfl) (by right) (by(refine zaj ?_ ?_);(exact(zaa (i:=0) (by rfl)));(exact(zaj (zaa (i:=1) (by rfl)) (zaj (zqJ D0 G (by kernel_rfl) (by rfl) (by rfl) (by right)) zaq)))) KwS.nil)) (zac (zkR D0 (zac (zas (i:=4) (by rfl) (zbe rfl (zaa (i:=0) (by rfl)) (zaa (i:=1) (by rfl)))) zal) (znr.cons (HdS.plain (T:=.index) (by kernel_rfl) (λ_=>NG _ (by right)) (zac (zbl (zeC (zaj (zaa (i:=1) (by rfl)) (zaj (zaL (by rfl)) zaq)))) zal)) znr.nil)) (zac (zdP (zaW zaw (zaa (i:=4) (by rfl)) (zaL (by rfl)) zhZ) (zac (zhk D0 (ziY D0 G TB (c:=za6) (by kernel_rfl) (by kernel_rfl) rfl rfl (by decide) (by decide) (by kernel_rfl) (by right) (by(refine zaj ?_ ?_);(exact(zaa (i:=0) (by rfl)));(exact(zaj (zaa (i:=1) (by rfl)) (zaj (zaL (by rfl)) zaq)))) KwS.nil)) zal) zal) (zac (zc3 (i:=1) (by rfl) zaB zaU) zal)))) zal) (zac (zas (i:=1) (by rfl) (ziY D0 G TB (c:=zeE) (by kernel_rfl) (by kernel_rfl) rfl rfl (by decide) (by decide) (by kernel_rfl) (by right) (by(refine zaj ?_ ?_);(exact(zaa (i:=0) (by rfl)));(exact(zaj (zaa (i:=1) (by rfl)) (zaj (zqJ D0 G (by kernel_rfl) (by rfl) (by rfl) (by right)) zaq)))) KwS.nil)) (zac (zbl (zeC (zaj (zaa (i:=1) (by rfl)) (zaj (zaL (by rfl)) zaq)))) zal))) zal) (zac (zdP (zaW zaw (zaa (i:=3) (by rfl)) (zaL (by rfl)) zdp) (zac (zbl (ziY D0 G TB (c:=zcJ) (by kernel_rfl) (by kernel_rfl) rfl rfl (by decide) (by decide) (by kernel_rfl) (by right) (by(refine zaj ?_ ?_);(exact(zaa (i:=0) (by rfl)));(exact(zaj (zaa (i:=1) (by rfl)) (zaj zaB zaq)))) KwS.nil)) zal) zal) (zac (zdP (zaW zaw (zaa (i:=3) (by rfl)) (zaL (by rfl)) zdp) (zac (zbl (ziY D0 G TB (c:=zcJ) (by kernel_rfl) (by kernel_rfl) rfl rfl (by decide) (by decide) (by kernel_rfl) (by right) (by(refine zaj ?_ ?_);(exact(zaa (i:=0) (by rfl)));(exact(zaj (zaa (i:=1) (by rfl)) (zaj zaB zaq)))) KwS.nil)) zal) zal) (zac (zkR D0 (zac (zbl (zeC (zaj (zaa (i:=1) (by rfl)) (zaj (zAe D0 E0 (by kernel_rfl) (zaa (i:=3) (by rfl))) zaq)))) zal) (znr.cons (HdS.plain (T:=.key) (by kernel_rfl) (λ_=>NG _ (by right)) (zac (zfq D0 (ziY D0 G TB (c:=za6) (by kernel_rfl) (by kernel_rfl) rfl rfl (by decide) (by decide) (by kernel_rfl) (by right) (by(refine zaj ?_ ?_);(exact(zaa (i:=0) (by rfl)));(exact(zaj (zaa (i:=1) (by rfl)) (zaj (zaL (by rfl)) zaq)))) KwS.nil)) zal)) znr.nil)) zal))))))
noncomputable def zby:zak:=⟨zap p8 22,[ofString "src",ofString "pos"],40,true,false,[]⟩
theorem zc1(TB:zaD S (zay zaJ)):zaG S zby (zah p8 22) zbE:=
 (zac (zbl (ziY D0 G TB (c:=zbZ) (by kernel_rfl) (by kernel_rfl) rfl rfl (by decide) (by decide) (by kernel_rfl) (by right) (zaj (zaa (i:=0) (by rfl)) (zaj (zaa (i:=1) (by rfl)) zaq)) (KwS.cons zgC KwS.nil))) zal)
noncomputable def zeH:zak:=⟨zap p8 26,[ofString "src",ofString "pos",ofString "multiline",ofString "error_on",ofString "parse_escapes",ofString "result",ofString "start_pos",ofString "char",ofString "parsed_escape"],50,true,false,[]⟩
theorem zhY(TB:zaD S (zay zbv)):zaG S zeH (zah p8 26) zcu:=
 (zac (zdP (za0 zaw (zaa (i:=2) (by rfl))) (zac (zas (i:=3) (by rfl) (zqJ D0 G (by kernel_rfl) (by rfl) (by rfl) (by right))) (zac (zas (i:=4) (by rfl) (zqJ D0 G (by kernel_rfl) (by rfl) (by rfl) (by right))) zal)) (zac (zas (i:=3) (by rfl) (zqJ D0 G (by kernel_rfl) (by rfl) (by rfl) (by right))) (zac (zas (i:=4) (by rfl) (zqJ D0 G (by kernel_rfl) (by rfl) (by rfl) (by right))) zal))) (zac (zas (i:=5) (by rfl) (zaL (by rfl))) (zac (zas (i:=6) (by rfl) (zaa (i:=1) (by rfl))) (zac (zhv zA9 (zac (zkR D0 (zac (zas (i:=7) (by rfl) (zbe rfl (zaa (i:=0) (by rfl)) (zaa (i:=1) (by rfl)))) zal) (znr.cons (HdS.plain (T:=.index) (by kernel_rfl) (λ_=>NG _ (by right)) (zac (zfq D0 (ziY D0 G TB (c:=za6) (by kernel_rfl) (by kernel_rfl) rfl rfl (by decide) (by decide) (by kernel_rfl) (by right) (by(refine zaj ?_ ?_);(exact(zaa (i:=0) (by rfl)));(exact(zaj (zaa (i:=1) (by rfl)) (zaj (zaL (by rfl)) zaq)))) KwS.nil)) zal)) znr.nil)) (zac (zdP (zaW zaw (zaa (i:=7) (by rfl)) (zaL (by rfl)) zdp) (zac (zdP (zfd (za0 zaw (zaa (i:=2) (by rfl)))) (zac (zbl (zeC (zaj (zaA (zaa (i:=1) (by rfl)) zaB zan) (zaj (zaA (zaa (i:=5) (by rfl)) (zbU (zaa (i:=0) (by rfl)) (zaE (zaa (i:=6) (by rfl))) (zaE (zaa (i:=1) (by rfl)))) zan) zaq)))) zal) zal) (zac (zdP (za0 zaw (zcA (zaa (i:=0) (by rfl)) (zaj (zaL (by rfl)) (zaj (zaa (i:=1) (by rfl)) zaq)) zdt (λh=>GM.startswith h) (by rfl))) (zac (zbl (zeC (zaj (zaA (zaa (i:=1) (by rfl)) zaB zan) (zaj (zaA (zaa (i:=5) (by rfl)) (zbU (zaa (i:=0) (by rfl)) (zaE (zaa (i:=6) (by rfl))) (zaE (zaa (i:=1) (by rfl)))) zan) zaq)))) zal) zal) (zac (zc3 (i:=1) (by rfl) zaB zaU) (zac zw3 zal)))) zal) (zac (zdP (zaW zaw (zaa (i:=7) (by rfl)) (zaL (by rfl)) zdp) (zac (zc3 (i:=5) (by rfl) (zbU (zaa (i:=0) (by rfl)) (zaE (zaa (i:=6) (by rfl))) (zaE (zaa (i:=1) (by rfl)))) zaU) (zac (znH rfl (zbG.cons (i:=1) (by rfl) (zbG.cons (i:=8) (by rfl) zbG.nil)) (zBm rfl rfl TB (zaa (i:=4) (by rfl)) (zaj (zaa (i:=0) (by rfl)) (zaj (zaa (i:=1) (by rfl)) zaq)) KwS.nil)) (zac (zc3 (i:=5) (by rfl) (zaa (i:=8) (by rfl)) zaU) (zac (zas (i:=6) (by rfl) (zaa (i:=1) (by rfl))) (zac zw3 zal))))) zal) (zac (zdP (zaW zaw (zaa (i:=7) (by rfl)) (zaa (i:=3) (by rfl)) zr0) (zac (zhk D0 (ziY D0 G TB (c:=za6) (by kernel_rfl) (by kernel_rfl) rfl rfl (by decide) (by decide) (by kernel_rfl) (by right) (by(refine zaj ?_ ?_);(exact(zaa (i:=0) (by rfl)));(exact(zaj (zaa (i:=1) (by rfl)) (zaj (zjo (zd9.cons (zaL (by rfl)) (zd9.cons (zj2 (zaa (i:=7) (by rfl))) zd9.nil))) zaq)))) KwS.nil)) zal) zal) (zac (zc3 (i:=1) (by rfl) zaB zaU) zal)))))) zal))))
noncomputable def zcp:zak:=⟨zap p8 20,[ofString "src",ofString "pos"],60,true,false,[]⟩
theorem zew(TB:zaD S (zay zbb)):zaG S zcp (zah p8 20) zcy:=
 (zac (zc3 (i:=1) (by rfl) zaB zaU) (zac (zbl (ziY D0 G TB (c:=zcr) (by kernel_rfl) (by kernel_rfl) rfl rfl (by decide) (by decide) (by kernel_rfl) (by right) (zaj (zaa (i:=0) (by rfl)) (zaj (zaa (i:=1) (by rfl)) zaq)) (KwS.cons zgC KwS.nil))) zal))
noncomputable def zhy:zak:=⟨zap p8 19,[ofString "src",ofString "pos",ofString "expect",ofString "error_on",ofString "error_on_eof",ofString "new_pos"],20,true,false,[]⟩
theorem znP(TB:zaD S (zay zeF)):zaG S zhy (zah p8 19) zf3:=
 (zac (zkR D0 (zac (zas (i:=5) (by rfl) (zcA (zaa (i:=0) (by rfl)) (zaj (zaa (i:=2) (by rfl)) (zaj (zaa (i:=1) (by rfl)) zaq)) zq7 (λh=>GM.index h) (by rfl))) zal) (znr.cons (HdS.plain (T:=.value) (by kernel_rfl) (λ_=>NG _ (by right)) (zac (zas (i:=5) (by rfl) (zen D0 (by kernel_rfl) (NG _ (by right)) (by right) (by right) (zaa (i:=0) (by rfl)) zc6)) (zac (zdP (za0 zaw (zaa (i:=4) (by rfl))) (zac (zfq D0 (ziY D0 G TB (c:=za6) (by kernel_rfl) (by kernel_rfl) rfl rfl (by decide) (by decide) (by kernel_rfl) (by right) (by(refine zaj ?_ ?_);(exact(zaa (i:=0) (by rfl)));(exact(zaj (zaa (i:=5) (by rfl)) (zaj (zjo (zd9.cons (zaL (by rfl)) (zd9.cons (zj2 (zaa (i:=2) (by rfl))) zd9.nil))) zaq)))) KwS.nil)) zal) zal) zal))) znr.nil)) (zac (zdP (zfd (za0 zaw (zpP (zaa (i:=3) (by rfl)) (zaj (zbU (zaa (i:=0) (by rfl)) (zaE (zaa (i:=1) (by rfl))) (zaE (zaa (i:=5) (by rfl)))) zaq) zrJ FZ.slot_isdisjoint FZ.type_isdisjoint (by rfl)))) (zac (zhv (zaW zaw (zbe rfl (zaa (i:=0) (by rfl)) (zaa (i:=1) (by rfl))) (zaa (i:=3) (by rfl)) zpI) (zac (zc3 (i:=1) (by rfl) zaB zaU) zal)) (zac (zhk D0 (ziY D0 G TB (c:=za6) (by kernel_rfl) (by kernel_rfl) rfl rfl (by decide) (by decide) (by kernel_rfl) (by right) (by(refine zaj ?_ ?_);(exact(zaa (i:=0) (by rfl)));(exact(zaj (zaa (i:=1) (by rfl)) (zaj (zjo (zd9.cons (zaL (by rfl)) (zd9.cons (zj2 (zbe rfl (zaa (i:=0) (by rfl)) (zaa (i:=1) (by rfl)))) zd9.nil))) zaq)))) KwS.nil)) zal)) zal) (zac (zbl (zaa (i:=5) (by rfl))) zal)))
noncomputable def zd0:zak:=⟨zap p8 24,[ofString "src",ofString "pos",ofString "start_pos"],30,true,false,[]⟩
theorem zgU(TB:zaD S (zay zb9)):zaG S zd0 (zah p8 24) zcP:=
 (zac (zc3 (i:=1) (by rfl) zaB zaU) (zac (zas (i:=2) (by rfl) (zaa (i:=1) (by rfl))) (zac (zas (i:=1) (by rfl) (ziY D0 G TB (c:=zeI) (by kernel_rfl) (by kernel_rfl) rfl rfl (by decide) (by decide) (by kernel_rfl) (by right) (by(refine zaj ?_ ?_);(exact(zaa (i:=0) (by rfl)));(exact(zaj (zaa (i:=1) (by rfl)) (zaj (zaL (by rfl)) zaq)))) (KwS.cons (zqJ D0 G (by kernel_rfl) (by rfl) (by rfl) (by right)) (KwS.cons zgC KwS.nil)))) (zac (zbl (zeC (zaj (zaA (zaa (i:=1) (by rfl)) zaB zan) (zaj (zbU (zaa (i:=0) (by rfl)) (zaE (zaa (i:=2) (by rfl))) (zaE (zaa (i:=1) (by rfl)))) zaq)))) zal))))
noncomputable def zdi:zak:=⟨zap p8 25,[ofString "src",ofString "pos",ofString "literal",ofString "delim",ofString "end_pos",ofString "result"],60,true,false,[]⟩
theorem zfX(TB:zaD S (zay zbJ)):zaG S zdi (zah p8 25) zcj:=
 (zac (zc3 (i:=1) (by rfl) zaB zaU) (zac (zdP (za0 zaw (zcA (zaa (i:=0) (by rfl)) (zaj (zaL (by rfl)) (zaj (zaa (i:=1) (by rfl)) zaq)) zdt (λh=>GM.startswith h) (by rfl))) (zac (zc3 (i:=1) (by rfl) zaB zaU) zal) zal) (zac (zdP (za0 zaw (zaa (i:=2) (by rfl))) (zac (zas (i:=3) (by rfl) (zaL (by rfl))) (zac (zas (i:=4) (by rfl) (ziY D0 G TB (c:=zeI) (by kernel_rfl) (by kernel_rfl) rfl rfl (by decide) (by decide) (by kernel_rfl) (by right) (by(refine zaj ?_ ?_);(exact(zaa (i:=0) (by rfl)));(exact(zaj (zaa (i:=1) (by rfl)) (zaj (zaL (by rfl)) zaq)))) (KwS.cons (zqJ D0 G (by kernel_rfl) (by rfl) (by rfl) (by right)) (KwS.cons zgC KwS.nil)))) (zac (zas (i:=5) (by rfl) (zbU (zaa (i:=0) (by rfl)) (zaE (zaa (i:=1) (by rfl))) (zaE (zaa (i:=4) (by rfl))))) (zac (zas (i:=1) (by rfl) (zaA (zaa (i:=4) (by rfl)) zaB zan)) zal)))) (zac (zas (i:=3) (by rfl) (zaL (by rfl))) (zac (znH rfl (zbG.cons (i:=1) (by rfl) (zbG.cons (i:=5) (by rfl) zbG.nil)) (ziY D0 G TB (c:=zcr) (by kernel_rfl) (by kernel_rfl) rfl rfl (by decide) (by decide) (by kernel_rfl) (by right) (zaj (zaa (i:=0) (by rfl)) (zaj (zaa (i:=1) (by rfl)) zaq)) (KwS.cons zgC KwS.nil))) zal))) (zac (zdP (zfd (za0 zaw (zcA (zaa (i:=0) (by rfl)) (zaj (zaa (i:=3) (by rfl)) (zaj (zaa (i:=1) (by rfl)) zaq)) zdt (λh=>GM.startswith h) (by rfl)))) (zac (zbl (zeC (zaj (zaa (i:=1) (by rfl)) (zaj (zaa (i:=5) (by rfl)) zaq)))) zal) zal) (zac (zc3 (i:=1) (by rfl) zaB zaU) (zac (zdP (zfd (za0 zaw (zcA (zaa (i:=0) (by rfl)) (zaj (zaa (i:=3) (by rfl)) (zaj (zaa (i:=1) (by rfl)) zaq)) zdt (λh=>GM.startswith h) (by rfl)))) (zac (zbl (zeC (zaj (zaa (i:=1) (by rfl)) (zaj (zaA (zaa (i:=5) (by rfl)) (zaa (i:=3) (by rfl)) zan) zaq)))) zal) zal) (zac (zc3 (i:=1) (by rfl) zaB zaU) (zac (zbl (zeC (zaj (zaa (i:=1) (by rfl)) (zaj (zaA (zaa (i:=5) (by rfl)) (zaA (zaa (i:=3) (by rfl)) zaB zpj) zan) zaq)))) zal))))))))
noncomputable def zBh:D->Nat
 |.tstr _ b=>b
 |_=>0
noncomputable def JT(es:List D)(k:Nat):Prop:=1≤k∧∀d∈es,zBh d≤k
end
theorem zwl:Grows JT:=λes k k' h j=>⟨yk j.1 h,λd hd=>yk (j.2 d hd) h⟩
section
variable{S:St0}{sh:zak}
@[reducible]noncomputable def zwB(cs:PEs):PE:=λQ X st=>cs (λrs st₁=>one cI (rs.map Res.d) λi=>0≤i∧i≤1114111∧∀b,Q (.pl (.tstr [i.toNat] b)) st₁) X st
theorem zyM(D0:Std S){x:Str}{np pos:Pos}{e:Expr}{es':List Expr}{cs:PEs}(hx:sh.scope.names.lookup x=some .globalImplicit)(hg:S.mg x=none)(hn:x≠"__name__")(hb:bootBuiltins x=some (.builtin "chr"))(H:zbT S sh (e::es') cs)
  (hplain:∀env,(backTo pos (starEach (e::es') env)).any (·.1)=false)(he:∀env,starEach (e::es') env=(false,eval e env)::starEach es' env)(hd:(x==("__debug__":Str))=false):zoX JT S sh (.Call (.Name x np) (e::es') [] pos) (zwB cs):=λa ow st s Q X es hJ f R q=>by
 show wpAny _ _ (do callWith pos (←eval (.Name x np) a.env) [] (backTo pos (starEach (e::es') a.env)) (backToKw pos (keywordEach [] a.env))) _ _ _;refine yl (zcm f hx (D0.g.keeps (R.stays f)) (D0.b.keeps (R.stays f)) hg ((D0.blt x hn).trans hb) ?_ hd);refine Calls.callWith_builtin (hplain _) ?_;have hb':backTo pos (starEach (e::es') a.env)=(false,eval e a.env)::backTo pos (starEach es' a.env):=by rw[he];rfl
 have hgo:=H pos a _ st s _ X f R q;rw[hb']at hgo⊢;refine Calls.evalArgs_plain (yt (wpAny_toks hgo) (λvs s₂ h=>?_) λ_ _ x=>x.2);left;obtain⟨hn2,rs,st₂,g1,K,g3⟩:=h;show wpAny _ _ (call (.builtin "chr") ([]++vs)) _ _ _;rw[List.nil_append];refine zaO (zfs g1) λi e1 g1=>?_;have c:=g3.cs;rw[e1]at c;refine zaO (zd2 c) λv hzz h1=>?_;subst hzz;obtain⟨u,rfl⟩:=h1.int;refine chr_of_range g1.1 g1.2.1 ?_;exact⟨.pl (.tstr [i.toNat] (s₂.toks+1)),st₂,⟨g1.2.2 _,λe he=>by
  obtain rfl:=yj he;refine⟨yG (yb _),λd hd=>?_⟩;rcases List.mem_append.mp hd with q|q
  ·exact yk (hJ.2 d q) (yk hn2 (yi _))
  ·rw[List.mem_singleton.mp q];exact yr _⟩,K.trans zhs,⟨.tstr (yA hJ.1 hn2) (yS _),λz=>zaF z⟩⟩
@[reducible]noncomputable def zwA(i:Nat)(c:PE)(is:List Nat)(t:PT)(b:PE)(cs:Nat->PS):PS:=λQ X st=>zao i (zhW c is t b) (λfl st₁=>∀es st0,fl=.next->st₁=zuo i (.fr es) st0->∀k,1≤k->(∀d∈es,zBh d≤k)->cs k Q X st₁) X st
theorem zrF{scope:Scope}{K:Str}{cs:List Str}{is:List Nat}{i:Nat}{x:Str}{p':Pos}{elt iter:Expr}{ifs:List Expr}{px pos spos:Pos}{c:PE}{t:PT}{b:PE}{ts:List Stmt}{c2:Nat->PS}(hi:sh.names[i]?=some x)(hcalm:sh.calm=true)(hO:zjt sh scope K cs is=true)(H:zau S sh iter c)(Ht:zww S (sh.comp scope K cs) ifs t)(Hb:zoX JT S (sh.comp scope K cs) elt b)
  (hs:∀env x,foldedSetIterable iter env x=pure x)(Hs:∀k,1≤k->zdj k S sh ts (c2 k)):zdj 1 S sh (.Assign [.Name x p'] (.ListComp elt [⟨.Name K px,iter,ifs,0⟩] scope pos) spos::ts) (zwA i c is t b c2):=λa ow st s Q X hn g R q=>by
 refine wpAny_execs_cons (yt (zqv zwl (λk hk=>⟨hk,λd hd=>zcx hd⟩) hi hcalm hO H Ht Hb hs hn g R q) (λfl s₁ h=>?_) λ_ _ x=>x);left;obtain⟨fl',ow',st',⟨h1,es,st0,rfl,hst,hJ⟩,h2,h3⟩:=h
 induction fl<;>first|exact h3.elim|exact Hs _ hJ.1 a ow' st' s₁ Q X (yr _) g h2 (h1 es st0 rfl hst s₁.toks hJ.1 hJ.2)
end
section
variable{S:St0}{sh:zak}
theorem zqI:zc8 S sh (inplaceOp .FloorDiv) zqp:=λa ow st s v1a v2a d1 d2 Q X f R h1 h2 q=>by
 refine zfB (zed q) λx y e1 e2 q=>?_;rw[e1]at h1;rw[e2]at h2;left;obtain⟨t,rfl⟩:=h1.int;obtain⟨u,rfl⟩:=h2.int;exact AutoIntOps.ifloordiv_1 (λz=>q.1 (beq_iff_eq.mp z)) (by rw[q.2.1];decide) (zbI R q.2.2)
noncomputable def zyR(d:D)(Q:Res->Prop)(_:Err->Prop):Prop:=match d with
 |.lst _=>Q (.pl (.bool true))
 |.tup _=>Q (.pl (.bool false))
 |_=>False
theorem zm2:zlF S sh (λv=>call (.builtin "isinstance") [v,.type "list"]) zyR:=λa ow st s v d Q X f R h q=>by
 left;cases d<;>first
  |exact q.elim
  |skip
 ·obtain⟨b,o,vs,n,rfl,g1,g2,g3,g4⟩:=zes.tup h
  have q:Q (.pl (.bool false)):=q;exact call_isinstance (isinstance_false_tuple (by right) zpq.ty F.sub_tuple_list) ⟨⟨o,g1,g2⟩,zcs R q⟩
 ·obtain⟨b,o,vs,n,rfl,g1,g2,g3,g4⟩:=zes.lst h
  have q:Q (.pl (.bool true)):=q;exact call_isinstance_yes (Tx:="list") ⟨o,g1,g2⟩ zpq.ty AutoSeq1.sub_list_list (zcs (tk:=s.toks) R q)
end
theorem zc5.cons{n₀:Nat}{S:St0}{l:List (Str×Ctr)}{n:Str}{c:Ctr}{a:Addr}{o:Obj}{fd:FuncData}(hm:S.mg n=some (.ref a))(ho:S.base.get? a=some o)(hd:o.data=.func fd)(h:zyd n₀ S (.ref a) c.rank c.calm c.kws c.Φ)(t:zc5 n₀ S (zay l)):zc5 n₀ S (zay ((n,c)::l)):=⟨λn' c' v h1 h2=>by
 unfold zay at h1;by_cases e:n'=n
 ·subst e
  rw[List.lookup_cons_self]at h1;obtain rfl:=yj h1;rw[hm]at h2;obtain rfl:=yj h2;exact⟨h,a,o,fd,rfl,ho,hd⟩
 ·rw[List.lookup,show(n'==n)=false from by simpa using e]at h1
  exact t.ok n' c' v h1 h2⟩
theorem ztC{S:St0}(D0:Std S){sh:zak}{n:Str}{a:Addr}{o:Obj}{params:Arguments}{body:List Stmt}{scope:Scope}{pm cd doc dV kV:Value}{ps rest:List Str}{c:PS}{F:Fn}{n₀:Nat}{l:List (Str×Ctr)}
  (hm:S.mg n=some (.ref a))(ho:S.base.get? a=some o)(hd:o.data=.func {docDef n params body scope pm cd doc with defaults:=dV,kwdefaults:=kV})(hcd:S.base.CodeRec cd n)
  (hco:scope.isCoroutine=false)(hgen:scope.isGenerator=false)(hk:scope.kind=.function)(hsc:sh.scope=scope)(hkeys:∀n,(cellsFrom n scope.names []).map (·.1)=sh.cells)(hcl:(sh.cells.all λx=>sh.scope.names.lookup x==some .cell)=true)
  (hnames:sh.names=ps++rest)(hloc:(sh.names.all λx=>sh.scope.names.lookup x==some .local)=true)(hnd:sh.all.Nodup)
  (hbind:∀(s:Shared)(vs:List Value),vs.length=ps.length->BindsTo s {docDef n params body scope pm cd doc with defaults:=dV,kwdefaults:=kV} ⟨vs,[]⟩ (ps.zip vs))
  (H:zdj n₀ S sh body c)(k:∀ds dk Q X,zbu (F ds dk) Q X->dk=[]∧ds.length=ps.length∧c (zmD Q) (λx _=>X x) (start ds rest.length++List.replicate sh.cells.length (.cel none)))
  (hin:sh.inner=false)(t:zc5 n₀ S (zay l)):zc5 n₀ S (zay ((n,⟨sh.rank+10,sh.calm,[],λds dk=>zbu (F ds dk)⟩)::l)):=by
 have T:=zpT (F:=λds dk=>zbu (F ds dk)) D0 ho hd hcd hco hgen hk hsc hkeys hcl hnames hloc hnd hbind H k hin;refine zc5.cons hm ho hd (λA fr hands P s vs ks ds dk Q X hn C hv hk' hl q=>?_) t;have h0:=(k _ _ _ _ q).1;subst h0;exact T A fr hands P s vs ds Q X hn C hv q
section
set_option maxHeartbeats 2000000
noncomputable def zbp:List (Str×Ctr):=zAH
noncomputable def zcQ:List (Str×Ctr):=(ofString "_law_text",zfi)::zbp
noncomputable def zb2:List (Str×Ctr):=(ofString "_law_read",zcT)::zcQ
noncomputable def zgH:List (Str×Ctr):=(ofString "_law_place",zey)::zb2
noncomputable abbrev za9:List (Str×Ctr):=zgH
noncomputable abbrev zbd:List (Str×Ctr):=zgH
noncomputable def zzZ(n:Nat):List (Str×Ctr):=(ofString "_law_by_one_mark",zc9 n)::zgH
noncomputable def zk0(n:Nat):List (Str×Ctr):=(ofString "_law_by_escapes",zct n)::zzZ n
noncomputable def zf8:List (Str×D):=(ofString "_law_text",zkj)::(ofString "_law_read",zor)::(ofString "_law_place",zfT)::(ofString "_law_by_one_mark",zhi)::(ofString "_law_by_escapes",zih)::gl8
noncomputable def zb3:zak:=⟨zap p8 30,[ofString "script",ofString "pieces",ofString "chosen",ofString "x",ofString "left",ofString "digits_v",ofString "digit",ofString "kind",ofString "sign",ofString "half"],100,true,false,[]⟩
@[reducible]noncomputable def zhH:PS:=(zao 1 (zfM (zab (zai (.str [39])) (zab (zai (.str [92])) (zab (zai (.str [10])) (zab (zai (.str [39,39])) (zab (zai (.str [34])) (zab (zai (.str [39,39,39])) (zab (zai (.str [34,34,34])) (zab (zai (.str [92,39])) (zab (zai (.str [0])) (zab (zai (.str [127])) (zab (zai (.str [13])) (zab (zai (.str [9])) (zab (zai (.str [97])) (zab (zai (.str [92,110])) zag))))))))))))))))
section
variable{S:St0}(D0:Std S)(NG:NoG S)(G:Gl S zf8)(E0:zav S)(N0:ClsAt S.mg S.base)
include D0 NG G E0 N0
theorem zl8(TB:zaD S (zay zbp)):zbk S zb3 ((zah p8 30).getD 0 default) (zhH):=(by(refine zas (i:=1) ?_ ?_ ?_);(rfl);(exact(by(refine ze7 ?_);(exact(by(refine zaj ?_ ?_);(exact(zaL (by rfl)));(exact(by(refine zaj ?_ ?_);(exact(zaL (by rfl)));(exact(by(refine zaj ?_ ?_);(exact(zaL (by rfl)));(exact(by(refine zaj ?_ ?_);(exact(zaL (by rfl)));(exact(by(refine zaj ?_ ?_);(exact(zaL (by rfl)));(exact(by(refine zaj ?_ ?_);(exact(zaL (by rfl)));(exact(by(refine zaj ?_ ?_);(exact(zaL (by rfl)));(exact(by(refine zaj ?_ ?_);(exact(zaL (by rfl)));(exact(by(refine zaj ?_ ?_);(exact(zaL (by rfl)));(exact(by(refine zaj ?_ ?_);(exact(zaL (by rfl)));(exact(by(refine zaj ?_ ?_);(exact(zaL (by rfl)));(exact(by(refine zaj ?_ ?_);(exact(zaL (by rfl)));(exact(zaj (zaL (by rfl)) (zaj (zaL (by rfl)) zaq)))))))))))))))))))))))))))));(intro;kernel_rfl))
@[reducible]noncomputable def zhb:PS:=(zao 2 (zfM zag))
theorem zmw(TB:zaD S (zay zbp)):zbk S zb3 ((zah p8 30).getD 1 default) (zhb):=(zas (i:=2) (by rfl) (ze7 zaq))
@[reducible]noncomputable def zeV:PS:=(zao 4 (pe2 (zBb (zdf (pe2 (zad 3) (zai (.int 0)) (zqA λx y=>decide (x ≥ y)))) (pe2 (zai (.int 2)) (zad 3) zz1) (pe2 (pe2 (pe1 (zai (.int 2)) zxD) (zad 3) zz1) (zai (.int 1)) zss)) (pe2 (zai (.int 17793024)) (zai (.int 12)) zBS) zxw))
@[reducible]noncomputable def zdz:PS:=(zao 5 (zfM (zab (pe2 (zad 4) (zai (.int 17793024)) zxw) zag)))
@[reducible]noncomputable def zkB:PS:=(zdZ 4 (zai (.int 17793024)) zqp)
@[reducible]noncomputable def zkx:PS:=(zmA 5 (pe2 (zad 4) (zai (.int 17793024)) zxw))
@[reducible]noncomputable def zdA:PS:=(zeX (zdf (pe2 (zad 4) (zai (.int 17793024)) (zqA λx y=>decide (x ≥ y)))) (zaf zkB (zaf zkx zam)))
@[reducible]noncomputable def zeU:PS:=(zjD [8,7] (zep (zab (pe2 (zad 6) (zai (.int 16)) zxw) (zab (pe2 (zad 6) (zai (.int 16)) zqp) zag))))
@[reducible]noncomputable def zeW:PS:=(zmA 2 (zBb (zdf (pe2 (zad 7) (zai (.int 14)) (zqA λx y=>decide (x<y)))) (zbD (zad 1) (zad 7)) (peN (zab (zBb (zdf (pe2 (zad 8) (zai (.int 55296)) (zqA λx y=>decide (x<y)))) (zad 8) (pe2 (zad 8) (zai (.int 2048)) zde)) zag) zBc)))
@[reducible]noncomputable def zdB:PS:=(zoi 6 (zad 5) (zaf zeU (zaf zeW zam)))
@[reducible]noncomputable def zhF:PS:=(zoi 3 (zzn (zad 0) (zfM (zab (zai (.int 3)) (zab (zai (.int 6)) (zab (pe1 (zai (.int 5)) zxD) zag))))) (zaf zeV (zaf zdz (zaf zdA (zaf zdB zam)))))
theorem zlr(TB:zaD S (zay zbp)):zbk S zb3 ((zah p8 30).getD 2 default) (zhF):=(zwO (i:=3) rfl (by rfl) (zv1 zaw (zaa (i:=0) (by rfl)) (zqc (by(refine ze7 ?_);(exact(by(refine zaj ?_ ?_);(exact zaB);(exact(zaj zaB (zaj (zut zaB zjd) zaq)))))))) (zac (zas (i:=4) (by rfl) (zaA (zxH (zaW zaw (zaa (i:=3) (by rfl)) zaB zod) (zaA zaB (zaa (i:=3) (by rfl)) zjV) (zaA (zaA (zut zaB zjd) (zaa (i:=3) (by rfl)) zjV) zaB zfn)) (zaA zaB zaB zvZ) zi0)) (zac (zas (i:=5) (by rfl) (ze7 (zaj (zaA (zaa (i:=4) (by rfl)) zaB zi0) zaq))) (zac (zhv (zaW zaw (zaa (i:=4) (by rfl)) zaB zod) (zac (zc3 (i:=4) (by rfl) zaB zqI) (zac (znK (i:=5) (by rfl) (zaA (zaa (i:=4) (by rfl)) zaB zi0) (by rfl)) zal))) (zac (zwO (i:=6) rfl (by rfl) (zaa (i:=5) (by rfl)) (zac (zkK (names:=[ofString "kind",ofString "sign"]) rfl (zeD.cons (i:=8) (by rfl) (zeD.cons (i:=7) (by rfl) zeD.nil)) (zeC (zaj (zaA (zaa (i:=6) (by rfl)) zaB zi0) (zaj (zaA (zaa (i:=6) (by rfl)) zaB zmJ) zaq))) (λa f=>by unfold swappedStores Env.blockKind Env.kindOf;rw[f.scope];kernel_rfl)) (zac (znK (i:=2) (by rfl) (zxH (zaW zaw (zaa (i:=7) (by rfl)) zaB zog) (zbe rfl (zaa (i:=1) (by rfl)) (zaa (i:=7) (by rfl))) (zpY D0 (by kernel_rfl) (NG _ (by right)) (by right) (by right) (zaj (zxH (zaW zaw (zaa (i:=8) (by rfl)) zaB zog) (zaa (i:=8) (by rfl)) (zaA (zaa (i:=8) (by rfl)) zaB zan)) zaq) zlA)) (by rfl)) zal))) zal)))))
@[reducible]noncomputable def zfk:PS:=(zao 2 (zfy zh6 (zad 2) zf7 (zf0 (zai (.int 40)))))
theorem zmr(TB:zaD S (zay zbp)):zbk S zb3 ((zah p8 30).getD 3 default) (zfk):=(zas (i:=2) (by rfl) (zhg (zaa (i:=2) (by rfl)) zgF (zaE zaB)))
@[reducible]noncomputable def zfg:PS:=(zao 9 (pe2 (pe2 (pe1 (zad 2) zri) (zai (.int 1)) zde) (zai (.int 2)) zqp))
theorem zme(TB:zaD S (zay zbp)):zbk S zb3 ((zah p8 30).getD 4 default) (zfg):=(zas (i:=9) (by rfl) (zaA (zaA (zen D0 (by kernel_rfl) (NG _ (by right)) (by right) (by right) (zaa (i:=2) (by rfl)) zc6) zaB zan) zaB zmJ))
@[reducible]noncomputable def zfr:PS:=(zbt (pe2 (pe2 (pe2 (zai (.str [10,39,39,39])) (zcI (zai (.str [])) (zab (zfy zh6 (zad 2) zf7 (zf0 (zad 9))) zag) zwd) zde) (zai (.str [39,39,39,39])) zde) (zcI (zai (.str [])) (zab (zfy zh6 (zad 2) (zf0 (zad 9)) zf7) zag) zwd) zde))
theorem zmx(TB:zaD S (zay zbp)):zbk S zb3 ((zah p8 30).getD 5 default) (zfr):=(zbl (zaA (zaA (zaA (zaL (by rfl)) (by(refine zcA ?_ ?_ znJ (λh=>GM.join h) ?_ ?_ ?_);(exact(zaL (by rfl)));(exact(zaj (zhg (zaa (i:=2) (by rfl)) zgF (zaE (zaa (i:=9) (by rfl)))) zaq));(rfl);(intro;kernel_rfl);(intro;kernel_rfl)) zan) (zaL (by rfl)) zan) (by(refine zcA ?_ ?_ znJ (λh=>GM.join h) ?_ ?_ ?_);(exact(zaL (by rfl)));(exact(zaj (zhg (zaa (i:=2) (by rfl)) (zaE (zaa (i:=9) (by rfl))) zgF) zaq));(rfl);(intro;kernel_rfl);(intro;kernel_rfl)) zan))
end
theorem zoQ:zah p8 30=[(zah p8 30).getD 0 default,(zah p8 30).getD 1 default,(zah p8 30).getD 2 default,(zah p8 30).getD 3 default,(zah p8 30).getD 4 default,(zah p8 30).getD 5 default]:=by kernel_rfl
@[reducible]noncomputable def zgQ:PS:=(zaf (zhH) (zaf (zhb) (zaf (zhF) (zaf (zfk) (zaf (zfg) (zaf (zfr) zam))))))
section
variable{S:St0}(D0:Std S)(NG:NoG S)(G:Gl S zf8)(E0:zav S)(N0:ClsAt S.mg S.base)
include D0 NG G E0 N0
theorem zom(TB:zaD S (zay zbp)):zaG S zb3 (zah p8 30) (zgQ):=by
 have h0:=@zl8 S D0 NG G E0 N0 TB;have h1:=@zmw S D0 NG G E0 N0 TB;have h2:=@zlr S D0 NG G E0 N0 TB;have h3:=@zmr S D0 NG G E0 N0 TB;have h4:=@zme S D0 NG G E0 N0 TB;have h5:=@zmx S D0 NG G E0 N0 TB;rw[zoQ];generalize (zah p8 30).getD 0 default=t0 at h0⊢;generalize (zah p8 30).getD 1 default=t1 at h1⊢;generalize (zah p8 30).getD 2 default=t2 at h2⊢;generalize (zah p8 30).getD 3 default=t3 at h3⊢;generalize (zah p8 30).getD 4 default=t4 at h4⊢;generalize (zah p8 30).getD 5 default=t5 at h5⊢;exact(zac h0 (zac h1 (zac h2 (zac h3 (zac h4 (zac h5 zal))))))
noncomputable def zgg:zak:=⟨zap p8 31,[ofString "marks",ofString "text",ofString "place",ofString "error"],100,true,false,[]⟩
@[reducible]noncomputable def zhd:PS:=(znX (zaf (zeA (zdf (pe2 (zad 0) (zai (.str [39])) eqP)) (zaf (zbt (peK zb8 (zab (zad 1) (zab (zad 2) zag)) zag)) zam) zam) (zaf (zeA (zdf (pe2 (zad 0) (zai (.str [34])) eqP)) (zaf (zbt (peK zba (zab (zad 1) (zab (zad 2) zag)) zag)) zam) zam) (zaf (zbt (peK zbM (zab (zad 1) (zab (zad 2) zag)) (zab (pe2 (zad 0) (zai (.str [39,39,39])) eqP) zag))) zam))) [⟨.toml,some 3,(zaf (zbt (zfM (zab (peN (zab (zad 3) zag) zBL) zag))) zam)⟩])
theorem zlV(TB:zaD S (zay zcQ)):zbk S zgg ((zah p8 31).getD 0 default) (zhd):=(zkR D0 (zac (zdP (zaW zaw (zaa (i:=0) (by rfl)) (zaL (by rfl)) zdp) (zac (zbl (ziY D0 G TB (c:=zcS) (by kernel_rfl) (by kernel_rfl) rfl rfl (by decide) (by decide) (by kernel_rfl) (by right) (zaj (zaa (i:=1) (by rfl)) (zaj (zaa (i:=2) (by rfl)) zaq)) KwS.nil)) zal) zal) (zac (zdP (zaW zaw (zaa (i:=0) (by rfl)) (zaL (by rfl)) zdp) (zac (zbl (ziY D0 G TB (c:=zbH) (by kernel_rfl) (by kernel_rfl) rfl rfl (by decide) (by decide) (by kernel_rfl) (by right) (zaj (zaa (i:=1) (by rfl)) (zaj (zaa (i:=2) (by rfl)) zaq)) KwS.nil)) zal) zal) (zac (zbl (ziY D0 G TB (c:=zck) (by kernel_rfl) (by kernel_rfl) rfl rfl (by decide) (by decide) (by kernel_rfl) (by right) (zaj (zaa (i:=1) (by rfl)) (zaj (zaa (i:=2) (by rfl)) zaq)) (KwS.cons (zz3 (zaa (i:=0) (by rfl)) (zaL (by rfl)) zdp) KwS.nil))) zal))) (znr.cons (HdS.named (T:=.toml) (i:=3) (by kernel_rfl) (λh=>absurd rfl h) (by rfl) (zac (zbl (ze7 (zaj (zgz D0 (by kernel_rfl) (NG _ (by right)) (by right) (by right) (zaj (zaa (i:=3) (by rfl)) zaq) (ztF D0 N0)) zaq))) zal)) znr.nil))
end
theorem zoa:zah p8 31=[(zah p8 31).getD 0 default]:=by kernel_rfl
@[reducible]noncomputable def zg5:PS:=(zaf (zhd) zam)
section
variable{S:St0}(D0:Std S)(NG:NoG S)(G:Gl S zf8)(E0:zav S)(N0:ClsAt S.mg S.base)
include D0 NG G E0 N0
theorem zow(TB:zaD S (zay zcQ)):zaG S zgg (zah p8 31) (zg5):=by
 have h0:=@zlV S D0 NG G E0 N0 TB;rw[zoa];generalize (zah p8 31).getD 0 default=t0 at h0⊢;exact(zac h0 zal)
noncomputable def zd7:zak:=⟨zap p8 32,[ofString "text",ofString "where",ofString "line",ofString "column"],100,true,false,[]⟩
@[reducible]noncomputable def zgG:PS:=(zhr [2,3] (zcI (zb4 (zad 1) (zf0 (zai (.int 5))) (zf0 (pe1 (zai (.int 1)) zxD))) (zab (zai (.str [44,32,99,111,108,117,109,110,32])) zag) zj8))
theorem zkA(TB:zaD S (zay zb2)):zbk S zd7 ((zah p8 32).getD 0 default) (zgG):=(zia rfl (zbG.cons (i:=2) (by rfl) (zbG.cons (i:=3) (by rfl) zbG.nil)) (zcA (zbU (zaa (i:=1) (by rfl)) (zaE zaB) (zaE (zut zaB zjd))) (zaj (zaL (by rfl)) zaq) ze3 (λh=>GM.split h) (by rfl)))
@[reducible]noncomputable def zgy:PS:=(zbt (pe2 (pe2 (peN (zab (zhW (zfy zh6 (zcI (zad 0) (zab (zai (.str [10])) zag) zj8) zf7 (zf0 (pe2 (peN (zab (zad 2) zag) intD) (zai (.int 1)) zss))) [] zxT (pe2 (pe1 (zad 0) zri) (zai (.int 1)) zde)) zag) (zBY true)) (peN (zab (zad 3) zag) intD) zde) (zai (.int 1)) zss))
theorem zks(TB:zaD S (zay zb2)):zbk S zd7 ((zah p8 32).getD 1 default) (zgy):=(zbl (zaA (zaA (zpY D0 (by kernel_rfl) (NG _ (by right)) (by right) (by right) (zaj (by(refine zu4 (K:=ofString "row") (cs:=[]) (is:=[]) rfl (by kernel_rfl) ?_ ?_ ?_ ?_);(exact(zhg (zcA (zaa (i:=0) (by rfl)) (zaj (zaL (by rfl)) zaq) ze3 (λh=>GM.split h) (by rfl)) zgF (zaE (zaA (zgz D0 (by kernel_rfl) (NG _ (by right)) (by right) (by right) (zaj (zaa (i:=2) (by rfl)) zaq) zmg) zaB zfn))));(exact zxV);(exact(zaA (zen D0 (by kernel_rfl) (NG _ (by right)) (by right) (by right) (zaa (i:=0) (by rfl)) zc6) zaB zan));(intro _ _;kernel_rfl)) zaq) zuR) (zgz D0 (by kernel_rfl) (NG _ (by right)) (by right) (by right) (zaj (zaa (i:=3) (by rfl)) zaq) zmg) zan) zaB zfn))
end
theorem zmL:zah p8 32=[(zah p8 32).getD 0 default,(zah p8 32).getD 1 default]:=by kernel_rfl
@[reducible]noncomputable def zfU:PS:=(zaf (zgG) (zaf (zgy) zam))
section
variable{S:St0}(D0:Std S)(NG:NoG S)(G:Gl S zf8)(E0:zav S)(N0:ClsAt S.mg S.base)
include D0 NG G E0 N0
theorem zm3(TB:zaD S (zay zb2)):zaG S zd7 (zah p8 32) (zfU):=by
 have h0:=@zkA S D0 NG G E0 N0 TB;have h1:=@zks S D0 NG G E0 N0 TB;rw[zmL];generalize (zah p8 32).getD 0 default=t0 at h0⊢;generalize (zah p8 32).getD 1 default=t1 at h1⊢;exact(zac h0 (zac h1 zal))
noncomputable def zbf:zak:=⟨zap p8 33,[ofString "text",ofString "first",ofString "foreign",ofString "row",ofString "at",ofString "done",ofString "refused",ofString "turn",ofString "told",ofString "spot",ofString "words",ofString "where",ofString "rows",ofString "more",ofString "signs"],110,true,false,[]⟩
@[reducible]noncomputable def zd6(n:Nat):PS:=(zao 3 (pe2 (zai (.str [39])) (zmc n (zb4 (zad 0) (zf0 (zad 1)) zf7) [10] (zbD (zad 2) (zai (.int 0)))) zde))
theorem zgx(TB:zaD S (zay za9))(n:Nat)(hn0:0<n):zix n S zbf ((zah p8 33).getD 0 default) (zd6 n):=(zeh (i:=3) (by rfl) (zt3 (zau.t (zaL (by rfl))) (zlx (zau.t (zbU (zaa (i:=0) (by rfl)) (zaE (zaa (i:=1) (by rfl))) zgF)) (zbe rfl (zaa (i:=2) (by rfl)) zaB) (by rfl) (by rfl) (by intro;kernel_rfl) (by intro;kernel_rfl) (by intro;kernel_rfl) (by intro;rfl)) zan) (by intro;kernel_rfl))
@[reducible]noncomputable def zd3(n:Nat):PS:=(zjD [6,5,4] (zep (zab (zai (.int 0)) (zab (zai (.str [])) (zab (zfM zag) zag)))))
theorem zgu(TB:zaD S (zay za9))(n:Nat)(hn0:0<n):zbk S zbf ((zah p8 33).getD 1 default) (zd3 n):=(zkK (names:=[ofString "at",ofString "done",ofString "refused"]) rfl (zeD.cons (i:=6) (by rfl) (zeD.cons (i:=5) (by rfl) (zeD.cons (i:=4) (by rfl) zeD.nil))) (by(refine zeC ?_);(exact(by(refine zaj ?_ ?_);(exact zaB);(exact(zaj (zaL (by rfl)) (zaj (ze7 zaq) zaq)))))) (λa f=>by unfold swappedStores Env.blockKind Env.kindOf;rw[f.scope];kernel_rfl))
@[reducible]noncomputable def zcn(n:Nat):PS:=(zao 8 (peK zcO (zab (zai (.str [39])) (zab (zad 3) (zab (zad 4) zag))) zag))
@[reducible]noncomputable def zdK(n:Nat):PS:=(zhr [10,11] (zcI (zbD (zad 8) (zai (.int 0))) (zab (zai (.str [32,40,97,116,32])) zag) zj8))
@[reducible]noncomputable def zcg(n:Nat):PS:=(zeA (zdf (pe2 (zad 11) (zai (.str [101,110,100,32,111,102,32,100,111,99,117,109,101,110,116,41])) eqP)) (zaf (zbt (zfM (zab (zkU (zbD (zad 8) (zai (.int 0))) [39] [39,39,39]) zag))) zam) zam)
@[reducible]noncomputable def zcl(n:Nat):PS:=(zao 9 (peC (zay za9) 110 true (zai zfT) (zab (zad 3) (zab (zad 11) zag)) [] zag))
@[reducible]noncomputable def zdS(n:Nat):PS:=(zao 12 (zcI (zb4 (zad 0) zf7 (zf0 (pe2 (pe2 (zad 1) (zai (.int 1)) zss) (zad 9) zde))) (zab (zai (.str [10])) zag) zj8))
@[reducible]noncomputable def zdQ(n:Nat):PS:=(zao 6 (zfM (zab (pe2 (pe2 (pe2 (pe2 (pe2 (zad 10) (zai (.str [32,40,97,116,32,108,105,110,101,32])) zde) (peN (zab (pe1 (zad 12) zri) zag) zBl) zde) (zai (.str [44,32,99,111,108,117,109,110,32])) zde) (peN (zab (pe2 (pe1 (zbD (zad 12) (pe1 (zai (.int 1)) zxD)) zri) (zai (.int 1)) zde) zag) zBl) zde) (zai (.str [41])) zde) zag)))
@[reducible]noncomputable def zcf(n:Nat):PS:=(zeA (zdf (pe2 (zad 6) (zfM zag) eqP)) (zaf (zdS n) (zaf (zdQ n) zam)) zam)
@[reducible]noncomputable def zbK(n:Nat):PS:=(zao 3 (pe2 (pe2 (zb4 (zad 3) zf7 (zf0 (zad 9))) (zsE (zbD (zad 2) (zai (.int 1)))) zde) (zb4 (zad 3) (zf0 (pe2 (zad 9) (zai (.int 1)) zde)) zf7) zde))
@[reducible]noncomputable def zdN(n:Nat):PS:=(zao 13 (zai (.int 0)))
@[reducible]noncomputable def zfV(n:Nat):PS:=(zdZ 13 (zai (.int 1)) zec)
@[reducible]noncomputable def zdk(n:Nat):PS:=(zeX (zs1 (zdf (pe2 (zad 13) (zai (.int 2)) (zqA λx y=>decide (x<y)))) (zs1 (zdf (zcI (zad 3) (zab (zai (.str [39])) (zab (pe2 (pe2 (zbD (zad 8) (zai (.int 0))) (zai (.int 2)) zde) (zad 13) zde) zag)) zdW)) (zt5 true))) (zaf (zfV n) zam))
@[reducible]noncomputable def zfN(n:Nat):PS:=(zao 14 (pe2 (zlG n (pe2 (zad 5) (zbD (zad 8) (zai (.int 1))) zde) (zbD (zad 2) (zai (.int 0))) [10]) (pe2 (zai (.str [39])) (zad 13) zzd) zde))
@[reducible]noncomputable def zfK(n:Nat):PS:=(zbt (zzn (zad 6) (zep (zab (pe2 (pe2 (pe2 (zad 1) (zbD (zad 8) (zai (.int 0))) zde) (zai (.int 1)) zde) (zad 13) zde) (zab (zad 14) zag)))))
@[reducible]noncomputable def zfH(n:Nat):PS:=(zdZ 5 (pe2 (zbD (zad 8) (zai (.int 1))) (zai (.str [39])) zde) zec)
@[reducible]noncomputable def zfJ(n:Nat):PS:=(zao 4 (pe2 (zbD (zad 8) (zai (.int 0))) (zai (.int 1)) zss))
@[reducible]noncomputable def zaM(n:Nat):PS:=(zeA (zdf (pe1 (zad 8) zyR)) (zaf (zdK n) (zaf (zcg n) (zaf (zcl n) (zaf (zcf n) (zaf (zbK n) zam))))) (zaf (zeA (zdf (zcI (zad 3) (zab (zai (.str [39,39,39])) (zab (pe2 (zbD (zad 8) (zai (.int 0))) (zai (.int 1)) zss) zag)) zdW)) (zaf (zdN n) (zaf (zdk n) (zaf (zfN n) (zaf (zfK n) zam)))) (zaf (zfH n) (zaf (zfJ n) zam))) zam))
@[reducible]noncomputable def zd4(n:Nat):PS:=(zoi 7 (peN (zab (pe2 (pe2 (zai (.int 2)) (pe1 (zad 0) zri) zz1) (zai (.int 9)) zde) zag) zjY) (zaf (zcn n) (zaf (zaM n) zam)))
theorem zgt(TB:zaD S (zay za9))(n:Nat)(hn0:0<n):zix n S zbf ((zah p8 33).getD 2 default) (zd4 n):=(zlB (i:=7) rfl (by rfl) (zau.t (zgz D0 (by kernel_rfl) (NG _ (by right)) (by right) (by right) (zaj (zaA (zaA zaB (zen D0 (by kernel_rfl) (NG _ (by right)) (by right) (by right) (zaa (i:=0) (by rfl)) zc6) zjV) zaB zan) zaq) zgp)) (zaz (zbk.t (zas (i:=8) (by rfl) (ziY D0 G TB (c:=zcT) (by kernel_rfl) (by kernel_rfl) rfl rfl (by decide) (by decide) (by kernel_rfl) (by right) (by(refine zaj ?_ ?_);(exact(zaL (by rfl)));(exact(zaj (zaa (i:=3) (by rfl)) (zaj (zaa (i:=4) (by rfl)) zaq)))) KwS.nil))) (zaz (zha (zdg.t (za0 zaw (zsI D0 zm2 (by kernel_rfl) (NG _ (by right)) (by kernel_rfl) (NG _ (by right)) (by right) (by right) (zaa (i:=8) (by rfl)) (by intro;rfl) (by intro;rfl) (by decide)))) (zaz (zbk.t (zia rfl (zbG.cons (i:=10) (by rfl) (zbG.cons (i:=11) (by rfl) zbG.nil)) (zcA (zbe rfl (zaa (i:=8) (by rfl)) zaB) (zaj (zaL (by rfl)) zaq) ze3 (λh=>GM.split h) (by rfl)))) (zaz (zha (zdg.t (zaW zaw (zaa (i:=11) (by rfl)) (zaL (by rfl)) zdp)) (zaz (ztR (zop (zhN (zhK hn0 (zau.t (zbe rfl (zaa (i:=8) (by rfl)) zaB)) (by rfl) (by rfl) (by right) (by rfl) (by intro;kernel_rfl) (by intro;kernel_rfl) (by intro;kernel_rfl)) (zbT.t zaq) (by intro;rfl)))) (zaG.t zal)) (zaG.t zal)) (zaG.t (zac (zas (i:=9) (by rfl) (zBm rfl rfl TB (zqJ D0 G (by kernel_rfl) (by rfl) (by rfl) (by right)) (zaj (zaa (i:=3) (by rfl)) (zaj (zaa (i:=11) (by rfl)) zaq)) KwS.nil)) (zac (zdP (zaW zaw (zaa (i:=6) (by rfl)) (ze7 zaq) zdp) (zac (zas (i:=12) (by rfl) (zcA (zbU (zaa (i:=0) (by rfl)) zgF (zaE (zaA (zaA (zaa (i:=1) (by rfl)) zaB zfn) (zaa (i:=9) (by rfl)) zan))) (zaj (zaL (by rfl)) zaq) ze3 (λh=>GM.split h) (by rfl))) (zac (zas (i:=6) (by rfl) (ze7 (zaj (zaA (zaA (zaA (zaA (zaA (zaa (i:=10) (by rfl)) (zaL (by rfl)) zan) (zgz D0 (by kernel_rfl) (NG _ (by right)) (by right) (by right) (zaj (zen D0 (by kernel_rfl) (NG _ (by right)) (by right) (by right) (zaa (i:=12) (by rfl)) zc6) zaq) zpx) zan) (zaL (by rfl)) zan) (zgz D0 (by kernel_rfl) (NG _ (by right)) (by right) (by right) (zaj (zaA (zen D0 (by kernel_rfl) (NG _ (by right)) (by right) (by right) (zbe rfl (zaa (i:=12) (by rfl)) (zut zaB zjd)) zc6) zaB zan) zaq) zpx) zan) (zaL (by rfl)) zan) zaq))) zal)) zal) (zac (zas (i:=3) (by rfl) (zaA (zaA (zbU (zaa (i:=3) (by rfl)) zgF (zaE (zaa (i:=9) (by rfl)))) (zr3 (zbe rfl (zaa (i:=2) (by rfl)) zaB)) zan) (zbU (zaa (i:=3) (by rfl)) (zaE (zaA (zaa (i:=9) (by rfl)) zaB zan)) zgF) zan)) zal)))))) (zaz (zha (zdg.t (za0 zaw (by(refine zcA ?_ ?_ zdt (λh=>GM.startswith h) ?_ ?_ ?_);(exact(zaa (i:=3) (by rfl)));(exact(zaj (zaL (by rfl)) (zaj (zaA (zbe rfl (zaa (i:=8) (by rfl)) zaB) zaB zfn) zaq)));(rfl);(intro;kernel_rfl);(intro;kernel_rfl)))) (zaz (zbk.t (zas (i:=13) (by rfl) zaB)) (zaz (zbk.t (zhv (ziX (zaW zaw (zaa (i:=13) (by rfl)) zaB zog) (ziX (za0 zaw (by(refine zcA ?_ ?_ zdt (λh=>GM.startswith h) ?_ ?_ ?_);(exact(zaa (i:=3) (by rfl)));(exact(zaj (zaL (by rfl)) (zaj (zaA (zaA (zbe rfl (zaa (i:=8) (by rfl)) zaB) zaB zan) (zaa (i:=13) (by rfl)) zan) zaq)));(rfl);(intro;kernel_rfl);(intro;kernel_rfl))) zmO)) (zac (zc3 (i:=13) (by rfl) zaB zaU) zal))) (zaz (zeh (i:=14) (by rfl) (zt3 (zmt (zau.t (zaA (zaa (i:=5) (by rfl)) (zbe rfl (zaa (i:=8) (by rfl)) zaB) zan)) (zbe rfl (zaa (i:=2) (by rfl)) zaB) (by rfl) (by rfl) (by intro;kernel_rfl) (by intro;kernel_rfl) (by intro;kernel_rfl) (by intro;rfl)) (zau.t (zaA (zaL (by rfl)) (zaa (i:=13) (by rfl)) zpj)) zan) (by intro;kernel_rfl)) (zaG.t (zac (zbl (zv1 zaw (zaa (i:=6) (by rfl)) (zqc (zeC (zaj (zaA (zaA (zaA (zaa (i:=1) (by rfl)) (zbe rfl (zaa (i:=8) (by rfl)) zaB) zan) zaB zan) (zaa (i:=13) (by rfl)) zan) (zaj (zaa (i:=14) (by rfl)) zaq)))))) zal))))) (zaG.t (zac (zc3 (i:=5) (by rfl) (zaA (zbe rfl (zaa (i:=8) (by rfl)) zaB) (zaL (by rfl)) zan) zaU) (zac (zas (i:=4) (by rfl) (zaA (zbe rfl (zaa (i:=8) (by rfl)) zaB) zaB zfn)) zal)))) (zaG.t zal))) (zaG.t zal))) (by intros;rfl))
@[reducible]noncomputable def zd5(n:Nat):PS:=(zbt (zfM zag))
theorem zgv(TB:zaD S (zay za9))(n:Nat)(hn0:0<n):zbk S zbf ((zah p8 33).getD 3 default) (zd5 n):=(zbl (ze7 zaq))
end
theorem zhC:zah p8 33=[(zah p8 33).getD 0 default,(zah p8 33).getD 1 default,(zah p8 33).getD 2 default,(zah p8 33).getD 3 default]:=by kernel_rfl
@[reducible]noncomputable def zdb(n:Nat):PS:=(zaf (zd6 n) (zaf (zd3 n) (zaf (zd4 n) (zaf (zd5 n) zam))))
section
variable{S:St0}(D0:Std S)(NG:NoG S)(G:Gl S zf8)(E0:zav S)(N0:ClsAt S.mg S.base)
include D0 NG G E0 N0
theorem zhf(TB:zaD S (zay za9))(n:Nat)(hn0:0<n):zdj n S zbf (zah p8 33) (zdb n):=by
 have h0:=@zgx S D0 NG G E0 N0 TB n hn0;have h1:=@zgu S D0 NG G E0 N0 TB n hn0;have h2:=@zgt S D0 NG G E0 N0 TB n hn0;have h3:=@zgv S D0 NG G E0 N0 TB n hn0;rw[zhC];generalize (zah p8 33).getD 0 default=t0 at h0⊢;generalize (zah p8 33).getD 1 default=t1 at h1⊢;generalize (zah p8 33).getD 2 default=t2 at h2⊢;generalize (zah p8 33).getD 3 default=t3 at h3⊢;exact(zaz h0 (zaz (zbk.t h1) (zaz h2 (zaz (zbk.t h3) (zaG.t zal)))))
noncomputable def zbn:zak:=⟨zap p8 34,[ofString "text",ofString "place",ofString "marks",ofString "foreign",ofString "other",ofString "refused",ofString "turn",ofString "told",ofString "spot",ofString "signs",ofString "words",ofString "where"],110,true,false,[]⟩
@[reducible]noncomputable def zek(n:Nat):PS:=(zao 4 (zkU (zmc n (zmc n (zad 0) [34] (zbD (zad 3) (zai (.int 0)))) [92] (zbD (zad 3) (zai (.int 1)))) [39] [34]))
theorem zgY(TB:zaD S (zay zbd))(n:Nat)(hn0:0<n):zix n S zbn ((zah p8 34).getD 0 default) (zek n):=(zeh (i:=4) (by rfl) (zhK hn0 (zlx (zlx (zau.t (zaa (i:=0) (by rfl))) (zbe rfl (zaa (i:=3) (by rfl)) zaB) (by rfl) (by rfl) (by intro;kernel_rfl) (by intro;kernel_rfl) (by intro;kernel_rfl) (by intro;rfl)) (zbe rfl (zaa (i:=3) (by rfl)) zaB) (by rfl) (by rfl) (by intro;kernel_rfl) (by intro;kernel_rfl) (by intro;kernel_rfl) (by intro;rfl)) (by rfl) (by rfl) (by right) (by rfl) (by intro;kernel_rfl) (by intro;kernel_rfl) (by intro;kernel_rfl)) (by intro;kernel_rfl))
@[reducible]noncomputable def zeq(n:Nat):PS:=(zao 5 (zfM zag))
theorem zgJ(TB:zaD S (zay zbd))(n:Nat)(hn0:0<n):zbk S zbn ((zah p8 34).getD 1 default) (zeq n):=(zas (i:=5) (by rfl) (ze7 zaq))
@[reducible]noncomputable def zcB(n:Nat):PS:=(zao 7 (peK zcO (zab (zkU (zad 2) [39] [34]) (zab (zad 4) (zab (zad 1) zag))) zag))
@[reducible]noncomputable def zgw(n:Nat):PS:=(zao 9 (zlG n (zlG n (zkU (zbD (zad 7) (zai (.int 1))) [34] [39]) (zbD (zad 3) (zai (.int 0))) [34]) (zbD (zad 3) (zai (.int 1))) [92]))
@[reducible]noncomputable def zgs(n:Nat):PS:=(zbt (zzn (zad 5) (zep (zab (zbD (zad 7) (zai (.int 0))) (zab (zad 9) zag)))))
@[reducible]noncomputable def zaS(n:Nat):PS:=(zeA (ziq (zdf (pe1 (zad 7) zyR))) (zaf (zgw n) (zaf (zgs n) zam)) zam)
@[reducible]noncomputable def zd1(n:Nat):PS:=(zhr [10,11] (zcI (zbD (zad 7) (zai (.int 0))) (zab (zai (.str [32,40,97,116,32])) zag) zj8))
@[reducible]noncomputable def zcC(n:Nat):PS:=(zeA (zdf (pe2 (zad 10) (zai (.str [85,110,116,101,114,109,105,110,97,116,101,100,32,115,116,114,105,110,103])) eqP)) (zaf (zbt (zfM (zab (pe2 (pe2 (pe2 (zai (.str [69,120,112,101,99,116,101,100,32,34])) (zad 2) zde) (zai (.str [34,32,40,97,116,32])) zde) (zad 11) zde) zag))) zam) zam)
@[reducible]noncomputable def zcz(n:Nat):PS:=(zeA (zdf (pe2 (zad 5) (zfM zag) eqP)) (zaf (zao 5 (zfM (zab (zkU (zbD (zad 7) (zai (.int 0))) [73,108,108,101,103,97,108] [70,111,117,110,100,32,105,110,118,97,108,105,100]) zag))) zam) zam)
@[reducible]noncomputable def zbW(n:Nat):PS:=(zao 8 (peC (zay zbd) 110 true (zai zfT) (zab (zad 4) (zab (zad 11) zag)) [] zag))
@[reducible]noncomputable def zbV(n:Nat):PS:=(zao 4 (pe2 (pe2 (zb4 (zad 4) zf7 (zf0 (zad 8))) (zsE (zbD (zad 3) (zai (.int 2)))) zde) (zb4 (zad 4) (zf0 (pe2 (zad 8) (zai (.int 1)) zde)) zf7) zde))
@[reducible]noncomputable def zem(n:Nat):PS:=(zoi 6 (peN (zab (pe2 (pe1 (zad 0) zri) (zai (.int 9)) zde) zag) zjY) (zaf (zcB n) (zaf (zaS n) (zaf (zd1 n) (zaf (zcC n) (zaf (zcz n) (zaf (zbW n) (zaf (zbV n) zam))))))))
theorem zgX(TB:zaD S (zay zbd))(n:Nat)(hn0:0<n):zix n S zbn ((zah p8 34).getD 2 default) (zem n):=(zlB (i:=6) rfl (by rfl) (zau.t (zgz D0 (by kernel_rfl) (NG _ (by right)) (by right) (by right) (zaj (zaA (zen D0 (by kernel_rfl) (NG _ (by right)) (by right) (by right) (zaa (i:=0) (by rfl)) zc6) zaB zan) zaq) zgp)) (zaz (zeh (i:=7) (by rfl) (ztS D0 G TB.n (c:=zcT) (by kernel_rfl) (by kernel_rfl) rfl rfl (by decide) (by decide) (by kernel_rfl) (by right) (zhN (zhK hn0 (zau.t (zaa (i:=2) (by rfl))) (by rfl) (by rfl) (by right) (by rfl) (by intro;kernel_rfl) (by intro;kernel_rfl) (by intro;kernel_rfl)) (zbT.t (zaj (zaa (i:=4) (by rfl)) (zaj (zaa (i:=1) (by rfl)) zaq))) (by intro;rfl)) KwS.nil (by intro;rfl)) (by intro;kernel_rfl)) (zaz (zha (zdg.t (zfd (za0 zaw (zsI D0 zm2 (by kernel_rfl) (NG _ (by right)) (by kernel_rfl) (NG _ (by right)) (by right) (by right) (zaa (i:=7) (by rfl)) (by intro;rfl) (by intro;rfl) (by decide))))) (zaz (zeh (i:=9) (by rfl) (zmt (zmt (zhK hn0 (zau.t (zbe rfl (zaa (i:=7) (by rfl)) zaB)) (by rfl) (by rfl) (by right) (by rfl) (by intro;kernel_rfl) (by intro;kernel_rfl) (by intro;kernel_rfl)) (zbe rfl (zaa (i:=3) (by rfl)) zaB) (by rfl) (by rfl) (by intro;kernel_rfl) (by intro;kernel_rfl) (by intro;kernel_rfl) (by intro;rfl)) (zbe rfl (zaa (i:=3) (by rfl)) zaB) (by rfl) (by rfl) (by intro;kernel_rfl) (by intro;kernel_rfl) (by intro;kernel_rfl) (by intro;rfl)) (by intro;kernel_rfl)) (zaG.t (zac (zbl (zv1 zaw (zaa (i:=5) (by rfl)) (zqc (zeC (zaj (zbe rfl (zaa (i:=7) (by rfl)) zaB) (zaj (zaa (i:=9) (by rfl)) zaq)))))) zal))) (zaG.t zal)) (zaz (zbk.t (zia rfl (zbG.cons (i:=10) (by rfl) (zbG.cons (i:=11) (by rfl) zbG.nil)) (zcA (zbe rfl (zaa (i:=7) (by rfl)) zaB) (zaj (zaL (by rfl)) zaq) ze3 (λh=>GM.split h) (by rfl)))) (zaz (zbk.t (zdP (zaW zaw (zaa (i:=10) (by rfl)) (zaL (by rfl)) zdp) (zac (zbl (ze7 (zaj (zaA (zaA (zaA (zaL (by rfl)) (zaa (i:=2) (by rfl)) zan) (zaL (by rfl)) zan) (zaa (i:=11) (by rfl)) zan) zaq))) zal) zal)) (zaz (zha (zdg.t (zaW zaw (zaa (i:=5) (by rfl)) (ze7 zaq) zdp)) (zaz (zeh (i:=5) (by rfl) (zop (zhN (zhK hn0 (zau.t (zbe rfl (zaa (i:=7) (by rfl)) zaB)) (by rfl) (by rfl) (by right) (by rfl) (by intro;kernel_rfl) (by intro;kernel_rfl) (by intro;kernel_rfl)) (zbT.t zaq) (by intro;rfl))) (by intro;kernel_rfl)) (zaG.t zal)) (zaG.t zal)) (zaG.t (zac (zas (i:=8) (by rfl) (zBm rfl rfl TB (zqJ D0 G (by kernel_rfl) (by rfl) (by rfl) (by right)) (zaj (zaa (i:=4) (by rfl)) (zaj (zaa (i:=11) (by rfl)) zaq)) KwS.nil)) (zac (zas (i:=4) (by rfl) (zaA (zaA (zbU (zaa (i:=4) (by rfl)) zgF (zaE (zaa (i:=8) (by rfl)))) (zr3 (zbe rfl (zaa (i:=3) (by rfl)) zaB)) zan) (zbU (zaa (i:=4) (by rfl)) (zaE (zaA (zaa (i:=8) (by rfl)) zaB zan)) zgF) zan)) zal)))))))) (by intros;rfl))
@[reducible]noncomputable def zel(n:Nat):PS:=(zbt (zfM zag))
theorem zgI(TB:zaD S (zay zbd))(n:Nat)(hn0:0<n):zbk S zbn ((zah p8 34).getD 3 default) (zel n):=(zbl (ze7 zaq))
end
theorem zhX:zah p8 34=[(zah p8 34).getD 0 default,(zah p8 34).getD 1 default,(zah p8 34).getD 2 default,(zah p8 34).getD 3 default]:=by kernel_rfl
@[reducible]noncomputable def zdl(n:Nat):PS:=(zaf (zek n) (zaf (zeq n) (zaf (zem n) (zaf (zel n) zam))))
section
variable{S:St0}(D0:Std S)(NG:NoG S)(G:Gl S zf8)(E0:zav S)(N0:ClsAt S.mg S.base)
include D0 NG G E0 N0
theorem zii(TB:zaD S (zay zbd))(n:Nat)(hn0:0<n):zdj n S zbn (zah p8 34) (zdl n):=by
 have h0:=@zgY S D0 NG G E0 N0 TB n hn0;have h1:=@zgJ S D0 NG G E0 N0 TB n hn0;have h2:=@zgX S D0 NG G E0 N0 TB n hn0;have h3:=@zgI S D0 NG G E0 N0 TB n hn0;rw[zhX];generalize (zah p8 34).getD 0 default=t0 at h0⊢;generalize (zah p8 34).getD 1 default=t1 at h1⊢;generalize (zah p8 34).getD 2 default=t2 at h2⊢;generalize (zah p8 34).getD 3 default=t3 at h3⊢;exact(zaz h0 (zaz (zbk.t h1) (zaz h2 (zaz (zbk.t h3) (zaG.t zal)))))
noncomputable def zj1:zak:=⟨zap p8 35,[ofString "script",ofString "foreign",ofString "place",ofString "first",ofString "told"],120,true,false,[ofString "text"]⟩
@[reducible]noncomputable def zs2:PS:=(znq 5 (peC (zay zgH) 120 true (zai zkj) (zab (zad 0) zag) [] zag))
theorem zy1(TB:zaD S (zay zgH)):zbk S zj1 ((zah p8 35).getD 0 default) (zs2):=(zqT (i:=5) (by rfl) (by right) (zBm rfl rfl TB (zqJ D0 G (by kernel_rfl) (by rfl) (by rfl) (by right)) (zaj (zaa (i:=0) (by rfl)) zaq) KwS.nil))
@[reducible]noncomputable def zlu(n:Nat):PS:=(zao 3 (pe2 (zad 2) (zai (.int 3)) zde))
@[reducible]noncomputable def zl1(n:Nat):PS:=(zeA (zdf (pe2 (zb4 (zgD 5) (zf0 (zad 3)) (zf0 (pe2 (zad 3) (zai (.int 1)) zde))) (zai (.str [10])) eqP)) (zaf (zdZ 3 (zai (.int 1)) zec) zam) zam)
@[reducible]noncomputable def zpR(n:Nat):PS:=(zao 4 (peK zcO (zab (zai (.str [39,39,39])) (zab (zgD 5) (zab (zad 2) zag))) zag))
@[reducible]noncomputable def zmo(n:Nat):PS:=(zeA (zdf (pe2 (zad 4) (peK (zbL n) (zab (zgD 5) (zab (zad 3) (zab (zad 1) zag))) zag) neP)) (zaf (zbt (zai (.bool false))) zam) zam)
@[reducible]noncomputable def zlJ(n:Nat):PS:=(zeA (zdf (pe2 (zad 4) (peK (zbw n) (zab (zgD 5) (zab (zad 2) (zab (zai (.str [39,39,39])) (zab (zad 1) zag)))) zag) neP)) (zaf (zbt (zai (.bool false))) zam) zam)
@[reducible]noncomputable def zmq(n:Nat):PS:=(zeA (zdf (pe2 (peK zcO (zab (zai (.str [39])) (zab (zgD 5) (zab (zad 2) zag))) zag) (peK (zbw n) (zab (zgD 5) (zab (zad 2) (zab (zai (.str [39])) (zab (zad 1) zag)))) zag) neP)) (zaf (zbt (zai (.bool false))) zam) zam)
@[reducible]noncomputable def zr7(n:Nat):PS:=(zoi 2 (peN (zab (pe2 (pe1 (zgD 5) zri) (zai (.int 2)) zde) zag) zjY) (zaf (zlu n) (zaf (zl1 n) (zaf (zpR n) (zaf (zmo n) (zaf (zlJ n) (zaf (zmq n) zam)))))))
theorem zx7(TB:zaD S (zay zgH))(n:Nat)(hn0:0<n)(TN:∀n,0<n->zc5 n S (zay (zk0 n))):zix n S zj1 ((zah p8 35).getD 2 default) (zr7 n):=(zlB (i:=2) rfl (by rfl) (zau.t (zgz D0 (by kernel_rfl) (NG _ (by right)) (by right) (by right) (zaj (zaA (zen D0 (by kernel_rfl) (NG _ (by right)) (by right) (by right) (zfu (i:=5) (by rfl) (by right)) zc6) zaB zan) zaq) zgp)) (zaz (zbk.t (zas (i:=3) (by rfl) (zaA (zaa (i:=2) (by rfl)) zaB zan))) (zaz (zbk.t (zdP (zaW zaw (zbU (zfu (i:=5) (by rfl) (by right)) (zaE (zaa (i:=3) (by rfl))) (zaE (zaA (zaa (i:=3) (by rfl)) zaB zan))) (zaL (by rfl)) zdp) (zac (zc3 (i:=3) (by rfl) zaB zaU) zal) zal)) (zaz (zbk.t (zas (i:=4) (by rfl) (ziY D0 G TB (c:=zcT) (by kernel_rfl) (by kernel_rfl) rfl rfl (by decide) (by decide) (by kernel_rfl) (by right) (by(refine zaj ?_ ?_);(exact(zaL (by rfl)));(exact(zaj (zfu (i:=5) (by rfl) (by right)) (zaj (zaa (i:=2) (by rfl)) zaq)))) KwS.nil))) (zaz (zha (zhq zaw (zau.t (zaa (i:=4) (by rfl))) (ztS D0 G (TN n hn0) (c:=zc9 n) (by kernel_rfl) (by kernel_rfl) rfl rfl (zci rfl) (λ_=>rfl) (by kernel_rfl) (by right) (zbT.t (by(refine zaj ?_ ?_);(exact(zfu (i:=5) (by rfl) (by right)));(exact(zaj (zaa (i:=3) (by rfl)) (zaj (zaa (i:=1) (by rfl)) zaq))))) KwS.nil (by intro;rfl)) zhZ (by with_unfolding_all rfl)) (zaG.t (zac (zbl zgC) zal)) (zaG.t zal)) (zaz (zha (zhq zaw (zau.t (zaa (i:=4) (by rfl))) (ztS D0 G (TN n hn0) (c:=zct n) (by kernel_rfl) (by kernel_rfl) rfl rfl (zci rfl) (λ_=>rfl) (by kernel_rfl) (by right) (zbT.t (by(refine zaj ?_ ?_);(exact(zfu (i:=5) (by rfl) (by right)));(exact(by(refine zaj ?_ ?_);(exact(zaa (i:=2) (by rfl)));(exact(zaj (zaL (by rfl)) (zaj (zaa (i:=1) (by rfl)) zaq))))))) KwS.nil (by intro;rfl)) zhZ (by with_unfolding_all rfl)) (zaG.t (zac (zbl zgC) zal)) (zaG.t zal)) (zaz (zha (zhq zaw (zau.t (ziY D0 G TB (c:=zcT) (by kernel_rfl) (by kernel_rfl) rfl rfl (by decide) (by decide) (by kernel_rfl) (by right) (by(refine zaj ?_ ?_);(exact(zaL (by rfl)));(exact(zaj (zfu (i:=5) (by rfl) (by right)) (zaj (zaa (i:=2) (by rfl)) zaq)))) KwS.nil)) (ztS D0 G (TN n hn0) (c:=zct n) (by kernel_rfl) (by kernel_rfl) rfl rfl (zci rfl) (λ_=>rfl) (by kernel_rfl) (by right) (zbT.t (by(refine zaj ?_ ?_);(exact(zfu (i:=5) (by rfl) (by right)));(exact(by(refine zaj ?_ ?_);(exact(zaa (i:=2) (by rfl)));(exact(zaj (zaL (by rfl)) (zaj (zaa (i:=1) (by rfl)) zaq))))))) KwS.nil (by intro;rfl)) zhZ (by with_unfolding_all rfl)) (zaG.t (zac (zbl zgC) zal)) (zaG.t zal)) (zaG.t zal))))))) (by intros;rfl))
@[reducible]noncomputable def zru(n:Nat):PS:=(zbt (zai (.bool true)))
theorem zyn(TB:zaD S (zay zgH))(n:Nat)(hn0:0<n):zbk S zj1 ((zah p8 35).getD 3 default) (zru n):=(zbl zgC)
end
theorem zBZ:zah p8 35=[(zah p8 35).getD 0 default,(zah p8 35).getD 1 default,(zah p8 35).getD 2 default,(zah p8 35).getD 3 default]:=by kernel_rfl
@[reducible]noncomputable def zoh(n:Nat):PS:=(zaf (zr7 n) (zaf (zru n) zam))
@[reducible]noncomputable def ztK:PS:=zwA 1 (peN (zab (zai (.int 19968)) (zab (pe2 (zai (.int 19971)) (pe1 (zgD 5) zri) zde) zag)) zjY) [5] (zdf (pe2 (peN (zab (zad 0) zag) zBc) (zgD 1) zAh)) (zwB (zab (zad 0) zag)) zoh
@[reducible]noncomputable def zy5:PS:=(zaf zs2 ztK)
section
variable{S:St0}(D0:Std S)(NG:NoG S)(G:Gl S zf8)(E0:zav S)(N0:ClsAt S.mg S.base)
include D0 NG G E0 N0
theorem zxN(TB:zaD S (zay zgH))(TN:∀n,0<n->zc5 n S (zay (zk0 n)))(n:Nat)(hn0:0<n):zdj n S zj1 [(zah p8 35).getD 2 default,(zah p8 35).getD 3 default] (zoh n):=by
 have h2:=@zx7 S D0 NG G E0 N0 TB n hn0 TN;have h3:=@zyn S D0 NG G E0 N0 TB n hn0;generalize (zah p8 35).getD 2 default=t2 at h2⊢;generalize (zah p8 35).getD 3 default=t3 at h3⊢;exact(zaz h2 (zaz (zbk.t h3) (zaG.t zal)))
theorem zxW(TB:zaD S (zay zgH))(TN:∀n,0<n->zc5 n S (zay (zk0 n))):zdj 1 S zj1 [(zah p8 35).getD 1 default,(zah p8 35).getD 2 default,(zah p8 35).getD 3 default] ztK:=by
 have Hs:=@zxN S D0 NG G E0 N0 TB TN;generalize (zah p8 35).getD 2 default=t2 at Hs⊢;generalize (zah p8 35).getD 3 default=t3 at Hs⊢;refine zrF (K:=ofString "n") (cs:=[ofString "text"]) (is:=[5]) (i:=1) (by rfl) rfl (by kernel_rfl) ?_ ?_ ?_ ?_ Hs
 ·exact(zgz D0 (by kernel_rfl) (NG _ (by right)) (by right) (by right) (zaj zaB (zaj (zaA zaB (zen D0 (by kernel_rfl) (NG _ (by right)) (by right) (by right) (zfu (i:=5) (by rfl) (by right)) zc6) zan) zaq)) zgp)
 ·exact(zxr (zaW zaw (zpY D0 (by kernel_rfl) (NG _ (by right)) (by right) (by right) (zaj (zaa (i:=0) (by rfl)) zaq) zlA) (zfu (i:=1) (by rfl) (by right)) zpI))
 ·exact(zyM D0 (by kernel_rfl) (NG _ (by right)) (by right) (by right) (zaj (zaa (i:=0) (by rfl)) zaq) (by intro;rfl) (by intro;rfl) (by right))
 ·intro _ _;kernel_rfl
theorem zBH(TB:zaD S (zay zgH))(TN:∀n,0<n->zc5 n S (zay (zk0 n))):zdj 1 S zj1 (zah p8 35) zy5:=by
 have h0:=@zy1 S D0 NG G E0 N0 TB;have h1:=@zxW S D0 NG G E0 N0 TB TN;rw[zBZ];generalize (zah p8 35).getD 0 default=t0 at h0⊢;generalize (zah p8 35).getD 1 default=t1 at h1⊢;generalize (zah p8 35).getD 2 default=t2 at h1⊢;generalize (zah p8 35).getD 3 default=t3 at h1⊢;exact zaz (zbk.t h0) h1
end
end
theorem zBU{x i z:Int}{Q:Res->Prop}{X:Err->Prop}(e:x-i=z)(k:Q (.pl (.int z))):zss (.int x) (.int i) Q X:=by
 subst e;exact k
theorem zfP{x i z:Int}{Q:Res->Prop}{X:Err->Prop}(e:x+i=z)(k:Q (.pl (.int z))):zde (.int x) (.int i) Q X:=by
 subst e;exact k
noncomputable def zxP(t:PT)(b:PE)(cl:Sl)(d:D)(o:Option D):Prop:=∀(A:D->Prop)(B:Prop),(match o with|some e=>A e|none=>B)->t (λc st'=>ifB c (b (λr _=>oM r.nb A) noE st') B) noE (.val d::cl)
theorem zlK{α:Type}{t:PT}{b:PE}{cl:Sl}(inj:α->D)(F:α->Option D):∀(l:List α)(acc:List D){Q:List D->Prop},(∀x∈l,zxP t b cl (inj x) (F x))->Q (acc++l.filterMap F)->ziV t b cl (l.map inj) acc Q
 |[],acc,Q,_,q=>by rw[List.filterMap_nil,List.append_nil]at q;exact q
 |x::l,acc,Q,h,q=>by
  refine h x yq (λe=>ziV t b cl (l.map inj) (acc++[e]) Q) (ziV t b cl (l.map inj) acc Q) ?_;cases e:F x with
  |none=>exact zlK inj F l acc (λy hy=>h y (yn _ hy)) (by rw[List.filterMap_cons_none e]at q;exact q)
  |some d=>exact zlK inj F l (acc++[d]) (λy hy=>h y (yn _ hy)) (by rw[List.filterMap_cons_some e]at q;rw[List.append_assoc];exact q)
theorem zuF{α:Type}{t:PT}{b:PE}{cl:Sl}(inj:α->D)(F:α->D)(l:List α){Q:List D->Prop}(h:∀x∈l,zxP t b cl (inj x) (some (F x)))(q:Q (l.map F)):ziV t b cl (l.map inj) [] Q:=
 zlK inj (λx=>some (F x)) l [] h (by rw[List.filterMap_eq_map' (f:=F)];exact q)
theorem zuL{b:PE}{cl:Sl}{d e:D}(h:∀A:D->Prop,A e->b (λr _=>oM r.nb A) noE (.val d::cl)):zxP zxT b cl d (some e):=λA B q=>za8 rfl (h A q)
theorem zx6{x y:Int}{Q:Res->Prop}{X:Err->Prop}(hx:Builtin.Int.intBits x≤64)(k:Q (.pl (.int (x*y)))):zz1 (.int x) (.int y) Q X:=ym hx k
theorem znG{x y:List Nat}{Q:Res->Prop}{X:Err->Prop}(hx:Chr x)(hy:Chr y)(k:Q (.pl (.bool (decide (x=y))))):eqP (.str x) (.str y) Q X:=by
 refine ym (zgP hx) (ym (zgP hy) ?_);rw[ztr];exact k
theorem zo0{n:Nat}{Q:Res->Prop}{X:Err->Prop}(h:n≤1000000)(k:Q (.pl (.rng ((List.range n).map λj:Nat=>.int (j:Nat))))):zjY [.int (n:Nat)] Q X:=by
 refine ym (Int.le_trans (by decide:(-1000000:Int)≤0) (yB n)) (ym (yV.mpr h) ?_);rw[Int.toNat_natCast,show(λj:Nat=>D.int (0+(j:Int)))=λj:Nat=>.int (j:Nat)from funext λj=>by rw[Int.zero_add]];exact k
theorem ztn(c m:Nat):zAb [c] (m:Nat)=List.replicate m c:=by
 unfold zAb;rw[Int.toNat_natCast]
 induction m with
 |zero=>rfl
 |succ m ih=>rw[List.replicate_succ,List.flatten_cons,ih];rfl
theorem zz9{c m:Nat}{Q:Res->Prop}{X:Err->Prop}(hm:m≤1000000)(k:Q (.pl (.str (List.replicate m c)))):zzd (.str [c]) (.int (m:Nat)) Q X:=by
 refine ym (yV.mpr hm) (ym (Int.le_trans (by decide:(-1000000:Int)≤0) (yB _)) (ym ?_ ?_))
 ·rw[Int.toNat_natCast]
  exact yk (yJ (Nat.one_mul m)) hm
 ·rw[ztn];exact k
theorem zfo{x y:List Nat}{Q:Res->Prop}{X:Err->Prop}(h:x.length+y.length≤LIM)(k:Q (.pl (.str (x++y)))):zde (.str x) (.str y) Q X:=ym h k
theorem ztq:∀l:List (List Nat),zy3 (l.map .str)=some l
 |[]=>rfl
 |x::l=>by
  show(zy3 (l.map .str)).map (x::·)=_;rw[ztq l];rfl
theorem zwv{p:List Nat}{l:List (List Nat)}{Q:Res->Prop}{X:Err->Prop}(h:(l.map List.length).sum+l.length*p.length≤1000000)(k:Q (.pl (.str (zik p l)))):zwd p [.lst (l.map .str)] Q X:=by
 have e:cLT.of (.lst (l.map .str))=some l:=ztq l;show oM (cLT.of (.lst (l.map .str))) λx=>(x.map List.length).sum+x.length*p.length≤1000000∧Q (.pl (.str (zik p x)));rw[e];exact ym h k
theorem zif:∀l:List (List Nat),zik [] l=l.flatten
 |[]=>rfl
 |[x]=>(List.append_nil x).symm
 |x::y::l=>by
  show x++[]++zik [] (y::l)=_;rw[zif (y::l),List.append_nil];rfl
theorem zm9{p:List Nat}(hp:p≠[]):∀(n:Nat){l:List Nat},l.length≤n->((zbg l p).map List.length).sum≤l.length
 |0,l,hn=>by
  cases e:zbS l p 0 l.length with
  |none=>rw[zdm e];exact yr _
  |some i=>exact absurd (yk (yk (xf _ i) (zo7 e)) hn) (Nat.not_le.mpr (List.length_pos_iff.mpr hp))
 |n+1,l,hn=>by
  cases e:zbS l p 0 l.length with
  |none=>rw[zdm e];exact yr _
  |some i=>
   have ih:=zm9 hp n (l:=l.drop (i+p.length)) (by rw[List.length_drop];exact Nat.sub_le_of_le_add (yk hn (yZ (yk (List.length_pos_iff.mpr hp) (xf _ i)) n)));rw[ze1 hp e,List.map_cons,List.sum_cons,List.length_take];rw[List.length_drop]at ih;exact yk (ye (yk (Nat.min_le_left ..) (yR i p.length)) ih) (yJ (Nat.add_sub_cancel' (zo7 e)))
theorem zA4{l:List Nat}{ls:List (List Nat)}(h:l∈ls):l.length≤(ls.map List.length).sum:=by
 induction ls with
 |nil=>exact zcx h
 |cons x ls ih=>
  rw[List.map_cons,List.sum_cons];rcases yz.mp h with rfl|h
  ·exact yR ..
  ·exact yk (ih h) (xf ..)
theorem zzQ{n:Nat}{Q:Res->Prop}{X:Err->Prop}(hn:n≤1000000)(k:Q (.pl (.int (n:Nat)))):intD [.str (zbm (n:Nat))] Q X:=by
 refine ym (yk (zfj hn) (by decide)) ⟨(n:Nat),?_,k⟩;have e:mk (zbm (n:Nat))=Str.ofString (toString ((n:Nat):Int)):=ze6 _;rw[e];exact KIN.num_reads (yB n) (Int.ofNat_lt.mpr (yY hn (by decide:1000000<10^10)))
theorem zsw{l:List D}{n:Nat}:zbA l none (some (n:Nat))=l.take n:=by
 unfold zbA;rw[show za3 none 0 l.length=0 from rfl,List.drop_zero,Nat.sub_zero];unfold za3;dsimp only;rw[if_neg (Int.not_lt.mpr (Int.natCast_nonneg n)),zdO];rcases Nat.le_total n l.length with h|h
 ·rw[Nat.min_eq_left h]
 ·rw[Nat.min_eq_right h,List.take_of_length_le (Nat.le_refl _),List.take_of_length_le h]
theorem zpi:∀l:List (List Nat),(l.map λr=>((r.length+1:Nat):Int)).sum=(((l.map λr=>r.length+1).sum:Nat):Int)
 |[]=>rfl
 |r::l=>by
  rw[List.map_cons,List.map_cons,List.sum_cons,List.sum_cons,zpi l];exact(Int.natCast_add ..).symm
theorem zjw{l p:List Nat}{r:List (List Nat)}{Q:Res->Prop}{X:Err->Prop}(hl:l.length≤500000)(hp:p≠[])(ha:(p.all λc=>decide (c<256))=true)(e:zbg l p=r)(k:Q (.fr (r.map .str))):zj8 l [.str p] Q X:=by
 subst e;exact ym hl (ym hp (ym ha k))
theorem zy4{a x:List Nat}{z k:Nat}{Q:Res->Prop}(hs:(a++x++[z]).length≤LIM)(hk:a.length=k)(q:Q (.pl (.str x))):zhM (a++x++[z]) (some (k:Nat)) (some (-1)) Q:=by
 rw[zxA,ztO hk];exact ym hs q
theorem znC{n:Nat}{Q:Res->Prop}{X:Err->Prop}(k:Q (.pl (.int (n:Nat)))):zss (.int (n+1:Nat)) (.int 1) Q X:=by
 have e:((n+1:Nat):Int)-1=(n:Nat):=by lia
 show Q (.pl (.int (((n+1:Nat):Int)-1)));rw[e];exact k
theorem zBQ{x y z:Int}{Q:Res->Prop}{X:Err->Prop}(e:x-y=z)(k:Q (.pl (.int z))):zss (.int x) (.int y) Q X:=by
 subst e;exact k
theorem zyq{S T q:Nat}(h:S+T=q):((S:Nat):Int)+((T+1:Nat):Int)-1=(q:Nat):=by
 rw[←h,←Int.natCast_add,←Nat.add_assoc,Int.natCast_succ,Int.add_sub_cancel]
theorem zB4{ns:List Int}{Q:Res->Prop}{X:Err->Prop}(k:Q (.pl (.int ns.sum))):zBY true [.lst (ns.map .int)] Q X:=ym rfl ⟨ns,rfl,k⟩
theorem zju{l:List D}{K:Bool->Prop}(h:l.length≤1000000)(k:K (!l.isEmpty)):oM (ziF (.lst l)) K:=by
 rw[zA5,if_pos h];exact k
theorem zCf{x y:Int}{Q:Res->Prop}{X:Err->Prop}(k:Q (.pl (.int (x+y)))):zde (.int x) (.int y) Q X:=k
theorem zAt{α:Type}{l:List α}{q:Nat}:zbA l (some (q:Nat)) none=l.drop q:=by
 unfold zbA;rw[show za3 none l.length l.length=l.length from rfl];unfold za3;dsimp only;rw[if_neg (Int.not_lt.mpr (Int.natCast_nonneg q)),zdO,List.take_of_length_le (by rw[List.length_drop];exact Nat.le_refl _)];by_cases h:q≤l.length
 ·rw[Nat.min_eq_left h]
 ·rw[Nat.min_eq_right (Nat.le_of_not_le h),List.drop_of_length_le (Nat.le_refl _),List.drop_of_length_le (Nat.le_of_not_le h)]
theorem zwr{i z:Int}{Q:Res->Prop}{X:Err->Prop}(e:-i=z)(k:Q (.pl (.int z))):zxD (.int i) Q X:=by
 subst e;exact k
theorem ztc{z:Int}{b:Nat}{Q:Res->Prop}{X:Err->Prop}(hb:0<b)(k:∀N:Nat,N<b->Q (.pl (.int (N:Nat)))):zxw (.int z) (.int (b:Nat)) Q X:=by
 have hb':(0:Int)<(b:Nat):=Int.natCast_pos.mpr hb;have h1:=Int.fmod_nonneg_of_pos z hb';have h2:=Int.fmod_lt_of_pos z hb';obtain⟨N,e⟩:=Int.eq_ofNat_of_zero_le h1;refine ym (Int.ne_of_gt hb') ?_;show Q (.pl (.int (z.fmod (b:Nat))));rw[e]at h2⊢;exact k N (Int.ofNat_lt.mp h2)
theorem zwD{n:Nat}{Q:Res->Prop}{X:Err->Prop}(h:n≤1000000)(k:Q (.pl (.str (zbm (n:Nat))))):zBl [.int (n:Nat)] Q X:=ym (zkd h) k
theorem zjk{s m:List Nat}{p:Nat}(hs:s.length≤300000)(hm:m.length≤1100):(zcH s p m).length≤1300:=by
 unfold zcH;exact zbz (b:=1) (zbz (zbz (b:=5) hm (yr 5) (yr _)) (zj9 hs p) (yr _)) (yr 1) (by decide)
theorem zpp{s:List Nat}{p:Nat}(h:p<s.length):zaQ s p++zlf=zfE++(zbm (zev s p:Nat)++(zjy++zbm (zkp s p:Nat)))++[41]:=by
 unfold zaQ;rw[if_neg (Nat.not_le.mpr h)];simp only[List.append_assoc];rfl
theorem zi8{s p:List Nat}{q:Nat}{b:Bool}{Q:Res->Prop}{X:Err->Prop}{n:Nat}(hp:p.length=n+1)(e:decide (cut s q (q+p.length)=p)=b)(k:Q (.pl (.bool b))):zdW s [.str p,.int (q:Nat)] Q X:=by
 show Q (.pl (.bool (Txt.startswith3 (mk s) (mk p) ((q:Nat):Int))));rw[zlq s p q hp,e];exact k
inductive zy9{α:Type}(inj:α->D->Prop):List α->List D->Prop
 |nil:zy9 inj [] []
 |cons {x:α} {d:D} {l:List α} {es:List D}:inj x d->zy9 inj l es->zy9 inj (x::l) (d::es)
theorem zkc{α:Type}{t:PT}{b:PE}{cl:Sl}(inj:α->D)(G:α->D->Prop)(keep:α->Bool):∀(l:List α)(acc:List D){Q:List D->Prop},
  (∀x∈l,∀(A:D->Prop)(B:Prop),(match keep x with|true=>∀d,G x d->A d|false=>B)->t (λc st'=>ifB c (b (λr _=>oM r.nb A) noE st') B) noE (.val (inj x)::cl)) ->
  (∀es,zy9 G (l.filter keep) es->Q (acc++es))->ziV t b cl (l.map inj) acc Q
 |[],acc,Q,_,q=>by have:=q [] .nil;rw[List.append_nil]at this;exact this
 |x::l,acc,Q,h,q=>by
  refine h x yq (λe=>ziV t b cl (l.map inj) (acc++[e]) Q) (ziV t b cl (l.map inj) acc Q) ?_;cases e:keep x with
  |false=>exact zkc inj G keep l acc (λy hy=>h y (yn _ hy)) λes z=>q es (by rw[List.filter_cons_of_neg (by rw[e];exact Bool.false_ne_true)];exact z)
  |true=>
   intro d hd;refine zkc inj G keep l (acc++[d]) (λy hy=>h y (yn _ hy)) λes z=>?_;rw[List.append_assoc];exact q (d::es) (by rw[List.filter_cons_of_pos e];exact .cons hd z)
noncomputable def pc7:List (List Nat):=[[39],[92],[10],[39,39],[34],[39,39,39],[34,34,34],[92,39],[0],[127],[13],[9],[97],[92,110]]
theorem zAl{k:Nat}(h:k<14):(pc7.getD k []).length≤3∧Chr (pc7.getD k []):=by
 have:∀j:Fin 14,(pc7.getD j.1 []).length≤3∧((pc7.getD j.1 []).all λc=>decide (c<1114112))=true:=by decide
 exact⟨(this ⟨k,h⟩).1,.of (this ⟨k,h⟩).2⟩
theorem zxd{k:Nat}(h:k<14):(pc7.map D.str)[k]?=some (.str (pc7.getD k [])):=by
 rw[List.getElem?_map,List.getD_eq_getElem?_getD,List.getElem?_eq_getElem (show k<pc7.length from h)];rfl
noncomputable def Pcs(cs:List (List Nat)):Prop:=∀x∈cs,x.length≤3∧Chr x
theorem Pcs.snoc{cs:List (List Nat)}{x:List Nat}(h:Pcs cs)(h1:x.length≤3)(h2:Chr x):Pcs (cs++[x]):=λy hy=>by
 rcases List.mem_append.mp hy with z|z
 ·exact h y z
 ·rw[List.mem_singleton.mp z];exact⟨h1,h2⟩
theorem Pcs.flat{cs:List (List Nat)}(h:Pcs cs):cs.flatten.length≤3*cs.length∧Chr cs.flatten:=by
 induction cs with
 |nil=>exact⟨yr _,.nil⟩
 |cons x cs ih=>
  have ih:=ih λy hy=>h y (yn _ hy);have hx:=h x yq;rw[List.flatten_cons,List.length_append,List.length_cons];exact⟨by have:=hx.1;have:=ih.1;lia,hx.2.app ih.2⟩
@[reducible]noncomputable def t7(ns:List Int)(c1 c2 c3 c4 c5 c6 c7 c8 c9:Slot):Sl:=[.val (.lst (ns.map .int)),c1,c2,c3,c4,c5,c6,c7,c8,c9]
@[reducible]noncomputable def oC(cs:List (List Nat)):Slot:=.own (cs.map .str)
@[reducible]noncomputable def nD(ds:List Nat):List D:=ds.map λd:Nat=>.int (d:Nat)
noncomputable def Dig(ds:List Nat):Prop:=∀d∈ds,d<17793024
theorem zqB{ns:List Int}{cs:List (List Nat)}{c3 c4 c5 c7 c8 c9:Slot}{d:Nat}{K:Fl->Sl->Prop}{X:Err->Sl->Prop}(hc:Pcs cs)(hl:cs.length≤1000000)(hd:d<17793024)
  (k:∀cs' c7 c8,Pcs cs'->cs'.length=cs.length+1->K .next (t7 ns (oC pc7) (oC cs') c3 c4 c5 (.val (.int (d:Nat))) c7 c8 c9)) :
  zaf zeU (zaf zeW zam) K X (t7 ns (oC pc7) (oC cs) c3 c4 c5 (.val (.int (d:Nat))) c7 c8 c9):=by
 refine zyY (b:=16) (by decide) ?_;refine zrK (b:=16) (by decide) (by decide) ?_;refine ym (zci rfl) ?_;have put:∀x:List Nat,x.length≤3->Chr x->(cs.map D.str).length≤1000000∧K .next (t7 ns (oC pc7) (.own (cs.map D.str++[.str x])) c3 c4 c5 (.val (.int (d:Nat))) (.val (.int (d%16:Nat))) (.val (.int (d/16:Nat))) c9):=λx h1 h2=>by
  refine ym (by rw[List.length_map];exact hl) ?_;have e:(cs++[x]).map D.str=cs.map D.str++[.str x]:=List.map_append;have this:K .next (t7 ns (oC pc7) (.own ((cs++[x]).map D.str)) c3 c4 c5 _ _ _ c9):=k (cs++[x]) (.val (.int (d%16:Nat))) (.val (.int (d/16:Nat))) (hc.snoc h1 h2) (yP ..)
  rw[e]at this;exact this
 by_cases e1:d%16<14
 ·refine za8 (c:=decide (((d%16:Nat):Int)<((14:Nat):Int))) (zq4.trans (yv e1)) ?_
  have hp:=zAl e1;refine zeZ (yk (yc e1) (by decide)) (zxd e1) rfl ?_;exact put _ hp.1 hp.2
 ·refine za7 (c:=decide (((d%16:Nat):Int)<((14:Nat):Int))) (zq4.trans (yx e1)) ?_
  have hq:d/16<1112064:=Nat.div_lt_of_lt_mul hd;by_cases e2:d/16<55296
  ·refine za8 (c:=decide (((d/16:Nat):Int)<((55296:Nat):Int))) (zq4.trans (yv e2)) ?_
   refine ym (yB _) (ym (yV.mpr (yc (Nat.lt_trans hq (by decide)))) ?_);exact put [d/16] (zci rfl) (.cons (Nat.lt_trans hq (by decide)) .nil)
  ·refine za7 (c:=decide (((d/16:Nat):Int)<((55296:Nat):Int))) (zq4.trans (yx e2)) ?_
   refine zfP (z:=((d/16+2048:Nat):Int)) rfl ?_;have hq2:d/16+2048<1114112:=Nat.add_lt_add_right hq 2048;refine ym (yB _) (ym (yV.mpr (Nat.le_of_lt_succ hq2)) ?_);exact put [d/16+2048] (zci rfl) (.cons hq2 .nil)
theorem zjz{ns:List Int}{c3 c4 c5 c9:Slot}{K:Fl->Sl->Prop}{X:Err->Sl->Prop}:∀(ds:List Nat){cs:List (List Nat)}{c6 c7 c8:Slot},Pcs cs->Dig ds->cs.length+ds.length≤1000000 ->
  (∀cs' c6 c7 c8,Pcs cs'->cs'.length=cs.length+ds.length->K .next (t7 ns (oC pc7) (oC cs') c3 c4 c5 c6 c7 c8 c9)) ->
  zwy 6 (zaf zeU (zaf zeW zam)) (nD ds) K X (t7 ns (oC pc7) (oC cs) c3 c4 c5 c6 c7 c8 c9)
 |[],cs,c6,c7,c8,hc,_,_,k=>k cs c6 c7 c8 hc rfl
 |d::ds,cs,c6,c7,c8,hc,hd,hl,k=>by
  rw[List.length_cons]at hl;refine zqB hc (yk (yR ..) hl) (hd d yq) λcs' c7 c8 h1 h2=>?_;refine zjz ds h1 (λx hx=>hd x (yn _ hx)) (by rw[h2];lia) λcs2 c6 c7 c8 h3 h4=>?_;exact k cs2 c6 c7 c8 h3 (by rw[h4,h2,List.length_cons];lia)
theorem zoM{ns:List Int}{cs:List (List Nat)}{c4 c5 c6 c7 c8 c9:Slot}{x:Int}{K:Fl->Sl->Prop}{X:Err->Sl->Prop}(hc:Pcs cs)(hl:cs.length≤100000)
  (k:∀cs' c4 c5 c6 c7 c8,Pcs cs'->cs'.length≤cs.length+12->K .next (t7 ns (oC pc7) (oC cs') (.val (.int x)) c4 c5 c6 c7 c8 c9)) :
  zaf zeV (zaf zdz (zaf zdA (zaf zdB zam))) K X (t7 ns (oC pc7) (oC cs) (.val (.int x)) c4 c5 c6 c7 c8 c9):=by
 have go:∀N:Nat,N<17793024^12->zaf zdz (zaf zdA (zaf zdB zam)) K X (t7 ns (oC pc7) (oC cs) (.val (.int x)) (.val (.int (N:Nat))) c5 c6 c7 c8 c9):=λN hN=>by
  refine zyY (b:=17793024) (by decide) ?_;refine ym (zci rfl) ?_;refine zgr (st:=t7 ns (oC pc7) (oC cs) (.val (.int x)) (.val (.int (N:Nat))) (.own (nD [N%17793024])) c6 c7 c8 c9) 11 (λm st=>∃(N:Nat)(ds:List Nat),st=t7 ns (oC pc7) (oC cs) (.val (.int x)) (.val (.int (N:Nat))) (.own (nD ds)) c6 c7 c8 c9∧Dig ds∧ds.length+m≤12∧N<17793024^(m+1)) (zkD N [N%17793024] rfl (λd hd=>by rw[List.mem_singleton.mp hd];exact Nat.mod_lt _ (by decide)) (zci rfl) hN) ?_;intro m st hI;clear hN N;obtain⟨N,ds,rfl,hd,hm,hN⟩:=hI;by_cases e:17793024≤N
  ·refine za8 (c:=decide (((N:Nat):Int) ≥ ((17793024:Nat):Int))) (zuH.trans (yv e)) ?_
   refine zrK (b:=17793024) (by decide) (by right) ?_;refine zyY (b:=17793024) (by decide) ?_;refine ym (by rw[List.length_map];lia) ?_
   induction m with
   |zero=>exact absurd hN (yg.mpr e)
   |succ m=>
    refine⟨m,yS m,N/17793024,ds++[N/17793024%17793024],?_,λd h=>?_,?_,?_⟩
    ·show t7 ns _ _ _ _ (.own (nD ds++nD [N/17793024%17793024])) _ _ _ _=_
     rw[←List.map_append];rfl
    ·rcases List.mem_append.mp h with z|z
     ·exact hd d z
     ·rw[List.mem_singleton.mp z];exact Nat.mod_lt _ (by decide)
    ·rw[List.length_append,List.length_singleton];lia
    ·exact Nat.div_lt_of_lt_mul (by rw[Nat.mul_comm,←Nat.pow_succ];exact hN)
  ·refine za7 (c:=decide (((N:Nat):Int) ≥ ((17793024:Nat):Int))) (zuH.trans (yx e)) ?_
   refine zjz ds hc hd (by lia) λcs' c6 c7 c8 h1 h2=>?_;exact k cs' _ _ c6 c7 c8 h1 (by rw[h2];lia)
 by_cases e:x ≥ 0
 ·refine za8 (c:=decide (x ≥ 0)) (yv e) ?_
  refine zx6 (by right) ?_;refine zAc (a:=17793024) (e:=12) (by decide) (by decide) (by decide) ?_;exact ztc (Nat.pow_pos (by decide)) go
 ·refine za7 (c:=decide (x ≥ 0)) (yx e) ?_
  refine zwr (z:=-2) rfl ?_;refine zx6 (by right) ?_;refine zBU rfl ?_;refine zAc (a:=17793024) (e:=12) (by decide) (by decide) (by decide) ?_;exact ztc (Nat.pow_pos (by decide)) go
theorem zgf{ns:List Int}{c9:Slot}{K:Fl->Sl->Prop}{X:Err->Sl->Prop}:∀(xs:List Int){cs:List (List Nat)}{c3 c4 c5 c6 c7 c8:Slot},Pcs cs->cs.length+12*xs.length≤100000 ->
  (∀cs' c3 c4 c5 c6 c7 c8,Pcs cs'->cs'.length≤100000->K .next (t7 ns (oC pc7) (oC cs') c3 c4 c5 c6 c7 c8 c9)) ->
  zwy 3 (zaf zeV (zaf zdz (zaf zdA (zaf zdB zam)))) (xs.map .int) K X (t7 ns (oC pc7) (oC cs) c3 c4 c5 c6 c7 c8 c9)
 |[],cs,c3,c4,c5,c6,c7,c8,hc,hl,k=>k cs c3 c4 c5 c6 c7 c8 hc hl
 |x::xs,cs,c3,c4,c5,c6,c7,c8,hc,hl,k=>by
  rw[List.length_cons]at hl;refine zoM hc (by lia) λcs' c4 c5 c6 c7 c8 h1 h2=>?_;exact zgf xs h1 (by lia) k
theorem zp0{ns:List Int}{cs:List (List Nat)}{c3 c4 c5 c6 c7 c8 c9:Slot}{Q:D->Prop}{X:Err->Prop}(hc:Pcs cs)(hl:cs.length≤100000)(h:∀t,Chr t->t.length≤200->Q (.str t)) :
  zaf zfk (zaf zfg (zaf zfr zam)) (zmD Q) (λx _=>X x) (t7 ns (oC pc7) (oC cs) c3 c4 c5 c6 c7 c8 c9):=by
 have hl1:(cs.map D.str).length≤1000000:=by rw[List.length_map];lia
 refine ym (zbh hl1) ?_;have e0:zbA (cs.map D.str) none (some 40)=(cs.take 40).map D.str:=(zsw (n:=40)).trans (List.map_take ..).symm;rw[e0];have hc:Pcs (cs.take 40):=λx hx=>hc x (List.mem_of_mem_take hx);have hl:(cs.take 40).length≤40:=by rw[List.length_take];exact Nat.min_le_left ..
 clear hl1;generalize cs.take 40=cs at hc hl⊢;have hl0:(cs.map D.str).length≤1000000:=by rw[List.length_map];lia
 refine ym hl0 ?_;refine zfP (z:=((cs.length+1:Nat):Int)) (by rw[List.length_map];rfl) ?_;refine zrK (b:=2) (by decide) (by decide) ?_;generalize (cs.length+1)/2=m;have h1:Pcs (cs.take m):=λx hx=>hc x (List.mem_of_mem_take hx);have h2:Pcs (cs.drop m):=λx hx=>hc x (List.mem_of_mem_drop hx);have k1:=h1.flat;have k2:=h2.flat;have l1:(cs.take m).length≤40:=yk (List.length_take_le' ..) hl;have l2:(cs.drop m).length≤40:=yk (by rw[List.length_drop];exact Nat.sub_le ..) hl;have hm:(cs.take m).length+(cs.drop m).length≤40:=by rw[←List.length_append,List.take_append_drop];exact hl
 refine ym (zbh hl0) ?_;have e1:zbA (cs.map D.str) none (some ((m:Nat):Int))=(cs.take m).map D.str:=zsw.trans (List.map_take ..).symm;rw[e1];refine zwv (p:=[]) (l:=cs.take m) (by rw[←List.length_flatten,List.length_nil,Nat.mul_zero];lia) ?_;rw[zif];refine zfo (zbh (by show 4+_≤_;lia)) ?_;refine zfo (zbh (by rw[List.length_append];show 4+_+4≤_;lia)) ?_;refine ym (zbh hl0) ?_;have e2:zbA (cs.map D.str) (some ((m:Nat):Int)) none=(cs.drop m).map D.str:=zAt.trans (List.map_drop ..).symm;rw[e2];refine zwv (p:=[]) (l:=cs.drop m) (by rw[←List.length_flatten,List.length_nil,Nat.mul_zero];lia) ?_;rw[zif];refine zfo (zbh (by rw[List.length_append,List.length_append];show 4+_+4+_≤_;lia)) ?_;refine h _ ((((Chr.of (by decide)).app k1.2).app (.of (by decide))).app k2.2) ?_;rw[List.length_append,List.length_append,List.length_append];show 4+_+4+_≤_;lia
theorem zq6{ns:List Int}{Q:D->Prop}{X:Err->Prop}(hn:ns.length≤63)(h:∀t,Chr t->t.length≤200->Q (.str t)):zfO zgQ 9 [.lst (ns.map .int)] Q X:=by
 refine ym (zci rfl) ?_;refine ym (zci rfl) ?_;refine zju (by rw[List.length_map];lia) ?_;cases ns with
 |nil=>
  refine za7 rfl ?_;refine zwr (z:=-5) rfl ?_;refine ym (zci rfl) ?_;exact zgf (ns:=[]) [3,6,-5] (cs:=[]) (λx hx=>zcx hx) (by decide) λcs' c3 c4 c5 c6 c7 c8 h1 h2=>zp0 h1 h2 h
 |cons x ns=>
  refine za8 rfl ?_;exact zgf (ns:=x::ns) (x::ns) (cs:=[]) (λx hx=>zcx hx) (by rw[List.length_nil];lia) λcs' c3 c4 c5 c6 c7 c8 h1 h2=>zp0 h1 h2 h
theorem zyx(ds dk:List D)(Q:D->Prop)(X:Err->Prop)(h:zkm ds dk Q X):ds.length+0=1∧zfO zgQ 9 (ds++dk) Q X:=by
 refine zaO (zfs h) λn e1 g=>?_;refine zn2 (zi4 g) λe2 g1 g2=>?_;rw[e1,e2];exact⟨rfl,zq6 g1 g2⟩
theorem zsW{m:List Nat}(h:m∈zsn):Chr m:=by
 have:∀m∈zsn,(m.all λc=>decide (c<1114112))=true:=by decide
 exact .of (this m h)
theorem zlW{r:R}{m s:List Nat}{p:Nat}{Q:D->Prop}{X:Err->Prop}(h:Q (toL r)):zhR r (λd=>zmD Q (.ret d) ([.val (.str m),.val (.str s),.val (.int (p:Nat)),.unb]:Sl)) (λx=>zt1 [⟨.toml,some 3,(zaf (zbt (zfM (zab (peN (zab (zad 3) zag) zBL) zag))) zam)⟩] x (sqK zam (zmD Q) (λx _=>X x)) (λx _=>X x) [.val (.str m),.val (.str s),.val (.int (p:Nat)),.unb]):=by
 cases r with
 |ok r=>exact h
 |error e=>exact ym rfl (ym (zci rfl) h)
theorem zrT{m s:List Nat}{p:Nat}{Q:D->Prop}{X:Err->Prop}(hm:m∈zsn)(hs:okT s=true)(hp:p≤340000)(h:Q (toL (zkv m s p))):zfO zg5 1 [.str m,.str s,.int (p:Nat)] Q X:=by
 have hc:=zsW hm;unfold zkv at h;refine znG hc (.of (by decide)) ?_;by_cases e1:m=[39]
 ·rw[if_pos e1]at h
  refine za8 (yv e1) ?_;exact zAo hs hp (zlW h)
 ·rw[if_neg e1]at h
  refine za7 (yx e1) ?_;refine znG hc (.of (by decide)) ?_;by_cases e2:m=[34]
  ·rw[if_pos e2]at h
   refine za8 (yv e2) ?_;exact zAQ hs hp (zlW h)
  ·rw[if_neg e2]at h
   refine za7 (yx e2) ?_;refine znG hc (.of (by decide)) ?_;exact zu0 hs hp (zlW h)
theorem zyu(ds dk:List D)(Q:D->Prop)(X:Err->Prop)(h:zbu (zcO ds dk) Q X):ds.length+0=3∧zfO zg5 1 (ds++dk) Q X:=by
 left;obtain⟨m,s,p,rfl,rfl,h⟩:=zhI h;refine zb0 (zdR h) λhp h=>?_;obtain⟨hm,hp⟩:=yw.mp hp;refine zcM (zeO hp) λp hzz hp1 hs=>?_;subst hzz;exact⟨rfl,zrT (yF hm) hs hp1 (zf2 h)⟩
theorem zmn{m s:List Nat}{p:Nat}{Q:D->Prop}{X:Err->Prop}(hm:m∈zsn)(hs:okT s=true)(hp:p≤340000)(h:Q (toL (zkv m s p))):zbu (zcO [.str m,.str s,.int (p:Nat)] []) Q X:=
 zfS (by rw[zgB hs hp,decide_eq_true hm];rfl) ((zcb ..).mpr h)
theorem zqD{s:List Nat}{p:Nat}{Q:D->Prop}{X:Err->Prop}(hs:okT s=true)(hl:s.length≤5000)(hp:p<s.length)(h:Q (.int (p:Nat))):zfO zfU 2 [.str s,.str (zaQ s p++zlf)] Q X:=by
 have hl3:s.length≤300000:=yk hl (by decide);have h1:zev s p≤1000000:=yk (zmv s p) (yk (yG hl) (by decide));have h2:zkp s p≤1000000:=yk (zo4 s p) (yk (yG hl) (by decide));have l1:=zfj h1;have l2:=zfj h2;have lX:(zbm (zev s p:Nat)++(zjy++zbm (zkp s p:Nat))).length≤100:=zbz l1 (zbz (a:=9) (yr 9) l2 (yr _)) (by decide);rw[zpp hp];refine zzp ?_;refine zy4 (a:=zfE) (zbh (zbz (b:=1) (zbz (a:=5) (yr 5) lX (yr _)) (yr 1) (by decide))) rfl ?_;refine zjw (yk lX (by decide)) nofun rfl ztV ?_;have hrow:(zbg s [10]).length≤5002:=by
  rw[ziw];exact yG (yk (zpX s [10]) (yG hl))
 have hsum:=zm9 (p:=[10]) nofun _ (yr s.length);refine zjw (yk hl (by decide)) nofun rfl rfl ?_;refine zzQ h1 ?_;refine znC (n:=(s.take p).count 10) ?_;refine ym (show((zbg s [10]).map D.str).length≤LIM by rw[List.length_map];exact yk hrow (by decide)) ?_;rw[zsw,←List.map_take];refine ym (show(((zbg s [10]).take ((s.take p).count 10)).map D.str).length≤1000000 by rw[List.length_map];exact yk (List.length_take_le' ..) (yk hrow (by decide))) ?_;refine zuF (λr=>.str r) (λr=>.int ((r.length+1:Nat):Int)) _ (λr hr=>zuL λA q=>?_) ?_
 ·refine ym (yk (zA4 (List.mem_of_mem_take hr)) (yk hsum (yk hl (by decide)))) ?_
  exact q
 ·rw[show(((zbg s [10]).take ((s.take p).count 10)).map λr=>D.int ((r.length+1:Nat):Int))=(((zbg s [10]).take ((s.take p).count 10)).map λr=>((r.length+1:Nat):Int)).map D.int from(List.map_map ..).symm]
  refine zB4 ?_;refine zzQ h2 ?_;refine zCf ?_;have hv:(((zbg s [10]).take ((s.take p).count 10)).map λr=>((r.length+1:Nat):Int)).sum+((zkp s p:Nat):Int)-1=(p:Nat):=by
   rw[zpi];exact zyq (zvy _ s p (yr _) (yc hp))
  refine zBQ hv ?_;exact h
theorem zwa(ds dk:List D)(Q:D->Prop)(X:Err->Prop)(h:zdE ds dk Q X):ds.length+0=2∧zfO zfU 2 (ds++dk) Q X:=by
 unfold zdE at h;obtain⟨s,p,e1,e2,hp,hs,hl,q⟩:=h;rw[e1,e2];exact⟨rfl,zqD hs hl hp q⟩
theorem zuz{s:List Nat}{p:Nat}{Q:D->Prop}{X:Err->Prop}(hs:okT s=true)(hl:s.length≤5000)(hp:p<s.length)(h:Q (.int (p:Nat))):zdE [.str s,.str (zaQ s p++zlf)] [] Q X:=by
 unfold zdE;exact⟨s,p,rfl,rfl,hp,hs,hl,h⟩
noncomputable def rfW(s:List Nat)(x:Nat×Nat):List Nat:=zcH s x.1 (zbX++za2 [x.2])
noncomputable def rfS(s:List Nat):Option (Nat×Nat)->Slot
 |none=>.val (.lst [])
 |some x=>.own [.str (rfW s x)]
theorem zvM:zay zgH (ofString "_law_place")=some zey:=by unfold zay zgH;rw[List.lookup_cons_self]
theorem zk2{rank:Nat}{s:List Nat}{p:Nat}{Q:D->Prop}{X:Err->Prop}(hr:110≤rank)(hs:okT s=true)(hl:s.length≤5000)(hp:p<s.length)(h:Q (.int (p:Nat))) :
  ∃n c,(Res.pl (.fn (ofString "_law_place")))=.pl (.fn n)∧zay zgH n=some c∧c.kws=[]∧c.rank≤rank∧(c.calm=true->true=true)∧c.Φ [.str s,.str (zaQ s p++zlf)] [] Q X:=
 ⟨_,_,rfl,zvM,rfl,hr,λ_=>rfl,zuz hs hl hp h⟩
theorem zfa{ml:Bool}{c:Nat}(h:[c]∈zfG ml):40∉za2 [c]∧(za2 [c]).length≤10∧Chr (za2 [c])∧73∉za2 [c]:=by
 have:∀c∈zig,((za2 [c]).all λd=>d != 40)=true∧(za2 [c]).length≤10∧((za2 [c]).all λd=>d != 73)=true:=by right
 have hc:=zpe h;have h3:=this c hc;exact⟨zb6 h3.1,h3.2.1,zrN hc,zb6 h3.2.2⟩
theorem zxq{s:List Nat}{x:Nat×Nat}(h:[x.2]∈zkq):Chr (rfW s x):=zjJ ((Chr.of (by decide)).app (zfa (ml:=true) h).2.2.1)
@[reducible]noncomputable def m7(s:List Nat)(b:Nat)(l:List (Nat×Nat))(row:List Nat)(p:Nat)(done:List Nat)(c6 c7 c8 c9 c10 c11 c12 c13 c14:Slot):Sl:=
 [.val (.str s),.val (.int (b+1:Nat)),.val (.lst (l.map tkD)),.val (.str row),.val (.int (p:Nat)),.val (.str done),c6,c7,c8,c9,c10,c11,c12,c13,c14]
noncomputable def zAj:List Nat:=[101,110,100,32,111,102,32,100,111,99,117,109,101,110,116,41]
theorem zwQ{s:List Nat}{p:Nat}(h:s.length≤p):zaQ s p++zlf=zAj:=by unfold zaQ;rw[if_pos h];rfl
theorem zx9{s:List Nat}{p:Nat}(h:p<s.length):zaQ s p++zlf≠zAj:=λz=>by
 rw[zpp h]at z;exact absurd (yj (show some 108=some 101 from ya List.head? z)) (by decide)
theorem ztN{s:List Nat}{p:Nat}:Chr (zaQ s p++zlf):=by
 have:Chr (zcH s p ([]:List Nat)):=zjJ .nil;unfold zcH at this;rw[List.append_assoc]at this;exact λc hc=>this c (xe _ hc)
theorem ztP{s row:List Nat}:zfb (zcH row row.length (zhu++za2 [39])) [39] [39,39,39]=zcH s s.length (zhu++za2 [39,39,39]):=by
 unfold zcH zaQ;rw[if_pos (Nat.le_refl _),if_pos (Nat.le_refl _)];decide +kernel
section
variable{n:Nat}{s:List Nat}{b:Nat}{l:List (Nat×Nat)}{f0 f1 f2 b0 b1 b2:Nat}{row:List Nat}{p:Nat}{done:List Nat}{c6 c7 c8 c9 c10 c11 c12 c13 c14:Slot}{K:Fl->Sl->Prop}{X:Err->Sl->Prop}
theorem zpC{m:List Nat}{q:Nat}(hm:40∉m)(hl:m.length≤100)(hr:row.length≤300)
  (k:zaf (zcg n) (zaf (zcl n) (zaf (zcf n) (zaf (zbK n) zam))) K X (m7 s b l row p done c6 c7 (.val (.lst [.str (zcH row q m)])) c9 (.val (.str m)) (.val (.str (zaQ row q++zlf))) c12 c13 c14)) :
  zaf (zdK n) (zaf (zcg n) (zaf (zcl n) (zaf (zcf n) (zaf (zbK n) zam)))) K X (m7 s b l row p done c6 c7 (.val (.lst [.str (zcH row q m)])) c9 c10 c11 c12 c13 c14):=by
 refine zeZ (j:=0) (by decide) rfl rfl ?_;refine zjw (yk (zjk (yk hr (by decide)) (yk hl (by decide))) (by decide)) nofun rfl (zpW hm) ?_;exact k
theorem zxx(hr:row.length≤300)(hK:∀st,K (.ret (.lst [.str (zcH s s.length (zhu++za2 [39,39,39]))])) st) :
  (zaM n) K X (m7 s b l row p done c6 c7 (.val (.lst [.str (zcH row row.length (zhu++za2 [39]))])) c9 c10 c11 c12 c13 c14):=by
 refine za8 rfl ?_;refine zpC (zb6 (by right)) (by right) hr ?_;rw[zwQ (Nat.le_refl _)];refine znG (.of (by decide)) (.of (by decide)) ?_;refine za8 (yv rfl) ?_;refine zeZ (j:=0) (by decide) rfl rfl ?_;refine ym (yk (zjk (yk hr (by decide)) (by right)) (by decide)) ?_;refine ym (zci rfl) ?_;show K (.ret (.lst [.str (zfb (zcH row row.length (zhu++za2 [39])) [39] [39,39,39])])) _;rw[ztP (s:=s)];exact hK _
theorem zrd{k c:Nat}(hl:s.length≤300)(hc:[c]∈zkq)(hk:s[b+k]?=some c)
  (k':∀c12,K .next (m7 s b l row p done (.own [.str (rfW s (b+k,c))]) c7 c8 (.val (.int (k:Nat))) (.val (.str (zbX++za2 [c]))) c11 c12 c13 c14)) :
  zaf (zdS n) (zaf (zdQ n) zam) K X (m7 s b l row p done c6 c7 c8 (.val (.int (k:Nat))) (.val (.str (zbX++za2 [c]))) c11 c12 c13 c14):=by
 have hlt:=zaC hk;have hw:=(zfa (ml:=true) hc).2.1;have hm:(zbX++za2 [c]).length≤40:=zbz (a:=24) (by decide) hw (by decide);refine znC (n:=b) ?_;refine zfP (z:=((b+k:Nat):Int)) (Int.natCast_add ..).symm ?_;refine zmk (q:=b+k) (yk hl (by decide)) ?_;have ht:(s.take (b+k)).length≤300:=yk (List.length_take_le' ..) hl;refine zjw (yk ht (by decide)) nofun rfl rfl ?_;left;obtain⟨r1,r,r2,r3⟩:=zv2 10 _ (s.take (b+k)) (yr _);have rl:((zbg (s.take (b+k)) [10]).map D.str).length=(s.take (b+k)).count 10+1:=(List.length_map ..).trans r1;have hcnt:zev s (b+k)≤302:=yk (zmv s _) (yG (yk hl (by decide)));have hcol:r.length+1=zkp s (b+k):=ya _ r3;have hcl:zkp s (b+k)≤302:=yk (zo4 s _) (yG (yk hl (by decide)));have t1:=zfj (yk hcnt (by decide));have t2:=zfj (yk hcl (by decide));refine zfo (zbC (b:=10) hm (by decide) (by decide)) ?_;refine ym (yk (yJ rl) (yk hcnt (by decide))) ?_;rw[rl];refine zwD (yk hcnt (by decide)) ?_;have a1:(zbX++za2 [c]++[32,40,97,116,32,108,105,110,101,32]).length≤50:=zbz (b:=10) hm (by decide) (by decide);refine zfo (zbC a1 t1 (by decide)) ?_;have a2:=zbz a1 t1 (yr _);refine zfo (zbC (b:=9) a2 (by decide) (by decide)) ?_;have a3:=zbz (y:=[44,32,99,111,108,117,109,110,32]) (b:=9) a2 (by decide) (yr _);refine zzp ?_;refine item_last rl (by rw[List.getElem?_map,r2];rfl) rfl ?_;refine ym (by lia) ?_;refine zfP (z:=((zkp s (b+k):Nat):Int)) (by rw[←hcol];rfl) ?_;refine zwD (yk hcl (by decide)) ?_;refine zfo (zbC a3 t2 (by decide)) ?_;have a4:=zbz a3 t2 (yr _);refine zfo (zbC (b:=1) a4 (by decide) (by decide)) ?_;refine ym (zci rfl) ?_;have e:rfW s (b+k,c)=zbX++za2 [c]++[32,40,97,116,32,108,105,110,101,32]++zbm (zev s (b+k))++[44,32,99,111,108,117,109,110,32]++zbm (zkp s (b+k))++[41]:=by
  unfold rfW zcH zaQ;dsimp only;rw[if_neg (Nat.not_le.mpr hlt)];simp only[List.append_assoc];rfl
 have k':=k' (.own ((zbg (s.take (b+k)) [10]).map D.str));rw[e]at k';exact k'
theorem zx4{k c:Nat}{rf:Option (Nat×Nat)}(hs:okT s=true)(hl:s.length≤300)(hrow:okT row=true)(hr:row.length≤300)(G:Fg n s l f0 f1 f2 b0 b1 b2)(hc:[c]∈zkq)(hk:s[b+k]?=some c)(hk2:row[k]?=some c)(hrf:∀x,rf=some x->[x.2]∈zkq)
  (hN:∀c8 c9 c10 c11 c12,K .next (m7 s b l (row.set k f1) p done (rfS s (some (rf.getD (b+k,c)))) c7 c8 c9 c10 c11 c12 c13 c14)) :
  (zaM n) K X (m7 s b l row p done (rfS s rf) c7 (.val (.lst [.str (zcH row k (zbX++za2 [c]))])) c9 c10 c11 c12 c13 c14):=by
 have hw:=zfa (ml:=true) hc;have hlt:=zaC hk2;refine za8 rfl ?_;refine zpC (zdw (zb6 rfl) hw.1) (yk (zbz (x:=zbX) (a:=24) (by decide) hw.2.1 (yr _)) (by decide)) hr ?_;refine znG ztN (.of (by decide)) ?_;refine za7 (yx (zx9 hlt)) ?_;refine zk2 (by decide) hrow (yk hr (by decide)) hlt ?_
 -- what is put in the row
 have fin:∀(c6 c12:Slot),(∀c8 c9 c10 c11,K .next (m7 s b l (row.set k f1) p done c6 c7 c8 c9 c10 c11 c12 c13 c14))->zaf (zbK n) zam K X (m7 s b l row p done c6 c7 (.val (.lst [.str (zcH row k (zbX++za2 [c]))])) (.val (.int (k:Nat))) (.val (.str (zbX++za2 [c]))) (.val (.str (zaQ row k++zlf))) c12 c13 c14):=λc6 c12 hN=>by
  obtain⟨F,i0,i1,i2,h0,h1,h2⟩:=G;refine zmk (q:=k) (yk hr (by decide)) ?_;refine zeZ (j:=1) (d:=.tstr [f1] b1) (by decide) (by rw[List.getElem?_map,i1];rfl) rfl ?_;refine zfo (zbh (zbC (b:=1) (yk (List.length_take_le' ..) hr) (yr 1) (by decide))) ?_;refine zfP (z:=((k+1:Nat):Int)) rfl ?_;refine zhV (q:=k+1) (yk hr (by decide)) ?_;refine zfo (zbh (zbC (zbz (a:=300) (b:=1) (yk (List.length_take_le' ..) hr) (yr 1) (yr _)) (yk (by rw[List.length_drop];exact Nat.sub_le ..) hr) (by decide))) ?_;have hN:=hN (.val (.lst [.str (zcH row k (zbX++za2 [c]))])) (.val (.int (k:Nat))) (.val (.str (zbX++za2 [c]))) (.val (.str (zaQ row k++zlf)));rw[←zsc hlt]at hN;exact hN
 cases rf with
 |none=>
  refine ym (zci rfl) (ym rfl (ym rfl ?_));refine za8 rfl ?_;exact zrd hl hc hk λc12=>fin _ c12 λc8 c9 c10 c11=>hN c8 c9 c10 c11 c12
 |some x=>
  refine ym (zci rfl) ?_;refine ym (zoB (zxq (hrf x rfl))) (ym rfl ?_);refine za7 rfl ?_;exact fin _ c12 λc8 c9 c10 c11=>hN c8 c9 c10 c11 c12
end
theorem zr5{s:List Nat}{d q m:Nat}(hm:m≤2)(h:∀j,j<m->s[q+j]?=some d)(he:m=2∨¬s[q+m]?=some d):zfI s d q=m:=by
 unfold zfI
 match m,hm,h,he with
 |0,_,h,he=>exact if_neg (he.elim (λz=>nomatch z) λz=>z)
 |1,_,h,he=>rw[if_pos (show s[q]?=some d from h 0 (by decide)),if_neg (he.elim (λz=>nomatch z) λz=>z)]
 |2,_,h,he=>rw[if_pos (show s[q]?=some d from h 0 (by decide)),if_pos (h 1 (by decide))]
theorem zpU{s:List Nat}{c e:Nat}:zdF s true c e↔cut s e (e+3)=[c,c,c]:=⟨λh=>zgi.mpr ⟨h.1,h.2 rfl⟩,λh=>⟨(zgi.mp h).1,λ_=>(zgi.mp h).2⟩⟩
theorem zs3(s:List Nat)(d q:Nat):zfI s d q≤2:=by
 unfold zfI;by_cases h:s[q]?=some d
 ·rw[if_pos h]
  by_cases h2:s[q+1]?=some d
  ·rw[if_pos h2];exact yr _
  ·rw[if_neg h2];exact yi _
 ·rw[if_neg h];exact yb _
section
variable{n:Nat}{s:List Nat}{b:Nat}{l:List (Nat×Nat)}{f0 f1 f2 b0 b1 b2:Nat}{row:List Nat}{p:Nat}{done:List Nat}{c6 c7 c8 c9 c10 c11 c12 c13 c14:Slot}{K:Fl->Sl->Prop}{X:Err->Sl->Prop}{e:Nat}{t:List Nat}
theorem zsi{c:PS}(he:e≤300)(k:c K X (m7 s b l row p done c6 c7 (.val (.tup [.int (e+1:Nat),.str t])) c9 c10 c11 c12 (.val (.int (zfI row 39 (e+3):Nat))) c14)) :
  zaf (zdN n) (zaf (zdk n) c) K X (m7 s b l row p done c6 c7 (.val (.tup [.int (e+1:Nat),.str t])) c9 c10 c11 c12 c13 c14):=by
 refine zgr (st:=m7 s b l row p done c6 c7 (.val (.tup [.int (e+1:Nat),.str t])) c9 c10 c11 c12 (.val (.int (0:Nat))) c14) 2 (λm st=>∃mo:Nat,st=m7 s b l row p done c6 c7 (.val (.tup [.int (e+1:Nat),.str t])) c9 c10 c11 c12 (.val (.int (mo:Nat))) c14∧mo+m=2∧∀j,j<mo->row[e+3+j]?=some 39) (zga 0 rfl rfl λj hj=>absurd hj (yh j)) ?_;intro m st hI;refine zcM hI λmo e1 e2 hall=>?_;subst e1;have hmo:mo≤2:=e2▸yR ..;by_cases h2:mo<2
 ·refine za8 (c:=decide (((mo:Nat):Int)<((2:Nat):Int))) (zq4.trans (yv h2)) ?_
  refine zhn (j:=0) (by decide) rfl rfl ?_;refine zfP (z:=((e+3:Nat):Int)) rfl ?_;refine zfP (z:=((e+3+mo:Nat):Int)) (Int.natCast_add ..).symm ?_;by_cases h3:row[e+3+mo]?=some 39
  ·refine zi8 (p:=[39]) rfl (b:=true) (yv (zdy.mpr h3)) ?_
   refine za8 rfl ?_;refine za8 rfl ?_;refine zbB (m-1) (by lia) (zga (mo+1) rfl (by lia) λj hj=>?_);rcases Nat.lt_or_eq_of_le (Nat.le_of_lt_succ hj)with z|z
   ·exact hall j z
   ·exact z▸h3
  ·refine zi8 (p:=[39]) rfl (b:=false) (yx λz=>h3 (zdy.mp z)) ?_
   refine za7 rfl ?_;refine za7 rfl ?_;rw[zr5 hmo hall (.inr h3)]at k;exact k
 ·refine za7 (c:=decide (((mo:Nat):Int)<((2:Nat):Int))) (zq4.trans (yx h2)) ?_
  refine za7 rfl ?_;rw[zr5 hmo hall (.inl (by lia))]at k;exact k
theorem zvo{rf:Option (Nat×Nat)}{v:D}(hr:row.length≤300)(he:e<row.length)(hd:done.length≤300)(ht:t.length≤300)(G:Fg n s l f0 f1 f2 b0 b1 b2)(hS:zdF row true 39 e)
  (h0:rf=none->v=.tup [.int (b+e+3+zfI row 39 (e+3):Nat),.str ((done++t).map (rp f0 10)++List.replicate (zfI row 39 (e+3)) 39)])(h1:∀x,rf=some x->v=.lst [.str (rfW s x)])
  (hb:b≤400)(hK:∀st,K (.ret v) st) :
  (zaM n) K X (m7 s b l row p done (rfS s rf) c7 (.val (.tup [.int (e+1:Nat),.str t])) c9 c10 c11 c12 c13 c14):=by
 refine za7 rfl ?_;refine zhn (j:=0) (by decide) rfl rfl ?_;refine znC (n:=e) ?_;refine zi8 (p:=[39,39,39]) rfl (b:=true) (yv (zpU.mp hS)) ?_;refine za8 rfl ?_;refine zsi (by lia) ?_;obtain⟨F,i0,i1,i2,q0,q1,q2⟩:=G;have hm:=zs3 row 39 (e+3);generalize zfI row 39 (e+3)=m at h0 hm;have hdt:(done++t).length≤600:=zbz hd ht (by decide);refine zhn (j:=1) (by decide) rfl rfl ?_;refine zfo (zbh (zbC hd ht (by decide))) ?_;refine ym (yk hdt (by decide)) ?_;refine zeZ (j:=0) (d:=.tstr [f0] b0) (by decide) (by rw[List.getElem?_map,i0];rfl) rfl ?_;refine ym ⟨q0,nofun,λz=>?_,zci rfl⟩ ?_
 ·have:=F.g0
  have:=(yQ z).1;lia
 rw[zeb];refine zz9 (c:=39) (m:=m) (yk hm (by decide)) ?_;refine zfo (zbh (zbC (a:=600) (b:=2) (by rw[List.length_map];exact hdt) (by rw[List.length_replicate];exact hm) (by decide))) ?_;cases rf with
 |none=>
  obtain⟨z,hz,hs⟩:∃z:List D,z=[]∧rfS s none=.val (.lst z):=⟨_,rfl,rfl⟩;rw[hs];refine zju (l:=z) (by rw[hz];decide) ?_;refine za7 (by rw[hz];rfl) ?_;clear hz hs;refine zhn (j:=0) (by decide) rfl rfl ?_;refine zfP (z:=((b+e+2:Nat):Int)) (by lia) ?_;refine zfP (z:=((b+e+3:Nat):Int)) rfl ?_;refine zfP (z:=((b+e+3+m:Nat):Int)) (Int.natCast_add ..).symm ?_;refine ym (zci rfl) ?_;exact h0 rfl▸hK _
 |some x=>
  obtain⟨z,hz,hs⟩:∃z:List D,z=[.str (rfW s x)]∧rfS s (some x)=.own z:=⟨_,rfl,rfl⟩;rw[hs];refine zju (l:=z) (by rw[hz];exact yG (yb _)) ?_;refine za8 (by rw[hz];rfl) ?_;have hv:=h1 x rfl;rw[←hz]at hv;rw[hv]at hK;exact hK _
theorem zzk(hr:row.length≤300)(he:e<row.length)(hd:done.length≤300)(ht:t.length≤300)(hS:¬zdF row true 39 e)
  (hN:∀c8,K .next (m7 s b l row e (done++(t++[39])) c6 c7 c8 c9 c10 c11 c12 c13 c14)) :
  (zaM n) K X (m7 s b l row p done c6 c7 (.val (.tup [.int (e+1:Nat),.str t])) c9 c10 c11 c12 c13 c14):=by
 refine za7 rfl ?_;refine zhn (j:=0) (by decide) rfl rfl ?_;refine znC (n:=e) ?_;refine zi8 (p:=[39,39,39]) rfl (b:=false) (yx λz=>hS (zpU.mpr z)) ?_;refine za7 rfl ?_;refine zhn (j:=1) (by decide) rfl rfl ?_;refine zfo (zbh (zbC ht (yr 1) (by decide))) ?_;refine ym (zbh (zbC hd (zbz (b:=1) ht (yr 1) (yr _)) (by decide))) ?_;refine zhn (j:=0) (by decide) rfl rfl ?_;refine znC (n:=e) ?_;exact hN _
noncomputable def zq1(row:List Nat)(p:Nat):Nat:=(row.length-p)+zws false row
theorem zvx{rf:Option (Nat×Nat)}(hs:okT s=true)(hl:s.length≤200)(hb:b≤300)(G:Fg n s l f0 f1 f2 b0 b1 b2)(hK:∀st,K (.ret (toL (zn0 s (b+1)))) st)(I:zyE s b f0 f1 row p done rf)
  (hN:∀row' p' done' rf' c8 c9 c10 c11 c12,zyE s b f0 f1 row' p' done' rf'->zq1 row' p'<zq1 row p->K .next (m7 s b l row' p' done' (rfS s rf') c7 c8 c9 c10 c11 c12 c13 c14)) :
  zaf (zcn n) (zaf (zaM n) zam) K X (m7 s b l row p done (rfS s rf) c7 c8 c9 c10 c11 c12 c13 c14):=by
 have hF:Frn s f0 f1 f2:=by obtain⟨F,_⟩:=G;exact F
 have T:=zBv hF I;obtain⟨R,h39,no3,fresh,first,dlen⟩:=I;have hrl:row.length≤201:=by obtain⟨h,_⟩:=R;omega
 have hr3:row.length≤300:=yk hrl (by decide);have hl3:s.length≤300:=yk hl (by decide);have hp:p<row.length:=zaC h39;have hd3:done.length≤300:=yk dlen (yk (yc hp) hr3);have hrow:okT row=true:=zrY (yk hrl (by decide)) (R.chr hF (zil hs));have hx:∀x,rf=some x->[x.2]∈zkq:=λx hx=>(first x.1 x.2 hx).1.bad;clear first fresh no3 hrl
 refine zmn (m:=[39]) (by decide) hrow (yk (yc hp) (yk hr3 (by decide))) ?_;rw[show zkv [39] row p=zrc row p from if_pos rfl];cases T with
 |eof h1 h2=>
  rw[h1];rw[h2]at hK;exact zxx hr3 hK
 |bad k c h0 h1 h2 h3 h4 h5=>
  rw[h1];refine zx4 hs hl3 hrow hr3 G ((R.ill hF (yY (yb p) h0) h2 h4).2) h3 h2 hx λc8 c9 c10 c11 c12=>hN _ _ _ _ _ _ _ _ _ h5 ?_;have e1:=zwt (ml:=false) h2 h4 (zrQ hF.g1);have e2:(row.set k f1).length=row.length:=List.length_set ..;unfold zq1;omega
 |stop e h0 h1 h2 h3 h4=>
  rw[h1];have he:=zaC h2.1;have hcl:(cut row (p+1) e).length≤300:=yk (zhD ..) hr3;refine zvo (v:=toL (zn0 s (b+1))) hr3 he hd3 hcl G h2 (λhn=>?_) (λx hx=>?_) (yk hb (by decide)) hK
  ·obtain⟨e1,e2⟩:=h3 hn
   have em:zfI s 39 (b+e+3)=zfI row 39 (e+3):=by
    refine(zpv λi=>?_).symm;rw[R.q hF (by omega)];have:b+(e+3+i)=b+e+3+i:=by omega
    rw[this]
   have er:((cut s (b+1) (b+e)).map (rp 10 f0)).map (rp f0 10)=cut s (b+1) (b+e):=by
    rw[List.map_map];refine(List.map_congr_left λc hc=>?_).trans (List.map_id _);refine zcM (zh0 hc) λi _ _ h=>?_;show rp f0 10 (rp 10 f0 c)=c;by_cases z:c=10
    ·rw[z,zhT,zhT]
    ·rw[zdJ z,zdJ λw:c=f0=>hF.n0 (w▸List.mem_of_getElem? h)]
   rw[e1,e2,ziy,em,er];rfl
  ·rw[h4 x.1 x.2 hx];rfl
 |on e h0 h1 h2 h3 h4=>
  rw[h1];have he:=zaC h3;have hcl:(cut row (p+1) e).length≤300:=yk (zhD ..) hr3;refine zzk hr3 he hd3 hcl h2 λc8=>hN _ _ _ _ _ _ _ _ _ h4 ?_;unfold zq1;omega
theorem zp9(hs:okT s=true)(hl:s.length≤200)(hb:b≤300)(G:Fg n s l f0 f1 f2 b0 b1 b2)(hK:∀st,K (.ret (toL (zn0 s (b+1)))) st):∀(js:List D){row:List Nat}{p:Nat}{done:List Nat}{rf:Option (Nat×Nat)}{c7 c8 c9 c10 c11 c12 c13 c14:Slot},
  zyE s b f0 f1 row p done rf->zq1 row p<js.length->zwy 7 (zaf (zcn n) (zaf (zaM n) zam)) js K X (m7 s b l row p done (rfS s rf) c7 c8 c9 c10 c11 c12 c13 c14)
 |[],row,p,done,rf,c7,c8,c9,c10,c11,c12,c13,c14,I,hm=>absurd hm (yh _)
 |j::js,row,p,done,rf,c7,c8,c9,c10,c11,c12,c13,c14,I,hm=>
  zvx (c7:=.val j) hs hl hb G hK I λrow' p' done' rf' c8 c9 c10 c11 c12 I' h'=>zp9 hs hl hb G hK js I' (yA h' (Nat.le_of_lt_succ hm))
theorem zwP(ml:Bool)(l:List Nat):zws ml l≤l.length:=List.countP_le_length
theorem zuV{Q:D->Prop}{X:Err->Prop}(hs:okT s=true)(hl:s.length≤200)(hb:b≤300)(G:Fg n s l f0 f1 f2 b0 b1 b2)(h:Q (toL (zn0 s (b+1)))):zdb n (zmD Q) (λx _=>X x) (start [.str s,.int (b+1:Nat),.lst (l.map tkD)] 12++List.replicate 0 (.cel none)):=by
 have hd:(s.drop (b+1)).length≤200:=yk (by rw[List.length_drop];exact Nat.sub_le ..) hl;have G':=G;obtain⟨F,i0,i1,i2,q0,q1,q2⟩:=G';refine zhV (q:=b+1) (yk hl (by decide)) ?_;refine ym (yk hd (by decide)) ?_;refine zeZ (j:=0) (d:=.tstr [f0] b0) (by decide) (by rw[List.getElem?_map,i0];rfl) rfl ?_;refine ym ⟨q0,nofun,λz=>?_,zci rfl⟩ ?_
 ·have:=F.g0
  have:=(yQ z).1;lia
 rw[zeb];refine zfo (zbh (zbC (a:=1) (b:=200) (yr 1) (by rw[List.length_map];exact hd) (by decide))) ?_;refine ym (zci rfl) ?_;refine ym (zci rfl) ?_;refine ym (yk hl (by decide)) ?_;refine zx6 (by right) ?_;refine zfP (z:=((2*s.length+9:Nat):Int)) (by rw[Int.natCast_add,Int.natCast_mul];rfl) ?_;refine zo0 (by lia) ?_;have I:=zwg (s:=s) (b:=b) (f0:=f0) (f1:=f1);refine zp9 (n:=n) (l:=l) hs hl hb G (λst=>h) _ I ?_;rw[List.length_map,List.length_range];have:=zwP false (39::(s.drop (b+1)).map (rp 10 f0));unfold zq1;rw[List.length_cons,List.length_map,List.length_drop]at this⊢;lia
theorem zAE(ds dk:List D)(Q:D->Prop)(X:Err->Prop)(h:zbu (zbL n ds dk) Q X):dk=[]∧ds.length=3∧zdb n (zmD Q) (λx _=>X x) (start ds 12++List.replicate 0 (.cel none)):=by
 left;obtain⟨s,q,l,e1,e2,h'⟩:=zhI h;clear h;subst e1 e2;refine zb0 (zdR h') λhc h=>?_;obtain⟨h1,h2⟩:=yw.mp hc;obtain⟨h3,h4⟩:=yw.mp h1;obtain⟨h5,h6⟩:=yw.mp h2;have h5:=yF h5;obtain⟨b,rfl⟩:∃b:Nat,q=((b+1:Nat):Int):=⟨(q-1).toNat,by lia⟩;obtain⟨f0,f1,f2,b0,b1,b2,G⟩:=zwU h6;refine⟨rfl,rfl,zuV h3 (yF h4) (by lia) G (zf2 h)⟩
theorem zyG{Q:D->Prop}{X:Err->Prop}(hs:okT s=true)(hl:s.length≤200)(hb:b≤299)(hf:zpH n s l=true)(h:Q (toL (zn0 s (b+1)))):zbu (zbL n [.str s,.int (b+1:Nat),.lst (l.map tkD)] []) Q X:=by
 have e:cJ.of (.lst (l.map tkD))=some l:=zjq l;show zbu (zdo cJ [.lst (l.map tkD)] λz ds=>zng ds (zng [] _)) Q X;unfold zdo;dsimp only;rw[e];refine zfS (by rw[hs,hf,decide_eq_true hl,decide_eq_true (show(1:Int)≤((b+1:Nat):Int)∧((b+1:Nat):Int)≤300 by lia)];rfl) ?_;exact(zcb ..).mpr h
end
noncomputable def zdd(ml:Bool)(s:List Nat)(p:Nat):Nat:=if ml then lfN s p else p+1
noncomputable def zth(ml:Bool)(U:List Nat)(r:Nat×List Nat):R:=if ml then zfC U 34 r.1 r.2 else .ok r
theorem zw0(ml:Bool)(s:List Nat)(p:Nat):zxL (mks ml 39) s p=zjl ml s (zdd ml s p):=by
 cases ml with
 |true=>exact if_neg (by decide)
 |false=>exact if_pos rfl
noncomputable def zsR(ml:Bool)(U:List Nat)(r:R):R:=match r with
 |.error m=>.error m
 |.ok r=>zth ml U r
theorem zwe(ml:Bool)(U:List Nat)(r:Nat×List Nat):zsR ml U (.ok r)=zth ml U r:=rfl
theorem znD(ml:Bool)(U:List Nat)(m:List Nat):zsR ml U (.error m)=.error m:=rfl
theorem zxa(ml:Bool)(U:List Nat)(p:Nat):zkv (mks ml 34) U p=zsR ml U (zcv U ml (zdd ml U p)):=by
 cases ml with
 |true=>
  have e:zkv (mks true 34) U p=zkf U false p:=(if_neg (by decide)).trans (if_neg (by decide));rw[e];show zzj U (lfN U p)=zsR true U (zcv U true (lfN U p));unfold zzj;cases zcv U true (lfN U p)<;>rfl
 |false=>
  have e:zkv (mks false 34) U p=zcv U false (p+1):=(if_neg (by decide)).trans (if_pos rfl);rw[e];show zcv U false (p+1)=zsR false U (zcv U false (p+1));cases zcv U false (p+1)<;>rfl
noncomputable def rfL(s:List Nat):Option (Nat×Nat)->List D
 |none=>[]
 |some x=>[.str (rfW s x)]
noncomputable def zpd:List Nat:=[73,108,108,101,103,97,108]
noncomputable def zt2:List Nat:=[70,111,117,110,100,32,105,110,118,97,108,105,100]
theorem zw8{l p z:List Nat}{c:Nat}(h0:p[0]?=some c)(h:c∉l):zfb l p z=l:=by
 refine zmZ (zmU λi _ hi=>h ?_);unfold zee at hi;have e:=eq_of_beq (yw.mp hi).2;have hc:c∈(l.drop i).take p.length:=by rw[e];exact yy h0
 exact List.mem_of_mem_drop (List.mem_of_mem_take hc)
theorem zCP{s:List Nat}{p:Nat}:73∉zaQ s p:=by
 unfold zaQ;by_cases h:s.length≤p
 ·rw[if_pos h];exact zb6 rfl
 ·rw[if_neg h];exact zdw (zdw (zdw (zb6 rfl) (zkY (by decide))) (zb6 rfl)) (zkY (by decide))
theorem zvj{ml:Bool}{s U:List Nat}{k c:Nat}(hc:[c]∈zfG ml)(h:zaQ U k=zaQ s k):zfb (zcH U k (zgW++za2 [c])) zpd zt2=rfW s (k,c):=by
 have hw:=(zfa hc).2.2.2;have e:zcH U k (zgW++za2 [c])=zpd++(([32,99,104,97,114,97,99,116,101,114,32]++za2 [c])++zzm++zaQ U k++zlf):=by
  unfold zcH;simp only[←List.append_assoc];rfl
 rw[e,zp5 (p:=zpd) (by decide),zw8 (c:=73) rfl (zdw (zdw (zdw (zdw (zb6 rfl) hw) (zb6 rfl)) zCP) (zb6 rfl)),h];unfold rfW zcH;simp only[←List.append_assoc];rfl
theorem ztX{ml:Bool}{s U:List Nat}{p:Nat}(h:U.length≤p):[69,120,112,101,99,116,101,100,32,34]++mks ml 39++[34,32,40,97,116,32]++(zaQ U p++zlf)=zcH s s.length (zhu++za2 (mks ml 39)):=by
 rw[zwQ h];unfold zcH zaQ;rw[if_pos (Nat.le_refl _)];cases ml<;>decide +kernel
@[reducible]noncomputable def e7(s:List Nat)(p:Nat)(ml:Bool)(l:List (Nat×Nat))(U:List Nat)(rf:List D)(c6 c7 c8 c9 c10 c11:Slot):Sl:=
 [.val (.str s),.val (.int (p:Nat)),.val (.str (mks ml 39)),.val (.lst (l.map tkD)),.val (.str U),.own rf,c6,c7,c8,c9,c10,c11]
section
variable{n:Nat}{s:List Nat}{p:Nat}{ml:Bool}{l:List (Nat×Nat)}{f0 f1 f2 b0 b1 b2:Nat}{U:List Nat}{c6 c7 c8 c9 c10 c11:Slot}{K:Fl->Sl->Prop}{X:Err->Sl->Prop}
@[reducible]noncomputable def zic(n:Nat):PS:=zaf (zd1 n) (zaf (zcC n) (zaf (zcz n) (zaf (zbW n) (zaf (zbV n) zam))))
theorem zwf{rf:Option (Nat×Nat)}{v:D}{p':Nat}{t:List Nat}(ht:t.length≤400)(G:Fg n s l f0 f1 f2 b0 b1 b2)
  (h0:rf=none->v=.tup [.int (p':Nat),.str (t.map (um f0 f1))])(h1:∀x,rf=some x->v=.lst [.str (rfW s x)])(hK:∀st,K (.ret v) st) :
  zaf (zaS n) (zic n) K X (e7 s p ml l U (rfL s rf) c6 (.val (.tup [.int (p':Nat),.str t])) c8 c9 c10 c11):=by
 obtain⟨F,i0,i1,i2,q0,q1,q2⟩:=G;have g0:=F.g0;have g1:=F.g1;have ht2:t.length≤1000000:=yk ht (by decide);refine za8 (c:=!false) rfl ?_;refine zhn (j:=1) (by decide) rfl rfl ?_;refine ym ht2 ?_;rw[zeb];refine ym (by rw[List.length_map];exact ht2) ?_;refine zeZ (j:=0) (d:=.tstr [f0] b0) (by decide) (by rw[List.getElem?_map,i0];rfl) rfl ?_;refine ym ⟨q0,nofun,λz=>?_,zci rfl⟩ ?_
 ·have:=(yQ z).1;omega
 rw[zeb];refine ym (by rw[List.length_map,List.length_map];exact ht2) ?_;refine zeZ (j:=1) (d:=.tstr [f1] b1) (by decide) (by rw[List.getElem?_map,i1];rfl) rfl ?_;refine ym ⟨q1,nofun,λz=>?_,zci rfl⟩ ?_
 ·have:=(yQ z).1;omega
 rw[zeb,List.map_map,List.map_map];cases rf with
 |none=>
  obtain⟨z,hz,hs⟩:∃z:List D,z=[]∧rfL s none=z:=⟨_,rfl,rfl⟩;rw[hs];refine zju (l:=z) (by rw[hz];decide) ?_;refine za7 (by rw[hz];rfl) ?_;refine zhn (j:=0) (by decide) rfl rfl ?_;refine ym (zci rfl) ?_;rw[h0 rfl]at hK;exact hK _
 |some x=>
  obtain⟨z,hz,hs⟩:∃z:List D,z=[.str (rfW s x)]∧rfL s (some x)=z:=⟨_,rfl,rfl⟩;rw[hs];refine zju (l:=z) (by rw[hz];exact yG (yb _)) ?_;refine za8 (by rw[hz];rfl) ?_;have hv:=h1 x rfl;rw[←hz]at hv;rw[hv]at hK;exact hK _
theorem znu{m:List Nat}{q:Nat}{rf:List D}(hm:40∉m)(hl:m.length≤100)(hU:U.length≤300)
  (k:zaf (zcC n) (zaf (zcz n) (zaf (zbW n) (zaf (zbV n) zam))) K X (e7 s p ml l U rf c6 (.val (.lst [.str (zcH U q m)])) c8 c9 (.val (.str m)) (.val (.str (zaQ U q++zlf))))) :
  zaf (zaS n) (zic n) K X (e7 s p ml l U rf c6 (.val (.lst [.str (zcH U q m)])) c8 c9 c10 c11):=by
 refine za7 (c:=!true) rfl ?_;refine zeZ (j:=0) (by decide) rfl rfl ?_;refine zjw (yk (zjk (yk hU (by decide)) (yk hl (by decide))) (by decide)) nofun rfl (zpW hm) ?_;exact k
theorem zv7{q:Nat}(hU:U.length≤300):(zaQ U q++zlf).length≤101:=zbz (b:=1) (zj9 (yk hU (by decide)) q) (yr 1) (yr _)
theorem zyr{q:Nat}{rf:List D}(hU:U.length≤300)(hq:U.length≤q)(hK:∀st,K (.ret (.lst [.str (zcH s s.length (zhu++za2 (mks ml 39)))])) st) :
  zaf (zaS n) (zic n) K X (e7 s p ml l U rf c6 (.val (.lst [.str (zcH U q zfz)])) c8 c9 c10 c11):=by
 refine znu (zb6 rfl) (by decide) hU ?_;refine znG (.of (by decide)) (.of (by decide)) ?_;refine za8 (yv rfl) ?_;have h3:(mks ml 39).length≤3:=by cases ml<;>decide
 have a1:([69,120,112,101,99,116,101,100,32,34]++mks ml 39).length≤13:=zbz (a:=10) (yr 10) h3 (yr _);refine zfo (zbh (zbC (a:=10) (yr 10) h3 (by decide))) ?_;refine zfo (zbh (zbC (b:=6) a1 (yr 6) (by decide))) ?_;refine zfo (zbh (zbC (zbz (b:=6) a1 (yr 6) (yr _)) (zv7 hU) (by decide))) ?_;refine ym (zci rfl) ?_;rw[←ztX hq]at hK;exact hK _
theorem zym{k c:Nat}{rf:Option (Nat×Nat)}(hU:okT U=true)(hl:U.length≤300)(G:Fg n s l f0 f1 f2 b0 b1 b2)(hc:[c]∈zfG ml)(hk2:U[k]?=some c)(hco:rf=none->zaQ U k=zaQ s k)(hrf:∀x,rf=some x->[x.2]∈zfG ml)
  (hN:∀c7 c8 c10 c11,K .next (e7 s p ml l (U.set k f2) (rfL s (some (rf.getD (k,c)))) c6 c7 c8 c9 c10 c11)) :
  zaf (zaS n) (zic n) K X (e7 s p ml l U (rfL s rf) c6 (.val (.lst [.str (zcH U k (zgW++za2 [c]))])) c8 c9 c10 c11):=by
 have hw:=zfa hc;have hlt:=zaC hk2;have hm:(zgW++za2 [c]).length≤40:=zbz (a:=18) (by decide) hw.2.1 (by decide);refine znu (zdw (zb6 rfl) hw.1) (yk hm (by decide)) hl ?_;refine znG ((Chr.of (by decide)).app hw.2.2.1) (.of (by decide)) ?_;refine za7 (yx λz=>absurd (yj (show some 73=some 85 from ya List.head? z)) (by decide)) ?_;have fin:∀rf:List D,(∀c7 c8 c10 c11,K .next (e7 s p ml l (U.set k f2) rf c6 c7 c8 c9 c10 c11))->zaf (zbW n) (zaf (zbV n) zam) K X (e7 s p ml l U rf c6 (.val (.lst [.str (zcH U k (zgW++za2 [c]))])) c8 c9 (.val (.str (zgW++za2 [c]))) (.val (.str (zaQ U k++zlf)))):=λrf hN=>by
  obtain⟨F,i0,i1,i2,h0,h1,h2⟩:=G;refine zk2 (by decide) hU (yk hl (by decide)) hlt ?_;refine zmk (q:=k) (yk hl (by decide)) ?_;refine zeZ (j:=2) (d:=.tstr [f2] b2) (by decide) (by rw[List.getElem?_map,i2];rfl) rfl ?_;refine zfo (zbh (zbC (b:=1) (yk (List.length_take_le' ..) hl) (yr 1) (by decide))) ?_;refine zfP (z:=((k+1:Nat):Int)) rfl ?_;refine zhV (q:=k+1) (yk hl (by decide)) ?_;refine zfo (zbh (zbC (zbz (a:=300) (b:=1) (yk (List.length_take_le' ..) hl) (yr 1) (yr _)) (yk (by rw[List.length_drop];exact Nat.sub_le ..) hl) (by decide))) ?_;have hN:=hN (.val (.lst [.str (zcH U k (zgW++za2 [c]))])) (.val (.int (k:Nat))) (.val (.str (zgW++za2 [c]))) (.val (.str (zaQ U k++zlf)));rw[←zsc hlt]at hN;exact hN
 cases rf with
 |none=>
  refine ym (zci rfl) (ym rfl (ym rfl ?_));refine za8 rfl ?_;refine zeZ (j:=0) (by decide) rfl rfl ?_;refine ym (yk (zjk (yk hl (by decide)) (yk hm (by decide))) (by decide)) ?_;refine ym (zci rfl) ?_;have e:=zvj hc (hco rfl);have hN:∀c7 c8 c10 c11,K .next (e7 s p ml l (U.set k f2) [.str (zfb (zcH U k (zgW++za2 [c])) zpd zt2)] c6 c7 c8 c9 c10 c11):=by rw[e];exact hN
  exact fin _ hN
 |some x=>
  refine ym (zci rfl) ?_;refine ym (zoB (zjJ ((Chr.of (by decide)).app (zfa (hrf x rfl)).2.2.1))) (ym rfl ?_);refine za7 rfl ?_;exact fin _ hN
end
theorem zq2(ml:Bool):zfb (mks ml 39) [39] [34]=mks ml 34:=by
 rw[zeb];cases ml<;>rfl
theorem zsm(ml:Bool)(c:Nat):1≤(mks ml c).length∧(mks ml c).length≤3:=by cases ml<;>exact⟨zci rfl,zci rfl⟩
section
variable{n:Nat}{s:List Nat}{p:Nat}{ml:Bool}{l:List (Nat×Nat)}{f0 f1 f2 b0 b1 b2:Nat}{U:List Nat}{c6 c7 c8 c9 c10 c11:Slot}{K:Fl->Sl->Prop}{X:Err->Sl->Prop}
theorem zCg(F:Frn s f0 f1 f2):um f0 f1 34=39:=by
 have h0:=F.g0;have h1:=F.g1;unfold um;rw[zhT,zdJ (show 39≠f0 by omega),zdJ (show 39≠f1 by omega)]
theorem zAL{e:Nat}{no:Prop}(R:zdX s f0 f1 f2 ml no U)(F:Frn s f0 f1 f2)(he:e<U.length):∃p' t,zth ml U (e+(mks ml 34).length,cut U (zdd ml s p) e)=.ok (p',t)∧t.length≤U.length+2 ∧
  ((cut U (zdd ml s p) e).map (um f0 f1)=cut s (zdd ml s p) e->zBf ml s (zdd ml s p) e=.ok (p',t.map (um f0 f1))):=by
 have hc:=zhD U (zdd ml s p) e;cases ml with
 |false=>exact⟨_,_,rfl,yk hc (yR ..),λh=>by rw[h];rfl⟩
 |true=>
  refine⟨_,_,ziy ..,?_,λh=>?_⟩
  ·rw[List.length_append,List.length_replicate];exact ye hc (zs3 ..)
  ·have em:zfI s 39 (e+3)=zfI U 34 (e+3):=(zpv λi=>R.q F).symm
   rw[List.map_append,List.map_replicate,zCg F,h];show zfC s 39 (e+3) _=_;rw[ziy,em];rfl
theorem zu1{no:Prop}(R:zdX s f0 f1 f2 ml no U)(F:Frn s f0 f1 f2):zdd ml U p=zdd ml s p:=by
 cases ml with
 |false=>rfl
 |true=>exact zyF R F p
theorem zvl{rf:Option (Nat×Nat)}(hs:okT s=true)(hl:s.length≤200)(hp:p≤300)(G:Fg n s l f0 f1 f2 b0 b1 b2)(hK:∀st,K (.ret (toL (zjl ml s (zdd ml s p)))) st)(I:zzf s f0 f1 f2 ml (zdd ml s p) U rf)
  (hN:∀U' rf' c7 c8 c10 c11,zzf s f0 f1 f2 ml (zdd ml s p) U' rf'->zws ml U'<zws ml U->K .next (e7 s p ml l U' (rfL s rf') c6 c7 c8 c9 c10 c11)) :
  zaf (zcB n) (zaf (zaS n) (zic n)) K X (e7 s p ml l U (rfL s rf) c6 c7 c8 c9 c10 c11):=by
 have F:Frn s f0 f1 f2:=by obtain⟨F,_⟩:=G;exact F
 have T:=zxu F I;obtain⟨R,first⟩:=I;have hUl:U.length=s.length:=by obtain⟨h,_⟩:=R;exact h
 have hU3:U.length≤300:=by rw[hUl];exact yk hl (by decide)
 have hU:okT U=true:=zrY (yk hU3 (by decide)) (R.chr F (zil hs));have hx:∀x,rf=some x->[x.2]∈zfG ml:=λx hx=>(first x.1 x.2 hx).1.bad;clear first
 have hm:=zsm ml 39;refine ym (yk hm.2 (by decide)) ?_;rw[zq2];refine zmn (m:=mks ml 34) (by cases ml<;>decide) hU (yk hp (by decide)) ?_;rw[zxa,zu1 R F];cases T with
 |eof q h0 h1 h2=>
  rw[h1,znD];rw[h2]at hK;exact zyr (rf:=rfL s rf) hU3 (hUl▸h0) hK
 |bad k c h1 h2 h3 h4 h5 h6=>
  rw[h1,znD];refine zym hU hU3 G h4 h2 h5 hx λc7 c8 c10 c11=>hN _ _ _ _ _ _ h6 ?_;have e1:=zwt h2 h4 (zrQ F.g2);omega
 |stop e h0 h1 h2 h3=>
  rw[h1];obtain⟨p',t,e1,e2,e3⟩:=zAL (p:=p) R F h0;rw[zwe,e1];refine zwf (p':=p') (t:=t) (v:=toL (zjl ml s (zdd ml s p))) (by omega) G (λhn=>?_) (λx hx=>?_) hK
  ·obtain⟨g1,g2⟩:=h2 hn
   rw[g1,e3 g2];rfl
  ·rw[h3 x.1 x.2 hx];rfl
theorem zo9(hs:okT s=true)(hl:s.length≤200)(hp:p≤300)(G:Fg n s l f0 f1 f2 b0 b1 b2)(hK:∀st,K (.ret (toL (zjl ml s (zdd ml s p)))) st):∀(js:List D){U:List Nat}{rf:Option (Nat×Nat)}{c6 c7 c8 c9 c10 c11:Slot},
  zzf s f0 f1 f2 ml (zdd ml s p) U rf->zws ml U<js.length->zwy 6 (zaf (zcB n) (zaf (zaS n) (zic n))) js K X (e7 s p ml l U (rfL s rf) c6 c7 c8 c9 c10 c11)
 |[],U,rf,c6,c7,c8,c9,c10,c11,I,hm=>absurd hm (yh _)
 |j::js,U,rf,c6,c7,c8,c9,c10,c11,I,hm=>
  zvl (c6:=.val j) hs hl hp G hK I λU' rf' c7 c8 c10 c11 I' h'=>zo9 hs hl hp G hK js I' (yA h' (Nat.le_of_lt_succ hm))
theorem zuB{Q:D->Prop}{X:Err->Prop}(hs:okT s=true)(hl:s.length≤200)(hp:p≤300)(G:Fg n s l f0 f1 f2 b0 b1 b2)(h:Q (toL (zxL (mks ml 39) s p))):zdl n (zmD Q) (λx _=>X x) (start [.str s,.int (p:Nat),.str (mks ml 39),.lst (l.map tkD)] 8++List.replicate 0 (.cel none)):=by
 rw[zw0]at h;have G':=G;obtain⟨F,i0,i1,i2,q0,q1,q2⟩:=G';have g0:=F.g0;have g1:=F.g1;have hl6:s.length≤1000000:=yk hl (by decide);refine ym hl6 ?_;refine zeZ (j:=0) (d:=.tstr [f0] b0) (by decide) (by rw[List.getElem?_map,i0];rfl) rfl ?_;refine ym ⟨q0,nofun,λz=>?_,zci rfl⟩ ?_
 ·have:=(yQ z).1;omega
 rw[zeb];refine ym (by rw[List.length_map];exact hl6) ?_;refine zeZ (j:=1) (d:=.tstr [f1] b1) (by decide) (by rw[List.getElem?_map,i1];rfl) rfl ?_;refine ym ⟨q1,nofun,λz=>?_,zci rfl⟩ ?_
 ·have:=(yQ z).1;omega
 rw[zeb];refine ym (by rw[List.length_map,List.length_map];exact hl6) ?_;rw[zeb,List.map_map,List.map_map];refine ym (zci rfl) ?_;refine ym hl6 ?_;refine zfP (z:=((s.length+9:Nat):Int)) rfl ?_;refine zo0 (by omega) ?_;have I:=zrG (s:=s) (f0:=f0) (f1:=f1) (f2:=f2) (ml:=ml) (q:=zdd ml s p);refine zo9 (n:=n) (l:=l) hs hl hp G (λst=>h) _ I ?_;rw[List.length_map,List.length_range];have:=zwP ml (s.map (mu f0 f1));rw[List.length_map]at this;omega
theorem zAB(ds dk:List D)(Q:D->Prop)(X:Err->Prop)(h:zbu (zbw n ds dk) Q X):dk=[]∧ds.length=4∧zdl n (zmD Q) (λx _=>X x) (start ds 8++List.replicate 0 (.cel none)):=by
 obtain⟨s,q,m,l,e1,e2,h'⟩:=zwj h;clear h;subst e1 e2;refine zb0 (zdR h') λhc h=>?_;obtain⟨h1,h2⟩:=yw.mp hc;obtain⟨h3,h4⟩:=yw.mp h1;obtain⟨h5,h6⟩:=yw.mp h2;obtain⟨h7,h8⟩:=yw.mp h6;have h5:=yF h5;have h7:=yF h7;obtain⟨p,rfl⟩:=Int.eq_ofNat_of_zero_le h5.1;obtain⟨f0,f1,f2,b0,b1,b2,G⟩:=zwU h8;obtain⟨ml,rfl⟩:∃ml,m=mks ml 39:=by
  rcases yz.mp h7 with z|z
  ·exact⟨false,z⟩
  ·exact⟨true,xc.mp z⟩
 exact⟨rfl,rfl,zuB h3 (yF h4) (by omega) G (zf2 h)⟩
theorem zrD{Q:D->Prop}{X:Err->Prop}(hs:okT s=true)(hl:s.length≤200)(hp:p≤300)(hf:zpH n s l=true)(h:Q (toL (zjl ml s (zdd ml s p)))):zbu (zbw n [.str s,.int (p:Nat),.str (mks ml 39),.lst (l.map tkD)] []) Q X:=by
 have e:cJ.of (.lst (l.map tkD))=some l:=zjq l;show zbu (zdo cJ [.lst (l.map tkD)] λz ds=>zng ds (zng [] _)) Q X;unfold zdo;dsimp only;rw[e];refine zfS (by rw[hs,hf,decide_eq_true hl,decide_eq_true (show(0:Int)≤((p:Nat):Int)∧((p:Nat):Int)≤300 by omega),decide_eq_true (show mks ml 39∈[[39],[39,39,39]] by cases ml<;>decide)];rfl) ?_;rw[←zw0]at h;exact(zcb ..).mpr h
end
noncomputable def zAk(s:List Nat):List Nat:=(List.range (s.length+3)).filter λj=>decide (19968+j∉s)
theorem zy6(s:List Nat):3≤(zAk s).length:=by
 have h1:=List.length_eq_countP_add_countP (l:=List.range (s.length+3)) λj=>decide (19968+j∉s);rw[List.countP_eq_length_filter,List.countP_eq_length_filter]at h1;have h2:(((List.range (s.length+3)).filter λj=>decide ¬decide (19968+j∉s)=true).map (19968 + ·)).length≤s.length:=by
  refine List.Nodup.length_le_of_subset ?_ λx hx=>?_
  ·exact List.Pairwise.map _ (λa b h z=>h (Nat.add_left_cancel z)) (List.Nodup.sublist List.filter_sublist List.nodup_range)
  ·refine zaO (List.mem_map.mp hx) λj hj e=>?_
   have:=(List.mem_filter.mp hj).2;rw[←e];simpa using this
 rw[List.length_map]at h2;rw[List.length_range]at h1;unfold zAk;omega
theorem zAy{s:List Nat}(hl:s.length≤200){es:List D}{k:Nat}(h:zy9 (λ(j:Nat) d=>∃b,d=.tstr [19968+j] b) (zAk s) es)(ht:∀d∈es,zBh d≤k):∃l,es=l.map tkD∧zpH k s l=true:=by
 have go:∀{js:List Nat}{es:List D},zy9 (λ(j:Nat) d=>∃b,d=.tstr [19968+j] b) js es->(∀d∈es,zBh d≤k)->∃l:List (Nat×Nat),es=l.map tkD∧l.map (·.1)=js.map (19968 + ·)∧∀x∈l,x.2≤k:=λh=>by
  induction h with
  |nil=>exact λ_=>⟨[],rfl,rfl,λx hx=>zcx hx⟩
  |@cons j d js es hd _ ih=>
   intro ht;obtain⟨b,rfl⟩:=hd;obtain⟨l,h1,h2,h3⟩:=ih λd hd=>ht d (yn _ hd);refine⟨(19968+j,b)::l,by rw[h1];rfl,by rw[List.map_cons,List.map_cons,h2],λx hx=>?_⟩;rcases yz.mp hx with rfl|hx
   ·exact ht _ yq
   ·exact h3 x hx
 obtain⟨l,h1,h2,h3⟩:=go h ht;refine zbB l h1 ?_;have hlen:l.length=(zAk s).length:=by
  have:=ya List.length h2;rwa[List.length_map,List.length_map]at this
 have hnd:(l.map (·.1)).Nodup:=by
  rw[h2];exact List.Pairwise.map _ (λa b h z=>h (Nat.add_left_cancel z)) (List.Nodup.sublist List.filter_sublist List.nodup_range)
 unfold zpH;rw[decide_eq_true (by rw[hlen];exact zy6 s),decide_eq_true hnd,Bool.true_and,Bool.true_and];refine yO.mpr λx hx=>yv ?_;have hm:x.1∈(zAk s).map (19968 + ·):=h2▸List.mem_map.mpr ⟨x,hx,rfl⟩;refine zaO (List.mem_map.mp hm) λj hj e=>?_;have hj:=List.mem_filter.mp hj;have h5:=xb.mp hj.1;rw[←e];exact⟨yR ..,by omega,yF hj.2,h3 x hx⟩
theorem zxC:zay zgH (ofString "_law_text")=some zfi:=by kernel_rfl
theorem zoe{r:R}{Q:Res->Prop}{X:Err->Prop}(h:zza r)(k:Q (.pl (.bool false))):neP (toL r) (toL r) Q X:=by
 refine ym (ztp h) (ym (ztp h) ?_);rw[zyz];exact k
@[reducible]noncomputable def lw7(ns:List Int)(c1 c2 c3 c4:Slot)(s:List Nat):Sl:=[.val (.lst (ns.map .int)),c1,c2,c3,c4,.cel (some (.str s))]
section
variable{ns:List Int}{n:Nat}{s:List Nat}{p:Nat}{l:List (Nat×Nat)}{c1 c2 c3 c4:Slot}{K:Fl->Sl->Prop}{X:Err->Sl->Prop}
theorem zsx{c:PS}(hs:okT s=true)(hl:s.length≤200)(k:c K X (lw7 ns c1 (.val (.int (p:Nat))) (.val (.int (lfN s p:Nat))) c4 s)) :
  zaf (zlu n) (zaf (zl1 n) c) K X (lw7 ns c1 (.val (.int (p:Nat))) c3 c4 s):=by
 refine zfP (z:=((p+3:Nat):Int)) rfl ?_;refine zfP (z:=((p+3+1:Nat):Int)) rfl ?_;refine zda (p:=p+3) (q:=p+3+1) hs ?_;refine znG ((zil hs).cut _ _) (.of (by decide)) ?_;unfold lfN at k;by_cases e:cut s (p+3) (p+3+1)=[10]
 ·rw[if_pos e]at k
  exact za8 (yv e) k
 ·rw[if_neg e]at k
  exact za7 (yx e) k
theorem zye{c:PS}{b:Nat}{r:R}(hs:okT s=true)(hl:s.length≤200)(hb:b≤299)(hf:zpH n s l=true)(hr:r=zn0 s (b+1))(h1:c1=.own (l.map tkD)∨c1=.val (.lst (l.map tkD)))
  (k:c K X (lw7 ns (.val (.lst (l.map tkD))) c2 (.val (.int (b+1:Nat))) (.val (toL r)) s)) :
  zaf (zmo n) c K X (lw7 ns c1 c2 (.val (.int (b+1:Nat))) (.val (toL r)) s):=by
 have he:(toL r).isExc=false:=by cases r<;>rfl
 have hc:zza r:=hr▸zkX s _▸zmz (zil hs);have go:zbu (zbL n [.str s,.int (b+1:Nat),.lst (l.map tkD)] []) (λd=>neP (toL r) d (λr'=>oM (ziF r'.d) λt=>ifB t (K (.ret (.bool false)) (lw7 ns (.val (.lst (l.map tkD))) c2 (.val (.int (b+1:Nat))) (.val (toL r)) s)) (c K X (lw7 ns (.val (.lst (l.map tkD))) c2 (.val (.int (b+1:Nat))) (.val (toL r)) s))) λx=>X x (lw7 ns (.val (.lst (l.map tkD))) c2 (.val (.int (b+1:Nat))) (.val (toL r)) s)) (λx=>X x (lw7 ns (.val (.lst (l.map tkD))) c2 (.val (.int (b+1:Nat))) (.val (toL r)) s)):=by
  refine zyG hs hl hb hf ?_;rw[←hr];exact zoe hc (za7 rfl k)
 revert go;have e:∀{P:Prop},zwG (toL r).isExc P=P:=λ{P}=>by rw[he]
 rcases h1 with rfl|rfl
 ·intro go
  show zwG (toL r).isExc _;rw[e];exact go
 ·intro go
  show zwG (toL r).isExc _;rw[e];exact go
end
theorem zCA{α:Type}{l:List α}(h:l.length=4):∃a b c d,l=[a,b,c,d]:=by
 rcases l with _|⟨a,l⟩
 ·exact absurd h.symm (Nat.succ_ne_zero 3)
 ·left
  obtain⟨b,c,d,e⟩:=zx3 (Nat.succ.inj h);exact⟨a,b,c,d,by rw[e]⟩
noncomputable section
section
variable{ns:List Int}{n:Nat}{s:List Nat}{p:Nat}{l:List (Nat×Nat)}{c1 c2 c3 c4:Slot}{K:Fl->Sl->Prop}{X:Err->Sl->Prop}
theorem zxy(s:List Nat)(p:Nat):∃b,lfN s p=b+1∧b≤p+3:=by
 unfold lfN;by_cases h:cut s (p+3) (p+3+1)=[10]
 ·rw[if_pos h];exact zbB (p+3) rfl (yr _)
 ·rw[if_neg h];exact zbB (p+2) rfl (yi _)
theorem zxI{c:PS}{r:R}(hs:okT s=true)(hl:s.length≤200)(hp:p≤300)(hf:zpH n s l=true)(hr:r=zjl true s (zdd true s p))(k:c K X (lw7 ns (.val (.lst (l.map tkD))) (.val (.int (p:Nat))) c3 (.val (toL r)) s)) :
  zaf (zlJ n) c K X (lw7 ns (.val (.lst (l.map tkD))) (.val (.int (p:Nat))) c3 (.val (toL r)) s):=by
 have he:(toL r).isExc=false:=by cases r<;>rfl
 have hc:zza r:=hr▸zmz (zil hs);have go:zbu (zbw n [.str s,.int (p:Nat),.str (mks true 39),.lst (l.map tkD)] []) (λd=>neP (toL r) d (λr'=>oM (ziF r'.d) λt=>ifB t (K (.ret (.bool false)) (lw7 ns (.val (.lst (l.map tkD))) (.val (.int (p:Nat))) c3 (.val (toL r)) s)) (c K X (lw7 ns (.val (.lst (l.map tkD))) (.val (.int (p:Nat))) c3 (.val (toL r)) s))) λx=>X x (lw7 ns (.val (.lst (l.map tkD))) (.val (.int (p:Nat))) c3 (.val (toL r)) s)) (λx=>X x (lw7 ns (.val (.lst (l.map tkD))) (.val (.int (p:Nat))) c3 (.val (toL r)) s)):=by
  refine zrD hs hl hp hf ?_;rw[←hr];exact zoe hc (za7 rfl k)
 have e:∀{P:Prop},zwG (toL r).isExc P=P:=λ{P}=>by rw[he]
 show zwG (toL r).isExc _;rw[e];exact go
theorem zyB{c:PS}(hs:okT s=true)(hl:s.length≤200)(hp:p≤300)(hf:zpH n s l=true)(k:c K X (lw7 ns (.val (.lst (l.map tkD))) (.val (.int (p:Nat))) c3 c4 s)) :
  zaf (zmq n) c K X (lw7 ns (.val (.lst (l.map tkD))) (.val (.int (p:Nat))) c3 c4 s):=by
 refine zmn (m:=[39]) (by decide) hs (yk hp (by decide)) ?_;rw[show zkv [39] s p=zjl false s (p+1)from(if_pos rfl).trans (zo3 s p)];refine zrD (ml:=false) hs hl hp hf ?_;refine zoe (zmz (zil hs)) ?_;exact za7 rfl k
@[reducible]noncomputable def zqb(n:Nat):PS:=(zaf (zlu n) (zaf (zl1 n) (zaf (zpR n) (zaf (zmo n) (zaf (zlJ n) (zaf (zmq n) zam))))))
theorem zuO(hs:okT s=true)(hl:s.length≤200)(hp:p≤250)(hf:zpH n s l=true)(h1:c1=.own (l.map tkD)∨c1=.val (.lst (l.map tkD)))
  (k:∀c3 c4,K .next (lw7 ns (.val (.lst (l.map tkD))) (.val (.int (p:Nat))) c3 c4 s)) :
  zqb n K X (lw7 ns c1 (.val (.int (p:Nat))) c3 c4 s):=by
 refine zsx hs hl ?_;refine zaO (zxy s p) λb hb hb2=>?_;have hp3:p≤300:=yk hp (by decide);refine zmn (m:=[39,39,39]) (by decide) hs (yk hp (by decide)) ?_;have e:zkv [39,39,39] s p=zjl true s (lfN s p):=(if_neg (by decide)).trans ((if_neg (by decide)).trans (zkX s _));rw[e];have e2:zjl true s (lfN s p)=zn0 s (b+1):=by rw[hb];exact(zkX s _).symm
 have e3:zjl true s (lfN s p)=zjl true s (zdd true s p):=rfl;generalize zjl true s (lfN s p)=r at e2 e3⊢;rw[hb];refine zye (r:=r) hs hl (by omega) hf e2 h1 ?_;refine zxI hs hl hp3 hf e3 ?_;refine zyB hs hl hp3 hf ?_;exact k ..
theorem zqa(hs:okT s=true)(hl:s.length≤200)(hf:zpH n s l=true)(k:∀c1 c2 c3 c4,K .next (lw7 ns c1 c2 c3 c4 s)):∀(ps:List Nat){c1 c2 c3 c4:Slot},(∀p∈ps,p≤250)->(c1=.own (l.map tkD)∨c1=.val (.lst (l.map tkD))) ->
  zwy 2 (zqb n) (ps.map λj:Nat=>.int (j:Nat)) K X (lw7 ns c1 c2 c3 c4 s)
 |[],c1,c2,c3,c4,_,_=>k ..
 |p::ps,c1,c2,c3,c4,hp,h1=>zuO hs hl (hp p yq) hf h1 λc3 c4=>zqa hs hl hf k ps (λx hx=>hp x (yn _ hx)) (.inr rfl)
theorem zvE{Q:D->Prop}{X:Err->Prop}(hs:okT s=true)(hl:s.length≤200)(hf:zpH n s l=true)(hQ:Q (.bool true)):zoh n (zmD Q) (λx _=>X x) (lw7 ns (.own (l.map tkD)) .unb .unb .unb s):=by
 refine ym (yk hl (by decide)) ?_;refine zfP (z:=((s.length+2:Nat):Int)) rfl ?_;refine zo0 (by omega) ?_;exact zqa hs hl hf (λc1 c2 c3 c4=>hQ) _ (λp hp=>by have:=xb.mp hp;omega) (.inl rfl)
theorem zCi{c:Nat}{Q:Res->Prop}{X:Err->Prop}(k:Q (.pl (.bool (!decide (c∈s))))):zAh (.str [c]) (.str s) Q X:=by
 show Q (.pl (.bool (!(zbS s [c] 0 s.length).isSome)));rw[zCd];exact k
theorem zAY{x y m:Nat}{Q:Res->Prop}{X:Err->Prop}(hx:x≤1000000)(hy:y≤1000000)(e:y-x=m)(k:Q (.pl (.rng ((List.range m).map λj:Nat=>.int (x+j:Nat))))):zjY [.int (x:Nat),.int (y:Nat)] Q X:=by
 have lo:∀z:Nat,(-1000000:Int)≤(z:Nat):=λz=>Int.le_trans (by decide:(-1000000:Int)≤0) (yB z);refine ym (lo x) (ym (yV.mpr hx) (ym (lo y) (ym (yV.mpr hy) ?_)));have e1:(((y:Nat):Int)-((x:Nat):Int)).toNat=m:=by omega
 show Q (.pl (.rng ((List.range (((y:Nat):Int)-((x:Nat):Int)).toNat).map λj:Nat=>.int (((x:Nat):Int)+(j:Int)))));rw[e1];exact k
theorem zxS{es es':List D}{st st0:Sl}(h:zuo 1 (.fr es) st=zuo 1 (.fr es') st0)(hl:1<st.length):es'=es:=by
 have e1:(st.set 1 (.own es))[1]?=some (Slot.own es):=by rw[List.getElem?_set,if_pos rfl,if_pos hl]
 have h:st.set 1 (.own es)=st0.set 1 (.own es'):=h;have hl':1<st0.length:=by
  have:=ya List.length h;rw[List.length_set,List.length_set]at this;exact this▸hl
 rw[h,List.getElem?_set,if_pos rfl,if_pos hl']at e1;exact yj (ya Slot.own? (yj e1))
theorem ztt{Q:D->Prop}{X:Err->Prop}(hn:ns.length≤63)(hQ:Q (.bool true)):zy5 (zmD Q) (λx _=>X x) (start [.lst (ns.map .int)] 4++List.replicate 1 (.cel none)):=by
 refine⟨_,_,rfl,zxC,rfl,(by decide),λ_=>rfl,?_⟩;refine zu8 (ym hn λs hc hl=>?_);have hs:okT s=true:=zrY (yk hl (by decide)) hc;have hl6:s.length≤1000000:=yk hl (by decide);refine ym hl6 ?_;refine zfP (z:=((19971+s.length:Nat):Int)) (Int.natCast_add ..).symm ?_;refine zAY (x:=19968) (m:=s.length+3) (by decide) (by omega) (by omega) ?_;refine ym (by rw[List.length_map,List.length_range];omega) ?_;refine zkc (λj:Nat=>.int (19968+j:Nat)) (λ(j:Nat) d=>∃b,d=.tstr [19968+j] b) (λj=>decide (19968+j∉s)) _ _ (λj hj A B h=>?_) λes R=>?_
 ·have hj:=xb.mp hj
  have hb':19968+j≤1114111:=by omega
  have hb:((19968+j:Nat):Int)≤1114111:=yV.mpr hb';refine ym (yB _) (ym hb ?_);refine zCi (c:=19968+j) ?_;by_cases e:19968+j∈s
  ·rw[decide_eq_false (λz=>z e)]at h
   exact za7 (c:=!decide (19968+j∈s)) (by rw[decide_eq_true e];rfl) h
  ·rw[decide_eq_true e]at h
   refine za8 (c:=!decide (19968+j∈s)) (by rw[decide_eq_false e];rfl) ?_;refine ym (yB _) (ym hb λb=>?_);exact h _ ⟨b,rfl⟩
 ·intro es' st0 _ hst k hk htk
  have e:=zxS hst (zci rfl);rw[e]at htk;refine zaO (zAy hl R htk) λl hes hf=>?_;rw[List.nil_append,hes];exact zvE hs hl hf hQ
theorem zzw(ds dk:List D)(Q:D->Prop)(X:Err->Prop)(h:zbu (zu2 ds dk) Q X):dk=[]∧ds.length=1∧zy5 (zmD Q) (λx _=>X x) (start ds 4++List.replicate 1 (.cel none)):=by
 refine zcM (zpm h) λns e1 e2 h2=>?_;refine zb0 (zdR h2) λhn h3=>?_;rw[e1,e2];exact⟨rfl,rfl,ztt (yF hn) (zf2 h3)⟩
end
end
section
variable{S:St0}(D0:Std S)(NG:NoG S)(G:Gl S gl8)(E0:zav S)
include D0 NG G E0
theorem zkH(TB:zaD S (zay zcG))(hlf:S.lf=zB3 p8 27 S)(hB:S.base.BuiltinsAt S.mg S.tab)(CL:zkG S 10 false (λds=>zbu (zcY ds []))){a:Addr}{o:Obj}{pm cd doc kV:Value}(h1:S.mg (ofString "suffixed_err")=some (.ref a))(h2:S.base.get? a=some o)(h3:o.data=.func {docDef (ofString "suffixed_err") (zaH p8 27) (zah p8 27) (zap p8 27) pm cd doc with defaults:=.none,kwdefaults:=kV})(h4:S.base.CodeRec cd (ofString "suffixed_err"))(hcf:zeT S cd):zaD S (zay ((ofString "suffixed_err",za6)::zcG)):=by
 refine zfD D0 (sh:=zf6) (ps:=[ofString "src",ofString "pos",ofString "msg"]) (rest:=[ofString "coord_repr"]) (kws:=[]) h1 h2 h3 h4 (by kernel_rfl) (by kernel_rfl) (by kernel_rfl) rfl (by kernel_rfl) (by kernel_rfl) (by kernel_rfl) (by right) (λs vs ks e1 e2=>?_) (by decide) (zky D0 NG G E0 TB hlf hB CL) zAP (λ_=>⟨hcf,by right⟩) TB;obtain rfl:=zum e2;obtain⟨v0,v1,v2,rfl⟩:=zx3 (l:=vs) (by simpa using e1);exact BindsTo.of_eq (by kernel_rfl)
theorem znS(TB:zaD S (zay zeG)){a:Addr}{o:Obj}{pm cd doc kV:Value}(h1:S.mg (ofString "skip_chars")=some (.ref a))(h2:S.base.get? a=some o)(h3:o.data=.func {docDef (ofString "skip_chars") (zaH p8 18) (zah p8 18) (zap p8 18) pm cd doc with defaults:=.none,kwdefaults:=kV})(h4:S.base.CodeRec cd (ofString "skip_chars")):zaD S (zay ((ofString "skip_chars",zeE)::zeG)):=by
 refine zfD D0 (sh:=zhG) (ps:=[ofString "src",ofString "pos",ofString "chars"]) (rest:=[]) (kws:=[]) h1 h2 h3 h4 (by kernel_rfl) (by kernel_rfl) (by kernel_rfl) rfl (by kernel_rfl) (by kernel_rfl) (by kernel_rfl) (by right) (λs vs ks e1 e2=>?_) (by decide) (znc D0 NG G E0 TB) zAd (by intro h;exact nomatch h) TB;obtain rfl:=zum e2;obtain⟨v0,v1,v2,rfl⟩:=zx3 (l:=vs) (by simpa using e1);exact BindsTo.of_eq (by kernel_rfl)
theorem zeM(TB:zaD S (zay zbi)){a:Addr}{o:Obj}{pm cd doc kV:Value}(h1:S.mg (ofString "is_unicode_scalar_value")=some (.ref a))(h2:S.base.get? a=some o)(h3:o.data=.func {docDef (ofString "is_unicode_scalar_value") (zaH p8 28) (zah p8 28) (zap p8 28) pm cd doc with defaults:=.none,kwdefaults:=kV})(h4:S.base.CodeRec cd (ofString "is_unicode_scalar_value")):zaD S (zay ((ofString "is_unicode_scalar_value",zbO)::zbi)):=by
 refine zfD D0 (sh:=zcw) (ps:=[ofString "codepoint"]) (rest:=[]) (kws:=[]) h1 h2 h3 h4 (by kernel_rfl) (by kernel_rfl) (by kernel_rfl) rfl (by kernel_rfl) (by kernel_rfl) (by kernel_rfl) (by right) (λs vs ks e1 e2=>?_) (by decide) (zeS D0 NG G E0 TB) zvg (by intro h;exact nomatch h) TB;obtain rfl:=zum e2;obtain⟨v0,rfl⟩:=zzh (l:=vs) (by simpa using e1);exact BindsTo.of_eq (by kernel_rfl)
theorem ziU(TB:zaD S (zay zcL)){a:Addr}{o:Obj}{pm cd doc kV:Value}(h1:S.mg (ofString "parse_hex_char")=some (.ref a))(h2:S.base.get? a=some o)(h3:o.data=.func {docDef (ofString "parse_hex_char") (zaH p8 23) (zah p8 23) (zap p8 23) pm cd doc with defaults:=.none,kwdefaults:=kV})(h4:S.base.CodeRec cd (ofString "parse_hex_char")):zaD S (zay ((ofString "parse_hex_char",zcJ)::zcL)):=by
 refine zfD D0 (sh:=ze9) (ps:=[ofString "src",ofString "pos",ofString "hex_len"]) (rest:=[ofString "hex_str",ofString "hex_int"]) (kws:=[]) h1 h2 h3 h4 (by kernel_rfl) (by kernel_rfl) (by kernel_rfl) rfl (by kernel_rfl) (by kernel_rfl) (by kernel_rfl) (by right) (λs vs ks e1 e2=>?_) (by decide) (ziT D0 NG G E0 TB) zB8 (by intro h;exact nomatch h) TB;obtain rfl:=zum e2;obtain⟨v0,v1,v2,rfl⟩:=zx3 (l:=vs) (by simpa using e1);exact BindsTo.of_eq (by kernel_rfl)
theorem ze8(TB:zaD S (zay zaZ)){a:Addr}{o:Obj}{pm cd doc kV:Value}(h1:S.mg (ofString "parse_basic_str_escape")=some (.ref a))(h2:S.base.get? a=some o)(h3:o.data=.func {docDef (ofString "parse_basic_str_escape") (zaH p8 21) (zah p8 21) (zap p8 21) pm cd doc with defaults:=.none,kwdefaults:=kV})(h4:S.base.CodeRec cd (ofString "parse_basic_str_escape")):zaD S (zay ((ofString "parse_basic_str_escape",zbZ)::zaZ)):=by
 refine zfD D0 (sh:=zaV) (ps:=[ofString "src",ofString "pos",ofString "multiline"]) (rest:=[ofString "escape_id",ofString "char"]) (kws:=[ofString "multiline"]) h1 h2 h3 h4 (by kernel_rfl) (by kernel_rfl) (by kernel_rfl) rfl (by kernel_rfl) (by kernel_rfl) (by kernel_rfl) (by right) (λs vs ks e1 e2=>?_) (by decide) (zcZ D0 NG G E0 TB) zBN (by intro h;exact nomatch h) TB;obtain⟨w0,rfl⟩:=zzh e2;obtain⟨v0,v1,rfl⟩:=zui (l:=vs) (by simpa using e1);exact BindsTo.of_eq (by kernel_rfl)
theorem zc2(TB:zaD S (zay zaJ)){a:Addr}{o:Obj}{pm cd doc kV:Value}(h1:S.mg (ofString "parse_basic_str_escape_multiline")=some (.ref a))(h2:S.base.get? a=some o)(h3:o.data=.func {docDef (ofString "parse_basic_str_escape_multiline") (zaH p8 22) (zah p8 22) (zap p8 22) pm cd doc with defaults:=.none,kwdefaults:=kV})(h4:S.base.CodeRec cd (ofString "parse_basic_str_escape_multiline")):zaD S (zay ((ofString "parse_basic_str_escape_multiline",za5)::zaJ)):=by
 refine zfD D0 (sh:=zby) (ps:=[ofString "src",ofString "pos"]) (rest:=[]) (kws:=[]) h1 h2 h3 h4 (by kernel_rfl) (by kernel_rfl) (by kernel_rfl) rfl (by kernel_rfl) (by kernel_rfl) (by kernel_rfl) (by right) (λs vs ks e1 e2=>?_) (by decide) (zc1 D0 NG G E0 TB) zAq (by intro h;exact nomatch h) TB;obtain rfl:=zum e2;obtain⟨v0,v1,rfl⟩:=zui (l:=vs) (by simpa using e1);exact BindsTo.of_eq (by kernel_rfl)
theorem zit(TB:zaD S (zay zbv)){a:Addr}{o:Obj}{pm cd doc kV:Value}(h1:S.mg (ofString "parse_basic_str")=some (.ref a))(h2:S.base.get? a=some o)(h3:o.data=.func {docDef (ofString "parse_basic_str") (zaH p8 26) (zah p8 26) (zap p8 26) pm cd doc with defaults:=.none,kwdefaults:=kV})(h4:S.base.CodeRec cd (ofString "parse_basic_str")):zaD S (zay ((ofString "parse_basic_str",zcr)::zbv)):=by
 refine zfD D0 (sh:=zeH) (ps:=[ofString "src",ofString "pos",ofString "multiline"]) (rest:=[ofString "error_on",ofString "parse_escapes",ofString "result",ofString "start_pos",ofString "char",ofString "parsed_escape"]) (kws:=[ofString "multiline"]) h1 h2 h3 h4 (by kernel_rfl) (by kernel_rfl) (by kernel_rfl) rfl (by kernel_rfl) (by kernel_rfl) (by kernel_rfl) (by right) (λs vs ks e1 e2=>?_) (by decide) (zhY D0 NG G E0 TB) zxG (by intro h;exact nomatch h) TB;obtain⟨w0,rfl⟩:=zzh e2;obtain⟨v0,v1,rfl⟩:=zui (l:=vs) (by simpa using e1);exact BindsTo.of_eq (by kernel_rfl)
theorem zex(TB:zaD S (zay zbb)){a:Addr}{o:Obj}{pm cd doc kV:Value}(h1:S.mg (ofString "parse_one_line_basic_str")=some (.ref a))(h2:S.base.get? a=some o)(h3:o.data=.func {docDef (ofString "parse_one_line_basic_str") (zaH p8 20) (zah p8 20) (zap p8 20) pm cd doc with defaults:=.none,kwdefaults:=kV})(h4:S.base.CodeRec cd (ofString "parse_one_line_basic_str")):zaD S (zay ((ofString "parse_one_line_basic_str",zbH)::zbb)):=by
 refine zfD D0 (sh:=zcp) (ps:=[ofString "src",ofString "pos"]) (rest:=[]) (kws:=[]) h1 h2 h3 h4 (by kernel_rfl) (by kernel_rfl) (by kernel_rfl) rfl (by kernel_rfl) (by kernel_rfl) (by kernel_rfl) (by right) (λs vs ks e1 e2=>?_) (by decide) (zew D0 NG G E0 TB) zBu (by intro h;exact nomatch h) TB;obtain rfl:=zum e2;obtain⟨v0,v1,rfl⟩:=zui (l:=vs) (by simpa using e1);exact BindsTo.of_eq (by kernel_rfl)
theorem zmH(TB:zaD S (zay zeF)){a:Addr}{o:Obj}{pm cd doc kV:Value}(h1:S.mg (ofString "skip_until")=some (.ref a))(h2:S.base.get? a=some o)(h3:o.data=.func {docDef (ofString "skip_until") (zaH p8 19) (zah p8 19) (zap p8 19) pm cd doc with defaults:=.none,kwdefaults:=kV})(h4:S.base.CodeRec cd (ofString "skip_until")):zaD S (zay ((ofString "skip_until",zeI)::zeF)):=by
 refine zfD D0 (sh:=zhy) (ps:=[ofString "src",ofString "pos",ofString "expect",ofString "error_on",ofString "error_on_eof"]) (rest:=[ofString "new_pos"]) (kws:=[ofString "error_on",ofString "error_on_eof"]) h1 h2 h3 h4 (by kernel_rfl) (by kernel_rfl) (by kernel_rfl) rfl (by kernel_rfl) (by kernel_rfl) (by kernel_rfl) (by right) (λs vs ks e1 e2=>?_) (by decide) (znP D0 NG G E0 TB) zyJ (by intro h;exact nomatch h) TB;obtain⟨w0,w1,rfl⟩:=zui e2;obtain⟨v0,v1,v2,rfl⟩:=zx3 (l:=vs) (by simpa using e1);exact BindsTo.of_eq (by kernel_rfl)
theorem zgO(TB:zaD S (zay zb9)){a:Addr}{o:Obj}{pm cd doc kV:Value}(h1:S.mg (ofString "parse_literal_str")=some (.ref a))(h2:S.base.get? a=some o)(h3:o.data=.func {docDef (ofString "parse_literal_str") (zaH p8 24) (zah p8 24) (zap p8 24) pm cd doc with defaults:=.none,kwdefaults:=kV})(h4:S.base.CodeRec cd (ofString "parse_literal_str")):zaD S (zay ((ofString "parse_literal_str",zcS)::zb9)):=by
 refine zfD D0 (sh:=zd0) (ps:=[ofString "src",ofString "pos"]) (rest:=[ofString "start_pos"]) (kws:=[]) h1 h2 h3 h4 (by kernel_rfl) (by kernel_rfl) (by kernel_rfl) rfl (by kernel_rfl) (by kernel_rfl) (by kernel_rfl) (by right) (λs vs ks e1 e2=>?_) (by decide) (zgU D0 NG G E0 TB) zB2 (by intro h;exact nomatch h) TB;obtain rfl:=zum e2;obtain⟨v0,v1,rfl⟩:=zui (l:=vs) (by simpa using e1);exact BindsTo.of_eq (by kernel_rfl)
theorem zgh(TB:zaD S (zay zbJ)){a:Addr}{o:Obj}{pm cd doc kV:Value}(h1:S.mg (ofString "parse_multiline_str")=some (.ref a))(h2:S.base.get? a=some o)(h3:o.data=.func {docDef (ofString "parse_multiline_str") (zaH p8 25) (zah p8 25) (zap p8 25) pm cd doc with defaults:=.none,kwdefaults:=kV})(h4:S.base.CodeRec cd (ofString "parse_multiline_str")):zaD S (zay ((ofString "parse_multiline_str",zck)::zbJ)):=by
 refine zfD D0 (sh:=zdi) (ps:=[ofString "src",ofString "pos",ofString "literal"]) (rest:=[ofString "delim",ofString "end_pos",ofString "result"]) (kws:=[ofString "literal"]) h1 h2 h3 h4 (by kernel_rfl) (by kernel_rfl) (by kernel_rfl) rfl (by kernel_rfl) (by kernel_rfl) (by kernel_rfl) (by right) (λs vs ks e1 e2=>?_) (by decide) (zfX D0 NG G E0 TB) zyK (by intro h;exact nomatch h) TB;obtain⟨w0,rfl⟩:=zzh e2;obtain⟨v0,v1,rfl⟩:=zui (l:=vs) (by simpa using e1);exact BindsTo.of_eq (by kernel_rfl)
theorem zvK(hlf:S.lf=zB3 p8 27 S):zkG S 10 false (λds=>zbu (zcY ds [])):=by
 have h1:S.lf.scope=zka p8 27:=by rw[hlf];rfl
 have h2:S.lf.body=zpZ p8 27:=by rw[hlf];rfl
 refine zkG.mono (zv0 D0 (sh:=zef) (ps:=[ofString "src",ofString "pos"]) (rest:=[ofString "line",ofString "column"]) (c:=zeB) (calm:=false) ?_ ?_ ?_ ?_ ?_ (by kernel_rfl) ?_ (by right) rfl rfl rfl ?_ ?_) (yr _) λds Q X h=>zyV ds Q X h
 ·rw[h1];kernel_rfl
 ·rw[h1];kernel_rfl
 ·rw[h1];kernel_rfl
 ·rw[h1];rfl
 ·rw[h1]
  have:((zka p8 27).names.all λx=>x.2 != .cell)=true:=by kernel_rfl
  intro x hx;simpa using yO.mp this x hx
 ·have:(zef.names.all λx=>zef.scope.names.lookup x==some .local)=true:=by kernel_rfl
  intro x hx;simpa using yO.mp this x hx
 ·intro s vs cd hl
  obtain⟨v0,v1,rfl⟩:=zui (l:=vs) hl;rw[hlf];exact BindsTo.of_eq (by kernel_rfl)
 ·rw[h2]
  exact znz D0 NG G E0
theorem zA2{l:List (Str×Ctr)}(TB:zaD S (zay zaZ)){a:Addr}{o:Obj}{pm cd doc:Value}{K:Addr}{kc:Value}{kdd:Option Addr}{kh:Int}{kt:Tok}{kn:Nat}{ksl:Array (Option Value)}(h1:S.mg (ofString "parse_basic_str_escape")=some (.ref a))(h2:S.base.get? a=some o)
  (h3:o.data=.func {docDef (ofString "parse_basic_str_escape") (zaH p8 21) (zah p8 21) (zap p8 21) pm cd doc with defaults:=.none,kwdefaults:=.ref K})(h4:S.base.CodeRec cd (ofString "parse_basic_str_escape"))(hK:S.base.get? K=some (zwk kc kdd kh kt kn ksl))(t:zaD S (zay l)) :
  zaD S (zay ((ofString "parse_basic_str_escape",zbR)::l)):=by
 refine zaD.cons h1 h2 h3 (ziO.mono (zuT D0 (sh:=zaV) (ps:=[ofString "src",ofString "pos",ofString "multiline"]) (rest:=[ofString "escape_id",ofString "char"]) (es:=[.bool false]) (de:=[.bool false]) h2 h3 h4 rfl rfl rfl (by kernel_rfl) (by kernel_rfl) (by kernel_rfl) rfl ?_ (by kernel_rfl) ?_ (by right) rfl (λh P=>.cons (.bool _) .nil) ?_ (zcZ D0 NG G E0 TB)) (yr _) ?_) t
 ·have:((zap p8 21).names.all λx=>x.2 != .cell)=true:=by kernel_rfl
  intro x hx;simpa using yO.mp this x hx
 ·have:(zaV.names.all λx=>zaV.scope.names.lookup x==some .local)=true:=by kernel_rfl
  intro x hx;simpa using yO.mp this x hx
 ·intro s vs hst hl
  obtain⟨v0,v1,rfl⟩:=zui (l:=vs) (by simpa using hl);exact zvO (hst _ _ hK) (by kernel_rfl)
 ·exact zzv
noncomputable def zuc(h:Heap):Bool:=match h.nsMap mainGlobals "TOMLDecodeError" with
 |some (.ref C)=>match h.get? C with
  |some o=>match o.data with
   |.cls cd=>(cd.mro == .ref C::bmV)&&h.isNs cd.ns&&(h.nsMap cd.ns "__str__").isNone
   |_=>false
  |none=>false
 |_=>false
end
set_option tactic.hygienic true in
theorem zBw{h:Heap}{a:Addr}(e:h.isNs a=true):h.Ns a (h.nsMap a):=by
 unfold Heap.isNs at e;left
 split at e
 ·rename_i o ho
  split at e
  ·rename_i es ep hd
   refine zuh o es ep ho hd (λx hx=>?_) (λn=>?_)
   ·have:=Array.all_eq_true_iff_forall_mem.mp e x hx
    left
    split at this
    ·rename_i n t hk
     exact zAv n t hk
    ·exact zaF this
   ·unfold Heap.nsMap
    rw[ho];dsimp only;rw[hd]
  ·exact zaF e
 ·exact zaF e
set_option tactic.hygienic true in
theorem zvX{h:Heap}(e:zuc h=true):ClsAt (h.nsMap mainGlobals) h:=by
 unfold zuc at e;left
 split at e
 ·rename_i C hC
  split at e
  ·rename_i o ho
   split at e
   ·rename_i cd hd
    obtain⟨e1,e3⟩:=yw.mp e;obtain⟨e1,e2⟩:=yw.mp e1;exact zCp C o cd _ hC ho hd (beq_iff_eq.mp e1) (zBw e2) (Option.isNone_iff_eq_none.mp e3)
   ·exact zaF e
  ·exact zaF e
 ·exact zaF e
section
noncomputable abbrev zun:=PySem.W.Fast.tw11892475500146522536 PySem.W.Fast.tw14364793385576792824
noncomputable abbrev zuU:=PySem.W.Fast.tw9404975358583537561
noncomputable abbrev zmj:=PySem.W.Fast.tw4187177175401517315
theorem zyL:denote table=zun:=by
 rw[table_eq_tree];unfold zun;rw[←PySem.W.Fast.te11892475500146522536,←PySem.W.Fast.te14364793385576792824]
theorem zyP:pyNext=zuU:=PySem.W.Fast.te9404975358583537561
theorem zvw:@openSeen=@zmj:=PySem.W.Fast.te4187177175401517315
noncomputable abbrev World.two(w:World)(a b:Bool):World:=(w.withFollow "special-get-raises" a).withFollow "comprehension-iter-twice" b
theorem zmG{p q:Program}{loose:List Str}{Xt:Shared->Bool}{sets:List (Str×List Str)}{β:Type}{ext:BS->β}{extV:World->β}{N:Nat}
  (h00:∀w:World,ziN p q loose Xt sets ext extV zun zuU zmj N (World.two w false false))
  (h01:∀w:World,ziN p q loose Xt sets ext extV zun zuU zmj N (World.two w false true))
  (h10:∀w:World,ziN p q loose Xt sets ext extV zun zuU zmj N (World.two w true false))
  (h11:∀w:World,ziN p q loose Xt sets ext extV zun zuU zmj N (World.two w true true))(w:World) :
  ziN p q loose Xt sets ext extV (denote table) pyNext openSeen N w:=by
 rw[zyL,zyP,zvw];have e:World.two w (w.params.followText "special-get-raises") ((w.withFollow "special-get-raises" (w.params.followText "special-get-raises")).params.followText "comprehension-iter-twice")=w:=by
  unfold World.two;rw[World.withFollow_self,World.withFollow_self]
 revert e;generalize w.params.followText "special-get-raises"=a;generalize (w.withFollow "special-get-raises" a).params.followText "comprehension-iter-twice"=b;intro e;rw[←e];cases a<;>cases b
 ·exact h00 w
 ·exact h01 w
 ·exact h10 w
 ·exact h11 w
noncomputable abbrev p08:Program:=PySem.Challenge.pw_kq0033_07
noncomputable def zAU:List Nat:=[0,1,3,4,5,6,7,8,9,10,11,12,14,16,17,18,19,20,22,23,24,25,26,27,28,30,31,32,33,34,35]
noncomputable def q08:Program:=view p08 zAU
noncomputable def zfW:List Str:=["_WallAttr","ASCII_CTRL","ILLEGAL_BASIC_STR_CHARS","ILLEGAL_MULTILINE_BASIC_STR_CHARS","ILLEGAL_LITERAL_STR_CHARS","ILLEGAL_MULTILINE_LITERAL_STR_CHARS","TOML_WS","TOML_WS_AND_NEWLINE","hexdigits","HEXDIGIT_CHARS","MappingProxyType","BASIC_STR_ESCAPE_REPLACEMENTS","parse_basic_str_escape"]
noncomputable def ch(n:Nat):Str:=⟨#[n]⟩
noncomputable def zvu:List Nat:=[0,1,2,3,4,5,6,7,8,9,10,11,12,13,14,15,16,17,18,19,20,21,22,23,24,25,26,27,28,29,30,31,127]
noncomputable def zw9:List Nat:=[48,49,50,51,52,53,54,55,56,57]
noncomputable def ziC:List (Str×List Str):=[("TOML_WS",[32,9].map ch),("TOML_WS_AND_NEWLINE",[32,9,10].map ch),("ILLEGAL_BASIC_STR_CHARS",(zvu.filter (· != 9)).map ch),("ILLEGAL_LITERAL_STR_CHARS",(zvu.filter (· != 9)).map ch),("ILLEGAL_MULTILINE_BASIC_STR_CHARS",(zvu.filter λc=>c != 9&&c != 10).map ch),("ILLEGAL_MULTILINE_LITERAL_STR_CHARS",(zvu.filter λc=>c != 9&&c != 10).map ch),("HEXDIGIT_CHARS",(zw9++[97,98,99,100,101,102,65,66,67,68,69,70]).map ch)]
noncomputable def dE:DefRec×List (Str×Expr):=(⟨"parse_basic_str_escape",zaH p08 21,zah p08 21,zap p08 21,default⟩,(kwWritten? (zaH p08 21).kwonlyargs (zaH p08 21).kw_defaults).getD [])
noncomputable abbrev Ext:=Option FnShape×Bool×Bool×Option (List (Option (Int×List Nat×List Nat)))
noncomputable def zlM(b:BS):Ext:=(shapeAtK b.heap dE.1.name,(dfltAt b.heap dE&&Nat.blt 0 b.toks),zuc b.heap,zou b.heap)
noncomputable def zhP(w:World):Ext:=(some dE.1.shape,true,true,zrM w)
set_option maxRecDepth 1000000
theorem zyU:opening p08=plainProg p08.main.scope.names:=by kernel_rfl
theorem zzu:∀w:World,(fencedOpening treeTable p08 w 600).map (λs=>(s.heap,s.gens,s.drawn,s.toks))=some (boot_heap w.params,Array.mk [],boot_drawn,boot_toks):=
 boot_open zyU (by kernel_rfl) (λs=>rfl)
theorem zsD(w:World):ziN p08 q08 zfW (λ_=>true) ziC zlM zhP zun zuU zmj 100000 (World.two w false false):=by
 intro y os;kernel_rfl
end
theorem zB0{c:ClaimW}{s₀ s₁ s':Shared}{args:List WData}{vs:List Value}{as:List Addr}{r:Result}(hsame:c.same=none)(hwi:c.within=[])(hi:∀a b,c.ident a b=true)
  (hrd:ReadsAllW c.records (classAt s₀.heap) s₁.heap vs args as)(hold:∀a∈as,∃o,s₁.heap.get? a=some o)(hos1:s₁.os=s₀.os)
  (hcase:(∃v d as,r=.ok (.ret v)∧(∀cls,c.raises args cls=false)∧ReadsW c.records (classAt s₀.heap) s'.heap v d as∧c.post args d args=true∧(c.unshared=true->as.Nodup∧∀a∈as,s₁.heap.get? a=none)) ∨
   (∃e ob cls,r=.error (.ref e)∧s'.heap.get? e=some ob∧ExcName.means s₀.heap cls=some ob.cls∧c.raises args cls=true∧s₁.heap.get? e=none))
  (hK:OldK s₁.heap s'.heap)(hos:s'.os=s₁.os)(hg':s'.gens=#[]):c.Ends s₀ args vs s₁ r s'∧s'.os=s₀.os∧s'.gens=#[]:=by
 refine⟨?_,hos.trans hos1,hg'⟩;left;rcases hcase with⟨v,d,bs,rfl,hnr,hrv,hpost,hun⟩|⟨e,ob,cls,rfl,he,hcls,hpr,hnew⟩
 ·exact .inl ⟨v,rfl,hnr,⟨d,args,bs,as,hrv,hrd.keepsK λb o e hc=>hK.get_of_cls e hc,hpost,λhu=>⟨(hun hu).1,(hun hu).2,λa ha hb'=>by
   obtain⟨o,ho⟩:=hold a hb';rw[(hun hu).2 a ha]at ho;exact zae ho⟩,λ_ _=>hi _ _⟩,(λi hi'=>by exact zae (hsame.symm.trans hi')),(λb o hb' _ _=>hK.old b o hb'),λi hi'=>by rw[hwi]at hi';exact zcx hi'⟩
 ·exact .inr (zCN e ob cls rfl he hcls hpr hnew (λb o hb'=>hK.old b o hb'))
noncomputable abbrev WalkG(prog q:Program)(loose:List Str)(XP:(Str->Option Value)->Heap->Prop)(YP:World->(Str->Option Value)->Heap->Prop)(sets:List (Str×List Str))(d:DefRec)(kwd:List (Str×Expr)):Prop:=
 ∀(w:World)(s₀ s₁:Shared)(mg mb:Str->Option Value),Ground q loose [] XP w s₀ mg mb s₁.heap->zej prog w sets mg s₁.heap->YP w mg s₁.heap->s₁.gens=#[]->0<s₁.toks ->
  ∀(a:Addr)(o:Obj)(pm cd doc dV kV:Value),s₁.heap.get? a=some o ->
  o.data=.func {docDef d.name d.params d.body d.scope pm cd doc with defaults:=dV,kwdefaults:=kV}->s₁.heap.CodeRec cd d.name->Dflts mg s₁.heap d.params kwd dV kV->mg d.name=some (.ref a) ->
  ∀(xs:List Int)(vs:List Value)(L:Addr),zAa vs xs->s₁.heap.get? L=some {cls:=.type "list",data:=.seq vs.toArray}->xs.length≤63->WData.weight (.list (xs.map .int))≤2^20->(L==sysModules)=false ->
   wpAny (model prog w) callerA (PySem.call (.ref a) [.ref L]) (λv s'=>v=.bool true∧OldK s₁.heap s'.heap∧s'.os=s₁.os∧s'.gens=#[]) (λ_ _=>False) s₁
theorem zxs{d0:WData}(h:WShape.has [] d0 (.list .int)=true):∃ds,d0=.list ds∧WShape.hasItems [] ds .int=true:=by
 left;cases d0 with
 |list ds=>exact zbB ds rfl ((Bool.or_false _).symm.trans h)
 |_=>cases (show false=true from h)
theorem zx8{args:List WData}(h:WShape.hasAll [] args [.list .int]=true):∃ds,args=[.list ds]∧WShape.hasItems [] ds .int=true:=by
 refine zfB (hasAllW_cons h) λd0 r0 hzz h1 h2=>?_;subst hzz;refine zaO (zxs h1) λds hzz hi=>?_;subst hzz
 induction r0 with
 |nil=>exact zbB ds rfl hi
 |cons _ _=>cases (show false=true from h2)
theorem zs7{d:WData}(h:WData.layableAll [d]=true):d.weight≤2^20:=by
 have:d.layable=true:=(yw.mp h).1;unfold WData.layable at this;exact yF (yw.mp this).2
theorem zrL{P:Params}{h:Heap}{vs:List Value}{args:List WData}(hwl:WellAll P h vs args)(hp1:WShape.hasAll [] args [.list .int]=true)(hlay:WData.layableAll args=true) :
  ∃(xs:List Int)(vs0:List Value)(L:Addr),args=[.list (xs.map .int)]∧vs=[.ref L]∧zAa vs0 xs∧h.get? L=some {cls:=.type "list",data:=.seq vs0.toArray}∧WData.weight (.list (xs.map .int))≤2^20:=by
 refine zaO (zx8 hp1) λds hzz hit=>?_;subst hzz;clear hp1;left;cases hwl with
 |cons a0 b0=>
  cases b0;cases a0 with
  |@list L vs0 _ hg0 hw0=>
   refine zaO (zyw hw0 hit) λxs hzz hxs=>?_;subst hzz;exact zCh xs vs0 L rfl rfl hxs hg0 (zs7 hlay)
theorem ofPys_ints:∀ns:List Int,ofPys (ns.map PyData.int)=ns.map WData.int
 |[]=>rfl
 |n::ns=>ya (WData.int n::·) (ofPys_ints ns)
theorem zuv{R:WRecords}{cl:Str->Option Addr}{P:Params}{ord:List DictEntry->List DictEntry}{ns:List Int}{s:Shared}{r:List Value×Shared}(e:layAllW R cl P ord [.list (ns.map .int)] s=some r):s.toks≤r.2.toks:=by
 rw[←ofPys_ints]at e;simp only[layAllW,layW]at e;cases q:layAllW R cl P ord (ofPys (List.map PyData.int ns)) s with
 |none=>rw[q]at e;exact zae e
 |some r'=>
  rw[q]at e;have hh:=PySem.W.X.lay_ints_toks ns s r' q;simp only[Option.some.injEq]at e;rw[←e];exact hh
theorem zBM{q:Program}{loose:List Str}{R:WRecords}{XP:(Str->Option Value)->Heap->Prop}{w:World}{s₀:Shared}{mg mb:Str->Option Value}{h:Heap}{name:Str}{d:DefRec}{kw:List (Str×Expr)}(G:Ground q loose R XP w s₀ mg mb h)(e:defOf q name=some (d,kw)):zwI (d,kw) mg h:=by
 obtain⟨a,o,pm,cd,doc,dV,kV,q1,q2,q3,q4,q5⟩:=G.fn e;exact⟨a,o,pm,cd,doc,dV,kV,defOf_name e▸q1,q2,q3,q4,q5⟩
theorem holds_grown{l:OpenLaw}{q:Program}{loose:List Str}{Xt:Shared->Bool}{XP:(Str->Option Value)->Heap->Prop}{YP:World->(Str->Option Value)->Heap->Prop}{sets:List (Str×List Str)}{β:Type}{ext:BS->β}{extV:World->β}{N M:Nat}{d:DefRec}{kwd:List (Str×Expr)}
  (hm:l.most=some 63)(hbd:l.bound=none)
  (hB:∀w:World,(fencedOpening treeTable l.prog w M).map (λs=>(s.heap,s.gens,s.drawn,s.toks))=some (boot_heap w.params,Array.mk [],boot_drawn,boot_toks))
  (left:∀w,ziN l.prog q loose Xt sets ext extV (denote table) pyNext openSeen N w)
  (hX:∀s,Xt s=true->XP (s.heap.nsMap mainGlobals) s.heap)(hXk:∀mg h h',XP mg h->(∀b o,h.get? b=some o->h'.get? b=some o)->XP mg h')
  (hE:∀w b,ext b=extV w->YP w (b.heap.nsMap mainGlobals) b.heap)(hYk:∀w mg h h',YP w mg h->(∀b o,h.get? b=some o->h'.get? b=some o)->YP w mg h')
  (hK:∀w b,ext b=extV w->0<b.toks)
  (hdef:defOf q l.name=some (d,kwd))(hp:l.prog.theDef l.name=some (d.params,d.body,d.scope))(hk:kwWritten? d.params.kwonlyargs d.params.kw_defaults=some kwd)
  (k1:l.row.wellSaid=true)(ok:(chainsOk q&&opensWell l.prog&&(frees l.row.toRowW&&l.row.within.isEmpty))=true)(hb:l.prog.bare)(hw:l.row.toRowW.promised)
  (call:WalkG l.prog q loose XP YP sets d kwd):l.row.Holds:=by
 obtain⟨ok,k5⟩:=yw.mp ok;obtain⟨hch,o1⟩:=yw.mp ok;obtain⟨k5,k6⟩:=yw.mp k5;refine zCs (frees_parts k5) λhsame hu ha hap hmk=>?_;refine⟨k1,hw,⟨hb,o1,by show l.row.toRowW.makers.map l.row.toRowW.maker=[];exact ya _ hmk⟩,hw.witness,λw=>⟨(zwX (w:=w) hB (left w) hX hch).1,λs' hs'=>?_⟩⟩;left;obtain⟨s₀,s,hf,hg0,hT,hz,hgens,hg,G,SS,b,hsb,hext⟩:=(zwX (w:=w) hB (left w) hX hch).2 s' hs';have Y:YP w (s.heap.nsMap mainGlobals) s.heap:=hsb▸(hE w b hext);have RF:RecFacts ([]:WRecords) s.heap:=recFacts_nil rfl;refine⟨s₀,hf,hg0,s,hT,λn hn=>?_,RF.1,RF.2.1,?_⟩
 ·obtain rfl:n=l.name:=by
   have:n∈[l.name]:=hn;simpa using this
  exact pinned_of_view hg G hdef hp hk
 refine ClaimW.callFrom_of_specN (c:=l.row.toRowW.claim) (tree:=λvs=>do match ←nsGet mainNs l.row.name with
   |some f=>do ret (←PySem.call f vs)
   |none=>unsupported "claim.caller:no-such-global") hz hgens λargs hpre hlay ord hord=>?_
 obtain⟨⟨vs,s₁⟩,hlaid⟩:=yL.mp (layAllW_isSome (P:=w.params) (ord:=ord) (R:=[]) G.has args l.row.args s (pre_splitW hpre).1);have keeps:=layAllW_keeps _ _ _ hlaid;have hal:=layAllW_rest _ _ _ hlaid;refine zcM (reads_layAllW hord _ _ _ hlaid hlay s₁.heap (λ_ _ e=>e)) λas hrd hin hold=>?_;have G1:=G.keeps hXk keeps;have hwl:=well_layAllW hord args s _ hlaid s₁.heap λ_ _ e=>e;obtain⟨hp1,hp2⟩:=pre_splitW hpre;clear hpre;obtain⟨xs,vs0,L,rfl,rfl,hxs,hg0,hwt⟩:=zrL hwl hp1 hlay;have hlen:(xs.map WData.int).length≤63:=zyQ hm hbd hp2;have hlow:(L==sysModules)=false:=by
  clear hwl G1 hold hal keeps hlaid hg0;cases hrd with
  |cons x y=>
   cases x with
   |list g1 g2 g3 g4=>
    refine beq_eq_false_iff_ne.mpr λe=>?_;have:=(hin.2.2 L (by simp)).1;subst e;exact absurd G.low (yg.mpr this)
 left;obtain⟨a,o,pm,cd,doc,dV,kV,q1,q2,q3,q4,q5⟩:=zBM G1 hdef;have hn:=defOf_name hdef;have hk1:0<s₁.toks:=yA (hsb▸(hK w b hext)) (zuv hlaid);have h:=call w s {s₁ with gens:=#[]} _ _ G1 (SS.keeps keeps) (hYk _ _ _ _ Y keeps) rfl hk1 a o pm cd doc dV kV q2 q3 q4 q5 q1 xs vs0 L hxs hg0 (by simpa using hlen) hwt hlow;have hi:=ident_freeW hu ha hap;have hwi:l.row.toRowW.claim.within=[]:=List.isEmpty_iff.mp k6;refine zny _ s₁ hlaid (yl (wpAny_nsGet G1.T.g ?_));simp only[show l.row.name=l.name from rfl,show s.heap.nsMap mainGlobals l.name=some (.ref a)from hn▸q1];refine yl (yt h (λv s' g=>?_) λ_ _ g=>g.elim);refine zyh g λhzz g1 g2 g3=>?_;subst hzz;have z:=zB0 (c:=l.row.toRowW.claim) (s₀:=s) (s₁:=s₁) (s':=s') (r:=.ok (.ret (.bool true))) hsame hwi hi hrd hold hal.2.2.1 (.inl (zCh _ (.bool true) ([]) rfl (λ_=>rfl) (.bool true) (zwc rfl) (λ_=>⟨.nil,λ_ h=>zcx h⟩))) g1 g2 g3;exact yo (zCY _ rfl z.1 z.2.1 z.2.2 (λq=>⟨namesKept_of hT hg _ keeps g1.old,λx hx=>zcx hx⟩))
theorem zkt:defOf q08 (ofString "suffixed_err")=some (⟨ofString "suffixed_err",zaH p8 27,zah p8 27,zap p8 27,zfx p8 27⟩,[]):=by kernel_rfl
theorem zmW:defOf q08 (ofString "skip_chars")=some (⟨ofString "skip_chars",zaH p8 18,zah p8 18,zap p8 18,zfx p8 18⟩,[]):=by kernel_rfl
theorem zeP:defOf q08 (ofString "is_unicode_scalar_value")=some (⟨ofString "is_unicode_scalar_value",zaH p8 28,zah p8 28,zap p8 28,zfx p8 28⟩,[]):=by kernel_rfl
theorem ziS:defOf q08 (ofString "parse_hex_char")=some (⟨ofString "parse_hex_char",zaH p8 23,zah p8 23,zap p8 23,zfx p8 23⟩,[]):=by kernel_rfl
theorem zc0:defOf q08 (ofString "parse_basic_str_escape_multiline")=some (⟨ofString "parse_basic_str_escape_multiline",zaH p8 22,zah p8 22,zap p8 22,zfx p8 22⟩,[]):=by kernel_rfl
theorem ziz:defOf q08 (ofString "parse_basic_str")=some (⟨ofString "parse_basic_str",zaH p8 26,zah p8 26,zap p8 26,zfx p8 26⟩,[]):=by kernel_rfl
theorem zet:defOf q08 (ofString "parse_one_line_basic_str")=some (⟨ofString "parse_one_line_basic_str",zaH p8 20,zah p8 20,zap p8 20,zfx p8 20⟩,[]):=by kernel_rfl
theorem znO:defOf q08 (ofString "skip_until")=some (⟨ofString "skip_until",zaH p8 19,zah p8 19,zap p8 19,zfx p8 19⟩,[]):=by kernel_rfl
theorem zg6:defOf q08 (ofString "parse_literal_str")=some (⟨ofString "parse_literal_str",zaH p8 24,zah p8 24,zap p8 24,zfx p8 24⟩,[]):=by kernel_rfl
theorem zf1:defOf q08 (ofString "parse_multiline_str")=some (⟨ofString "parse_multiline_str",zaH p8 25,zah p8 25,zap p8 25,zfx p8 25⟩,[]):=by kernel_rfl
theorem zuK:(recsOf q08).find? (λe=>e.name==ofString "suffixed_err")=some ⟨ofString "suffixed_err",zaH p8 27,zah p8 27,zap p8 27,zfx p8 27⟩:=by kernel_rfl
theorem zCb:specOf q08 "TOMLDecodeError"=some ("ValueError.__new__",bmV):=by kernel_rfl
theorem zBF:zAx q08 zfW zo2=true:=by kernel_rfl
theorem zCK:dE.2=[(ofString "multiline",.Constant (.bool false) 0 ⟨49,50,49,55⟩)]:=by kernel_rfl
theorem zrk{mg:Str->Option Value}{h:Heap}{P:Addr}(hP:h.get? P=some {cls:=.none,data:=.fields #[]})(x:ClsAt mg h):ClsAt mg (zn1 h P):=by
 obtain⟨C,o,cd,m,h1,h2,h3,h4,h5,h6⟩:=x;exact⟨C,o,cd,m,h1,zdH hP h2 (by rw[h3];nofun),h3,h4,zgK hP h5,h6⟩
section
variable{w:World}{s₀:Shared}{mg mb:Str->Option Value}{h:Heap}{XP:(Str->Option Value)->Heap->Prop}
noncomputable abbrev S8(w:World)(mg mb:Str->Option Value)(h:Heap)(P:Addr):St0:=mkS p8 w mg mb h P 27
theorem FnAt.use{S:St0}{n:Str}{params:Arguments}{body:List Stmt}{scope:Scope}{P:Prop}(F:FnAt S n params body scope)
  (k:∀(a:Addr)(o:Obj)(pm cd doc:Value),S.mg n=some (.ref a)->S.base.get? a=some o->o.data=.func (docDef n params body scope pm cd doc)->S.base.CodeRec cd n->P):P:=
 let ⟨a,o,pm,cd,doc,h1,h2,h3,h4⟩:=F
 k a o pm cd doc h1 h2 h3 h4
theorem zCe(G:Ground q08 zfW [] XP w s₀ mg mb h)(SS:zej p08 w ziC mg h)(E:zkC p08 w mg h)(Kf:zwI dE mg h)(Nf:ClsAt mg h):∃P c₀,h.get? P=some {cls:=.none,data:=.fields #[]}∧h.TableAt c₀ P #[] ∧
  Std (S8 w mg mb h P)∧NoG (S8 w mg mb h P)∧Gl (S8 w mg mb h P) gl8∧zav (S8 w mg mb h P)∧ClsAt (S8 w mg mb h P).mg (S8 w mg mb h P).base∧zaD (S8 w mg mb h P) (zay zAH):=by
 obtain⟨a0,o0,fd0,c0,P,g1,g2,g3,g4,g5,g6⟩:=tab_of G zuK;have hP:=g6.2;have D0:Std (S8 w mg mb h P):=zA8 G hP zCb;have NG:NoG (S8 w mg mb h P):=zAR G zBF;have E0:zav (S8 w mg mb h P):=zqu (zqe hP E);have SG:zej p8 w ziC mg (zn1 h P):=zud hP SS;have hB:(S8 w mg mb h P).base.BuiltinsAt (S8 w mg mb h P).mg (S8 w mg mb h P).tab:=zAw G hP;have N0:ClsAt (S8 w mg mb h P).mg (S8 w mg mb h P).base:=zrk hP Nf;have f_suffixed_err:FnAt (S8 w mg mb h P) (ofString "suffixed_err") (zaH p8 27) (zah p8 27) (zap p8 27):=zcE G hP zkt (by kernel_rfl);have f_skip_chars:FnAt (S8 w mg mb h P) (ofString "skip_chars") (zaH p8 18) (zah p8 18) (zap p8 18):=zcE G hP zmW (by kernel_rfl);have f_is_unicode_scalar_value:FnAt (S8 w mg mb h P) (ofString "is_unicode_scalar_value") (zaH p8 28) (zah p8 28) (zap p8 28):=zcE G hP zeP (by kernel_rfl);have f_parse_hex_char:FnAt (S8 w mg mb h P) (ofString "parse_hex_char") (zaH p8 23) (zah p8 23) (zap p8 23):=zcE G hP ziS (by kernel_rfl);have f_parse_basic_str_escape_multiline:FnAt (S8 w mg mb h P) (ofString "parse_basic_str_escape_multiline") (zaH p8 22) (zah p8 22) (zap p8 22):=zcE G hP zc0 (by kernel_rfl);have f_parse_basic_str:FnAt (S8 w mg mb h P) (ofString "parse_basic_str") (zaH p8 26) (zah p8 26) (zap p8 26):=zcE G hP ziz (by kernel_rfl);have f_parse_one_line_basic_str:FnAt (S8 w mg mb h P) (ofString "parse_one_line_basic_str") (zaH p8 20) (zah p8 20) (zap p8 20):=zcE G hP zet (by kernel_rfl);have f_skip_until:FnAt (S8 w mg mb h P) (ofString "skip_until") (zaH p8 19) (zah p8 19) (zap p8 19):=zcE G hP znO (by kernel_rfl);have f_parse_literal_str:FnAt (S8 w mg mb h P) (ofString "parse_literal_str") (zaH p8 24) (zah p8 24) (zap p8 24):=zcE G hP zg6 (by kernel_rfl);have f_parse_multiline_str:FnAt (S8 w mg mb h P) (ofString "parse_multiline_str") (zaH p8 25) (zah p8 25) (zap p8 25):=zcE G hP zf1 (by kernel_rfl);obtain⟨ae,oe,pme,cde,doce,dVe,kVe,e1,e2,e3,e4,e5⟩:=Kf;have edV:dVe=.none:=by
  rcases e5.pos with⟨_,e⟩|⟨e,_⟩
  ·exact e
  ·exact absurd (by kernel_rfl) e
 subst edV;obtain⟨K,kc,kdd,kh,kt,kn,ksl,rfl,hKk⟩:=zB1 hP e5 zCK;have G0:Gl (S8 w mg mb h P) gl8:=by
  unfold gl8;refine Gl.cons (zjN (S:=(S8 w mg mb h P)) SG (by right)) ?_;refine Gl.cons (zjN (S:=(S8 w mg mb h P)) SG (by right)) ?_;refine Gl.cons (zjN (S:=(S8 w mg mb h P)) SG (by right)) ?_;refine Gl.cons (zjN (S:=(S8 w mg mb h P)) SG (by right)) ?_;refine Gl.cons (zjN (S:=(S8 w mg mb h P)) SG (by right)) ?_;refine Gl.cons (zjN (S:=(S8 w mg mb h P)) SG (by right)) ?_;refine Gl.cons (zjN (S:=(S8 w mg mb h P)) SG (by right)) ?_;refine Gl.cons (zg2 f_suffixed_err) ?_;refine Gl.cons (zg2 f_skip_chars) ?_;refine Gl.cons (zg2 f_is_unicode_scalar_value) ?_;refine Gl.cons (zg2 f_parse_hex_char) ?_;refine Gl.cons ⟨_,e1,λh' P' _=>.fn e1⟩ ?_;refine Gl.cons (zg2 f_parse_basic_str_escape_multiline) ?_;refine Gl.cons (zg2 f_parse_basic_str) ?_;refine Gl.cons (zg2 f_parse_one_line_basic_str) ?_;refine Gl.cons (zg2 f_skip_until) ?_;refine Gl.cons (zg2 f_parse_literal_str) ?_;refine Gl.cons (zg2 f_parse_multiline_str) ?_;exact Gl.nil
 have e2':(S8 w mg mb h P).base.get? ae=some oe:=zdH hP e2 (by rw[e3];nofun);have e4':(S8 w mg mb h P).base.CodeRec cde (ofString "parse_basic_str_escape"):=zmT hP e4;obtain⟨as,os,pms,cds,docs,s1,s2,s3,s4⟩:=f_suffixed_err;have hcf:zeT (S8 w mg mb h P) cds:=by
  have s1:mg (ofString "suffixed_err")=some (.ref as):=s1;rw[g1]at s1;cases s1;have:=zlb h P _ _ s2;rw[g2]at this;cases this;rw[g3]at s3;cases s3;have e:cds=.ref c0:=g4;subst e;exact zqK g5 g6
 have t0:zaD (S8 w mg mb h P) (zay zcG):=zaD.nil;have CL:=zvK D0 NG G0 E0 rfl;have tb_suffixed_err:=zkH D0 NG G0 E0 t0 rfl hB CL s1 s2 s3 s4 hcf;have tb_skip_chars:=f_skip_chars.use λ_ _ _ _ _ u1 u2 u3 u4=>znS D0 NG G0 E0 tb_suffixed_err u1 u2 u3 u4;have tb_is_unicode_scalar_value:=f_is_unicode_scalar_value.use λ_ _ _ _ _ u1 u2 u3 u4=>zeM D0 NG G0 E0 tb_skip_chars u1 u2 u3 u4;have tb_parse_hex_char:=f_parse_hex_char.use λ_ _ _ _ _ u1 u2 u3 u4=>ziU D0 NG G0 E0 tb_is_unicode_scalar_value u1 u2 u3 u4;have tb_parse_basic_str_escape:=ze8 D0 NG G0 E0 tb_parse_hex_char e1 e2' e3 e4';have tb_parse_basic_str_escape_multiline:=f_parse_basic_str_escape_multiline.use λ_ _ _ _ _ u1 u2 u3 u4=>zc2 D0 NG G0 E0 tb_parse_basic_str_escape u1 u2 u3 u4;have tb_esc0:zaD (S8 w mg mb h P) (zay zbv):=zA2 D0 NG G0 E0 tb_parse_hex_char e1 e2' e3 e4' hKk tb_parse_basic_str_escape_multiline;have tb_parse_basic_str:=f_parse_basic_str.use λ_ _ _ _ _ u1 u2 u3 u4=>zit D0 NG G0 E0 tb_esc0 u1 u2 u3 u4;have tb_parse_one_line_basic_str:=f_parse_one_line_basic_str.use λ_ _ _ _ _ u1 u2 u3 u4=>zex D0 NG G0 E0 tb_parse_basic_str u1 u2 u3 u4;have tb_skip_until:=f_skip_until.use λ_ _ _ _ _ u1 u2 u3 u4=>zmH D0 NG G0 E0 tb_parse_one_line_basic_str u1 u2 u3 u4;have tb_parse_literal_str:=f_parse_literal_str.use λ_ _ _ _ _ u1 u2 u3 u4=>zgO D0 NG G0 E0 tb_skip_until u1 u2 u3 u4;have tb_parse_multiline_str:=f_parse_multiline_str.use λ_ _ _ _ _ u1 u2 u3 u4=>zgh D0 NG G0 E0 tb_parse_literal_str u1 u2 u3 u4;exact⟨P,c0,hP,g6,D0,NG,G0,E0,N0,tb_parse_multiline_str⟩
end
section
set_option maxRecDepth 1000000
theorem zBW{S:St0}{h:Heap}{P:Addr->Prop}{vs:List Value}{xs:List Int}(hi:zAa vs xs):zaN S h P vs (xs.map .int):=by
 induction vs generalizing xs with
 |nil=>cases xs with
  |nil=>exact .nil
  |cons _ _=>exact hi.elim
 |cons v vs ih=>cases xs with
  |nil=>cases v<;>exact hi.elim
  |cons x xs=>cases v<;>first
   |exact hi.elim
   |(obtain⟨e,r⟩:=hi;subst e;exact .cons (.int _ _) (ih r))
theorem zAf{h h':Heap}{P c₀:Addr}(hP:h.get? P=some {cls:=.none,data:=.fields #[]})(hT:h.TableAt c₀ P #[])(k:zdU [P] h h'):OldK h h':=⟨λb o e=>by
 by_cases q:b=P
 ·subst q
  rw[hP]at e;cases e;obtain⟨_,o',h1,_,h2⟩:=k _ _ hP;obtain⟨more,rfl,_⟩:=h2 #[] rfl rfl;exact .inr (.inl ⟨hT.isCodeTable,rfl,#[],more,rfl,h1⟩)
 ·exact .inl ((k b o e).1 λz=>q (xc.mp z)),λb o e=>let ⟨_,o',h1,_⟩:=k b o e;⟨o',h1⟩⟩
theorem zoc:defOf q08 (ofString "_law_text")=some (⟨ofString "_law_text",zaH p8 30,zah p8 30,zap p8 30,zfx p8 30⟩,[]):=by kernel_rfl
section
variable{S:St0}(D0:Std S)(NG:NoG S)(G:Gl S zf8)(E0:zav S)(N0:ClsAt S.mg S.base)
include D0 NG G E0 N0
theorem zoj(TB:zaD S (zay zbp)){a:Addr}{o:Obj}{pm cd doc kV:Value}(h1:S.mg (ofString "_law_text")=some (.ref a))(h2:S.base.get? a=some o)(h3:o.data=.func {docDef (ofString "_law_text") (zaH p8 30) (zah p8 30) (zap p8 30) pm cd doc with defaults:=.none,kwdefaults:=kV})(h4:S.base.CodeRec cd (ofString "_law_text")):zaD S (zay ((ofString "_law_text",zfi)::zbp)):=by
 refine zsX (l:=zbp) D0 (sh:=zb3) (ps:=[ofString "script"]) (rest:=[ofString "pieces",ofString "chosen",ofString "x",ofString "left",ofString "digits_v",ofString "digit",ofString "kind",ofString "sign",ofString "half"]) (kws:=[]) h1 h2 h3 h4 (by kernel_rfl) (by kernel_rfl) (by kernel_rfl) rfl (by kernel_rfl) (by kernel_rfl) (by kernel_rfl) (by right) (λs vs ks e1 e2=>?_) (by decide) (@zom S D0 NG G E0 N0 TB) zyx (by intro h;exact nomatch h) TB;obtain rfl:=zum e2;obtain⟨v0,rfl⟩:=zzh (l:=vs) (by simpa using e1);exact BindsTo.of_eq (by kernel_rfl)
end
theorem zof:defOf q08 (ofString "_law_read")=some (⟨ofString "_law_read",zaH p8 31,zah p8 31,zap p8 31,zfx p8 31⟩,[]):=by kernel_rfl
section
variable{S:St0}(D0:Std S)(NG:NoG S)(G:Gl S zf8)(E0:zav S)(N0:ClsAt S.mg S.base)
include D0 NG G E0 N0
theorem zoZ(TB:zaD S (zay zcQ)){a:Addr}{o:Obj}{pm cd doc kV:Value}(h1:S.mg (ofString "_law_read")=some (.ref a))(h2:S.base.get? a=some o)(h3:o.data=.func {docDef (ofString "_law_read") (zaH p8 31) (zah p8 31) (zap p8 31) pm cd doc with defaults:=.none,kwdefaults:=kV})(h4:S.base.CodeRec cd (ofString "_law_read")):zaD S (zay ((ofString "_law_read",zcT)::zcQ)):=by
 refine zfD (l:=zcQ) D0 (sh:=zgg) (ps:=[ofString "marks",ofString "text",ofString "place"]) (rest:=[ofString "error"]) (kws:=[]) h1 h2 h3 h4 (by kernel_rfl) (by kernel_rfl) (by kernel_rfl) rfl (by kernel_rfl) (by kernel_rfl) (by kernel_rfl) (by right) (λs vs ks e1 e2=>?_) (by decide) (@zow S D0 NG G E0 N0 TB) zyu (by intro h;exact nomatch h) TB;obtain rfl:=zum e2;obtain⟨v0,v1,v2,rfl⟩:=zx3 (l:=vs) (by simpa using e1);exact BindsTo.of_eq (by kernel_rfl)
end
theorem zmR:defOf q08 (ofString "_law_place")=some (⟨ofString "_law_place",zaH p8 32,zah p8 32,zap p8 32,zfx p8 32⟩,[]):=by kernel_rfl
section
variable{S:St0}(D0:Std S)(NG:NoG S)(G:Gl S zf8)(E0:zav S)(N0:ClsAt S.mg S.base)
include D0 NG G E0 N0
theorem zmI(TB:zaD S (zay zb2)){a:Addr}{o:Obj}{pm cd doc kV:Value}(h1:S.mg (ofString "_law_place")=some (.ref a))(h2:S.base.get? a=some o)(h3:o.data=.func {docDef (ofString "_law_place") (zaH p8 32) (zah p8 32) (zap p8 32) pm cd doc with defaults:=.none,kwdefaults:=kV})(h4:S.base.CodeRec cd (ofString "_law_place")):zaD S (zay ((ofString "_law_place",zey)::zb2)):=by
 refine zsX (l:=zb2) D0 (sh:=zd7) (ps:=[ofString "text",ofString "where"]) (rest:=[ofString "line",ofString "column"]) (kws:=[]) h1 h2 h3 h4 (by kernel_rfl) (by kernel_rfl) (by kernel_rfl) rfl (by kernel_rfl) (by kernel_rfl) (by kernel_rfl) (by right) (λs vs ks e1 e2=>?_) (by decide) (@zm3 S D0 NG G E0 N0 TB) zwa (by intro h;exact nomatch h) TB;obtain rfl:=zum e2;obtain⟨v0,v1,rfl⟩:=zui (l:=vs) (by simpa using e1);exact BindsTo.of_eq (by kernel_rfl)
end
theorem zhj:defOf q08 (ofString "_law_by_one_mark")=some (⟨ofString "_law_by_one_mark",zaH p8 33,zah p8 33,zap p8 33,zfx p8 33⟩,[]):=by kernel_rfl
section
variable{S:St0}(D0:Std S)(NG:NoG S)(G:Gl S zf8)(E0:zav S)(N0:ClsAt S.mg S.base)
include D0 NG G E0 N0
theorem zhL(TB:zaD S (zay za9)){n:Nat}(hn0:0<n){l:List (Str×Ctr)}(TN:zc5 n S (zay l)){a:Addr}{o:Obj}{pm cd doc kV:Value}(h1:S.mg (ofString "_law_by_one_mark")=some (.ref a))(h2:S.base.get? a=some o)(h3:o.data=.func {docDef (ofString "_law_by_one_mark") (zaH p8 33) (zah p8 33) (zap p8 33) pm cd doc with defaults:=.none,kwdefaults:=kV})(h4:S.base.CodeRec cd (ofString "_law_by_one_mark")):zc5 n S (zay ((ofString "_law_by_one_mark",zc9 n)::l)):=by
 refine ztC (l:=l) D0 (sh:=zbf) (ps:=[ofString "text",ofString "first",ofString "foreign"]) (rest:=[ofString "row",ofString "at",ofString "done",ofString "refused",ofString "turn",ofString "told",ofString "spot",ofString "words",ofString "where",ofString "rows",ofString "more",ofString "signs"]) h1 h2 h3 h4 (by kernel_rfl) (by kernel_rfl) (by kernel_rfl) rfl (λ_=>by kernel_rfl) (by kernel_rfl) (by kernel_rfl) (by kernel_rfl) (by right) (λs vs e1=>?_) (@zhf S D0 NG G E0 N0 TB n hn0) zAE rfl TN;obtain⟨v0,v1,v2,rfl⟩:=zx3 (l:=vs) (by simpa using e1);exact BindsTo.of_eq (by kernel_rfl)
end
theorem zhU:defOf q08 (ofString "_law_by_escapes")=some (⟨ofString "_law_by_escapes",zaH p8 34,zah p8 34,zap p8 34,zfx p8 34⟩,[]):=by kernel_rfl
section
variable{S:St0}(D0:Std S)(NG:NoG S)(G:Gl S zf8)(E0:zav S)(N0:ClsAt S.mg S.base)
include D0 NG G E0 N0
theorem zim(TB:zaD S (zay zbd)){n:Nat}(hn0:0<n){l:List (Str×Ctr)}(TN:zc5 n S (zay l)){a:Addr}{o:Obj}{pm cd doc kV:Value}(h1:S.mg (ofString "_law_by_escapes")=some (.ref a))(h2:S.base.get? a=some o)(h3:o.data=.func {docDef (ofString "_law_by_escapes") (zaH p8 34) (zah p8 34) (zap p8 34) pm cd doc with defaults:=.none,kwdefaults:=kV})(h4:S.base.CodeRec cd (ofString "_law_by_escapes")):zc5 n S (zay ((ofString "_law_by_escapes",zct n)::l)):=by
 refine ztC (l:=l) D0 (sh:=zbn) (ps:=[ofString "text",ofString "place",ofString "marks",ofString "foreign"]) (rest:=[ofString "other",ofString "refused",ofString "turn",ofString "told",ofString "spot",ofString "signs",ofString "words",ofString "where"]) h1 h2 h3 h4 (by kernel_rfl) (by kernel_rfl) (by kernel_rfl) rfl (λ_=>by kernel_rfl) (by kernel_rfl) (by kernel_rfl) (by kernel_rfl) (by right) (λs vs e1=>?_) (@zii S D0 NG G E0 N0 TB n hn0) zAB rfl TN;obtain⟨v0,v1,v2,v3,rfl⟩:=zCA (l:=vs) (by simpa using e1);exact BindsTo.of_eq (by kernel_rfl)
end
theorem zBX:defOf q08 (ofString "law")=some (⟨ofString "law",zaH p8 35,zah p8 35,zap p8 35,zfx p8 35⟩,[]):=by kernel_rfl
section
variable{S:St0}(D0:Std S)(NG:NoG S)(G:Gl S zf8)(E0:zav S)(N0:ClsAt S.mg S.base)
include D0 NG G E0 N0
theorem zBD(TB:zaD S (zay zgH))(TN:∀n,0<n->zc5 n S (zay (zk0 n))){a:Addr}{o:Obj}{pm cd doc kV:Value}(h2:S.base.get? a=some o)(h3:o.data=.func {docDef (ofString "law") (zaH p8 35) (zah p8 35) (zap p8 35) pm cd doc with defaults:=.none,kwdefaults:=kV})(h4:S.base.CodeRec cd (ofString "law")):zAD 1 S a 130 true (λds dk=>zbu (zu2 ds dk)):=by
 refine zpT D0 (sh:=zj1) (ps:=[ofString "script"]) (rest:=[ofString "foreign",ofString "place",ofString "first",ofString "told"]) h2 h3 h4 (by kernel_rfl) (by kernel_rfl) (by kernel_rfl) rfl (λ_=>by kernel_rfl) (by kernel_rfl) (by kernel_rfl) (by kernel_rfl) (by right) (λs vs e1=>?_) (@zBH S D0 NG G E0 N0 TB TN) zzw rfl;obtain⟨v0,rfl⟩:=zzh (l:=vs) (by simpa using e1);exact BindsTo.of_eq (by kernel_rfl)
end
noncomputable section
theorem zBA:WalkG p08 q08 zfW (λ_ _=>True) (λw mg h=>zkC p08 w mg h∧zwI dE mg h∧ClsAt mg h) ziC ⟨ofString "law",zaH p8 35,zah p8 35,zap p8 35,zfx p8 35⟩ []:=by
 intro w s₀ s₁ mg mb G SS Y hgens htk a o pm cd doc dV kV ho hdata hcd hdf hmg xs vs Lx hints hLx hlen hwt hlow;obtain⟨P,c₀,hP,hT,D0,NG,G0,E0,N0,TB⟩:=zCe G SS Y.1 Y.2.1 Y.2.2;have f__law_text:FnAt (S8 w mg mb s₁.heap P) (ofString "_law_text") (zaH p8 30) (zah p8 30) (zap p8 30):=zcE G hP zoc (by kernel_rfl);have f__law_read:FnAt (S8 w mg mb s₁.heap P) (ofString "_law_read") (zaH p8 31) (zah p8 31) (zap p8 31):=zcE G hP zof (by kernel_rfl);have f__law_place:FnAt (S8 w mg mb s₁.heap P) (ofString "_law_place") (zaH p8 32) (zah p8 32) (zap p8 32):=zcE G hP zmR (by kernel_rfl);have f__law_by_one_mark:FnAt (S8 w mg mb s₁.heap P) (ofString "_law_by_one_mark") (zaH p8 33) (zah p8 33) (zap p8 33):=zcE G hP zhj (by kernel_rfl);have f__law_by_escapes:FnAt (S8 w mg mb s₁.heap P) (ofString "_law_by_escapes") (zaH p8 34) (zah p8 34) (zap p8 34):=zcE G hP zhU (by kernel_rfl);have f_law:FnAt (S8 w mg mb s₁.heap P) (ofString "law") (zaH p8 35) (zah p8 35) (zap p8 35):=zcE G hP zBX (by kernel_rfl);have G__law_by_escapes:=Gl.cons (zg2 f__law_by_escapes) G0;have G__law_by_one_mark:=Gl.cons (zg2 f__law_by_one_mark) G__law_by_escapes;have G__law_place:=Gl.cons (zg2 f__law_place) G__law_by_one_mark;have G__law_read:=Gl.cons (zg2 f__law_read) G__law_place;have G__law_text:=Gl.cons (zg2 f__law_text) G__law_read;have G1:Gl (S8 w mg mb s₁.heap P) zf8:=G__law_text;have tb__law_text:zaD (S8 w mg mb s₁.heap P) (zay ((ofString "_law_text",zfi)::zbp)):=f__law_text.use λ_ _ _ _ _ u1 u2 u3 u4=>zoj D0 NG G1 E0 N0 TB u1 u2 u3 u4;have tb__law_read:zaD (S8 w mg mb s₁.heap P) (zay ((ofString "_law_read",zcT)::zcQ)):=f__law_read.use λ_ _ _ _ _ u1 u2 u3 u4=>zoZ D0 NG G1 E0 N0 tb__law_text u1 u2 u3 u4;have tb__law_place:zaD (S8 w mg mb s₁.heap P) (zay ((ofString "_law_place",zey)::zb2)):=f__law_place.use λ_ _ _ _ _ u1 u2 u3 u4=>zmI D0 NG G1 E0 N0 tb__law_read u1 u2 u3 u4;have TN:∀n,0<n->zc5 n (S8 w mg mb s₁.heap P) (zay (zk0 n)):=λn hn=>(f__law_by_escapes.use λ_ _ _ _ _ u1 u2 u3 u4=>zim D0 NG G1 E0 N0 tb__law_place hn (f__law_by_one_mark.use λ_ _ _ _ _ u1 u2 u3 u4=>zhL D0 NG G1 E0 N0 tb__law_place hn tb__law_place.n u1 u2 u3 u4) u1 u2 u3 u4);obtain⟨a2,o2,pm2,cd2,doc2,v1,v2,v3,v4⟩:=f_law;have TB2:=zBD D0 NG G1 E0 N0 tb__law_place TN v2 v3 v4;have ea:a2=a:=by
  have v1':mg (ofString "law")=some (.ref a2):=v1;have hm':mg (ofString "law")=some (.ref a):=hmg;rw[v1']at hm';cases hm';rfl
 subst ea;have C:=TB2;have hPL:¬Lx=P:=λe=>by
  rw[e,hP]at hLx;cases hLx
 have hC:ziB (S8 w mg mb s₁.heap P) callerA [] [] (λb=>b=P) 130 true s₁:={
  frames:=rfl,stays:=zlb _ _,fun_:=trivial,depth:=by decide,units:=by decide,guards:=rfl,calm:=λ_=>⟨rfl,rfl⟩,hand:=.inl rfl
  hands:=(λv hv=>nomatch hv),gens:=hgens,tab:=⟨#[],hP,.nil⟩,tabP:=rfl,P:=(λb hb=>by rw[hb,hP];rfl),frP:=(λb hb=>zcx hb)}
 have W:=C callerA [] [] (λb=>b=P) s₁ [.ref Lx] [.lst (xs.map .int)] (λd=>d=.bool true) (λ_=>False) htk hC (.cons (.lst hLx hPL rfl rfl (zBW hints)) .nil) (by
  show zbu (zu2 [.lst (xs.map .int)] []) _ _;unfold zu2 zBi;refine zvL (l:=[]) ?_;exact zfS (yv hlen) ((zcb ..).mpr rfl))
 refine yt W (λv s' ⟨d,hd,hr,_,hk,hg,hos⟩=>?_) λe s' ⟨x,_,_,hx,_,_,_,_,_,_,_⟩=>hx.elim;subst hd;cases hr;exact⟨rfl,zAf hP hT hk,hos,hg.trans hgens⟩
end
end
section
set_option maxRecDepth 1000000
set_option maxHeartbeats 8000000
theorem ztf(w:World):ziN p08 q08 zfW (λ_=>true) ziC zlM zhP zun zuU zmj 100000 (World.two w false true):=by
 intro y os;kernel_rfl
theorem zsB(w:World):ziN p08 q08 zfW (λ_=>true) ziC zlM zhP zun zuU zmj 100000 (World.two w true false):=by
 intro y os;kernel_rfl
theorem zsC(w:World):ziN p08 q08 zfW (λ_=>true) ziC zlM zhP zun zuU zmj 100000 (World.two w true true):=by
 intro y os;kernel_rfl
theorem zzY(w:World):ziN p08 q08 zfW (λ_=>true) ziC zlM zhP (denote table) pyNext openSeen 100000 w:=zmG zsD ztf zsB zsC w
theorem zv3(w:World)(b:BS)(h:zlM b=zhP w):zkC p08 w (b.heap.nsMap mainGlobals) b.heap∧zwI dE (b.heap.nsMap mainGlobals) b.heap∧ClsAt (b.heap.nsMap mainGlobals) b.heap:=by
 unfold zlM zhP at h;rw[Prod.mk.injEq,Prod.mk.injEq,Prod.mk.injEq]at h;exact⟨zuW h.2.2.2,zyo h.1 (yw.mp h.2.1).1,zvX h.2.2.1⟩
theorem zuQ(w:World)(b:BS)(h:zlM b=zhP w):0<b.toks:=by
 unfold zlM zhP at h;rw[Prod.mk.injEq,Prod.mk.injEq,Prod.mk.injEq]at h;exact yK (yw.mp h.2.1).2
theorem ws8:OpenLaw.wellSaid PySem.Challenge.rw_kq0033_07=true:=by kernel_rfl
theorem holds07:PySem.Challenge.rw_kq0033_07.Holds:=by
 refine holds_law ws8 λsaid=>?_;refine holds_grown (l:=PySem.Challenge.rw_kq0033_07) (d:=⟨ofString "law",zaH p8 35,zah p8 35,zap p8 35,zfx p8 35⟩) (kwd:=[]) rfl rfl zzu zzY (λ_ _=>trivial) (λ_ _ _ _ _=>trivial) zv3 (λ_ _ _ _ y k=>⟨y.1.keeps k,y.2.1.keeps k,y.2.2.keeps k⟩) zuQ (by kernel_rfl) (by kernel_rfl) (by kernel_rfl) (by assumption) (by right) ⟨rfl,rfl,rfl,rfl,rfl,by right⟩ ?hw zBA
 w_witness2
end
end Mine.Internal
end
set_option maxRecDepth 1000000 in
set_option maxHeartbeats 8000000 in
theorem PySem.Challenge.cw_kq0033_07_holds : PySem.Challenge.rw_kq0033_07.Holds := by
  exact Mine.Internal.holds07
