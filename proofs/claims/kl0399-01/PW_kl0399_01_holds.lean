import PyProof.Rows.All
import KE.KRevIter
import KE.KSortTup
import Wide.FinOn
import OpenK.AllK
import Wide.All
import Lean
import PySem.Challenge.RW_kl0399_01
set_option Elab.async false
set_option maxRecDepth 100000
set_option linter.all false
set_option genInjectivity false
set_option genSizeOf false
set_option tactic.hygienic false
set_option bootstrap.genMatcherCode false
set_option autoImplicit true
set_option relaxedAutoImplicit true
set_option maxHeartbeats 8000000
namespace Mine.Internal
section
theorem jbx{n i:Nat}(h:i<n):n+1-(i+1)<n+1-i:=Nat.sub_lt_sub_left (Nat.lt_succ_of_lt h) (Nat.lt_succ_self i)
@[elab_as_elim] theorem lt2{P:Nat->Prop}{k:Nat}(h:k<2)(a:P 0)(b:P 1):P k:=by
 cases k with
 |zero=>exact a
 |succ k=>cases k with
  |zero=>exact b
  |succ k=>exact absurd h (Nat.not_lt.mpr (Nat.le_add_left 2 k))
@[elab_as_elim] theorem lt3{P:Nat->Prop}{k:Nat}(h:k<3)(a:P 0)(b:P 1)(c:P 2):P k:=by
 cases k with
 |zero=>exact a
 |succ k=>exact lt2 (P:=fun k=>P (k+1)) (Nat.lt_of_succ_lt_succ h) b c
@[elab_as_elim] theorem lt4{P:Nat->Prop}{k:Nat}(h:k<4)(a:P 0)(b:P 1)(c:P 2)(d:P 3):P k:=by
 cases k with
 |zero=>exact a
 |succ k=>exact lt3 (P:=fun k=>P (k+1)) (Nat.lt_of_succ_lt_succ h) b c d
@[elab_as_elim] theorem jbJ{α:Type}{n:Nat}{P:List α->Prop}{l:List α}(h:l.length=n+1)(k:∀a t,t.length=n->P (a::t)):P l:=by
 cases l with
 |nil=>cases h
 |cons a t=>exact k a t (Nat.succ.inj h)
@[elab_as_elim] theorem len0{α:Type}{P:List α->Prop}{l:List α}(h:l.length=0)(k:P []):P l:=List.eq_nil_of_length_eq_zero h▸k
@[elab_as_elim] theorem len3{α:Type}{P:List α->Prop}{l:List α}(h:l.length=3)(k:∀a b c,P [a,b,c]):P l:=jbJ h fun a _ h=>jbJ h fun b _ h=>jbJ h fun c _ h=>len0 h (k a b c)
@[elab_as_elim] theorem len5{α:Type}{P:List α->Prop}{l:List α}(h:l.length=5)(k:∀a b c d e,P [a,b,c,d,e]):P l:=jbJ h fun a _ h=>jbJ h fun b _ h=>len3 h (k a b)
theorem kH{α:Type _}{x:Option α}{v:α}{G:Prop}(h:x=none)(k:x=some v):G:=nomatch h.symm.trans k
theorem kC{P0 P1:Prop}{G:Prop}(k:P0->P1->G)(h:P0∧P1):G:=k h.1 h.2
theorem kg{α:Sort _}{P0:α->Prop}{G:Prop}(k:∀a,P0 a->G)(h:∃a,P0 a):G:=h.elim fun a h=>k a h
theorem wO{P0 P1 P2:Prop}{G:Prop}(k:P0->P1->P2->G)(h:P0∧P1∧P2):G:=k h.1 h.2.1 h.2.2
theorem jp{α:Sort _}{P0 P1:α->Prop}{G:Prop}(k:∀a,P0 a->P1 a->G)(h:∃a,P0 a∧P1 a):G:=h.elim fun a h=>k a h.1 h.2
theorem x2_1{α β:Sort _}{P0:α->β->Prop}{G:Prop}(k:∀a b,P0 a b->G)(h:∃a b,P0 a b):G:=h.elim fun a h=>h.elim fun b h=>k a b h
theorem x0_4{P0 P1 P2 P3:Prop}{G:Prop}(k:P0->P1->P2->P3->G)(h:P0∧P1∧P2∧P3):G:=k h.1 h.2.1 h.2.2.1 h.2.2.2
theorem jX{α:Sort _}{P0 P1 P2:α->Prop}{G:Prop}(k:∀a,P0 a->P1 a->P2 a->G)(h:∃a,P0 a∧P1 a∧P2 a):G:=h.elim fun a h=>k a h.1 h.2.1 h.2.2
theorem ky{α β:Sort _}{P0 P1:α->β->Prop}{G:Prop}(k:∀a b,P0 a b->P1 a b->G)(h:∃a b,P0 a b∧P1 a b):G:=h.elim fun a h=>h.elim fun b h=>k a b h.1 h.2
theorem VG{α β γ:Sort _}{P0:α->β->γ->Prop}{G:Prop}(k:∀a b c,P0 a b c->G)(h:∃a b c,P0 a b c):G:=h.elim fun a h=>h.elim fun b h=>h.elim fun c h=>k a b c h
theorem x0_5{P0 P1 P2 P3 P4:Prop}{G:Prop}(k:P0->P1->P2->P3->P4->G)(h:P0∧P1∧P2∧P3∧P4):G:=k h.1 h.2.1 h.2.2.1 h.2.2.2.1 h.2.2.2.2
theorem ZR{α:Sort _}{P0 P1 P2 P3:α->Prop}{G:Prop}(k:∀a,P0 a->P1 a->P2 a->P3 a->G)(h:∃a,P0 a∧P1 a∧P2 a∧P3 a):G:=h.elim fun a h=>k a h.1 h.2.1 h.2.2.1 h.2.2.2
theorem qb{α β:Sort _}{P0 P1 P2:α->β->Prop}{G:Prop}(k:∀a b,P0 a b->P1 a b->P2 a b->G)(h:∃a b,P0 a b∧P1 a b∧P2 a b):G:=h.elim fun a h=>h.elim fun b h=>k a b h.1 h.2.1 h.2.2
theorem yU{α β γ:Sort _}{P0 P1:α->β->γ->Prop}{G:Prop}(k:∀a b c,P0 a b c->P1 a b c->G)(h:∃a b c,P0 a b c∧P1 a b c):G:=h.elim fun a h=>h.elim fun b h=>h.elim fun c h=>k a b c h.1 h.2
theorem x4_1{α β γ δ:Sort _}{P0:α->β->γ->δ->Prop}{G:Prop}(k:∀a b c d,P0 a b c d->G)(h:∃a b c d,P0 a b c d):G:=h.elim fun a h=>h.elim fun b h=>h.elim fun c h=>h.elim fun d h=>k a b c d h
theorem x0_6{P0 P1 P2 P3 P4 P5:Prop}{G:Prop}(k:P0->P1->P2->P3->P4->P5->G)(h:P0∧P1∧P2∧P3∧P4∧P5):G:=k h.1 h.2.1 h.2.2.1 h.2.2.2.1 h.2.2.2.2.1 h.2.2.2.2.2
theorem YT{α:Sort _}{P0 P1 P2 P3 P4:α->Prop}{G:Prop}(k:∀a,P0 a->P1 a->P2 a->P3 a->P4 a->G)(h:∃a,P0 a∧P1 a∧P2 a∧P3 a∧P4 a):G:=h.elim fun a h=>k a h.1 h.2.1 h.2.2.1 h.2.2.2.1 h.2.2.2.2
theorem ZQ{α β:Sort _}{P0 P1 P2 P3:α->β->Prop}{G:Prop}(k:∀a b,P0 a b->P1 a b->P2 a b->P3 a b->G)(h:∃a b,P0 a b∧P1 a b∧P2 a b∧P3 a b):G:=h.elim fun a h=>h.elim fun b h=>k a b h.1 h.2.1 h.2.2.1 h.2.2.2
theorem KU{α β γ:Sort _}{P0 P1 P2:α->β->γ->Prop}{G:Prop}(k:∀a b c,P0 a b c->P1 a b c->P2 a b c->G)(h:∃a b c,P0 a b c∧P1 a b c∧P2 a b c):G:=h.elim fun a h=>h.elim fun b h=>h.elim fun c h=>k a b c h.1 h.2.1 h.2.2
theorem ZN{α β γ δ:Sort _}{P0 P1:α->β->γ->δ->Prop}{G:Prop}(k:∀a b c d,P0 a b c d->P1 a b c d->G)(h:∃a b c d,P0 a b c d∧P1 a b c d):G:=h.elim fun a h=>h.elim fun b h=>h.elim fun c h=>h.elim fun d h=>k a b c d h.1 h.2
theorem yV{α β:Sort _}{P0 P1 P2 P3 P4:α->β->Prop}{G:Prop}(k:∀a b,P0 a b->P1 a b->P2 a b->P3 a b->P4 a b->G)(h:∃a b,P0 a b∧P1 a b∧P2 a b∧P3 a b∧P4 a b):G:=h.elim fun a h=>h.elim fun b h=>k a b h.1 h.2.1 h.2.2.1 h.2.2.2.1 h.2.2.2.2
theorem KT{α β γ:Sort _}{P0 P1 P2 P3:α->β->γ->Prop}{G:Prop}(k:∀a b c,P0 a b c->P1 a b c->P2 a b c->P3 a b c->G)(h:∃a b c,P0 a b c∧P1 a b c∧P2 a b c∧P3 a b c):G:=h.elim fun a h=>h.elim fun b h=>h.elim fun c h=>k a b c h.1 h.2.1 h.2.2.1 h.2.2.2
theorem x4_3{α β γ δ:Sort _}{P0 P1 P2:α->β->γ->δ->Prop}{G:Prop}(k:∀a b c d,P0 a b c d->P1 a b c d->P2 a b c d->G)(h:∃a b c d,P0 a b c d∧P1 a b c d∧P2 a b c d):G:=h.elim fun a h=>h.elim fun b h=>h.elim fun c h=>h.elim fun d h=>k a b c d h.1 h.2.1 h.2.2
theorem x0_8{P0 P1 P2 P3 P4 P5 P6 P7:Prop}{G:Prop}(k:P0->P1->P2->P3->P4->P5->P6->P7->G)(h:P0∧P1∧P2∧P3∧P4∧P5∧P6∧P7):G:=k h.1 h.2.1 h.2.2.1 h.2.2.2.1 h.2.2.2.2.1 h.2.2.2.2.2.1 h.2.2.2.2.2.2.1 h.2.2.2.2.2.2.2
theorem x2_6{α β:Sort _}{P0 P1 P2 P3 P4 P5:α->β->Prop}{G:Prop}(k:∀a b,P0 a b->P1 a b->P2 a b->P3 a b->P4 a b->P5 a b->G)(h:∃a b,P0 a b∧P1 a b∧P2 a b∧P3 a b∧P4 a b∧P5 a b):G:=h.elim fun a h=>h.elim fun b h=>k a b h.1 h.2.1 h.2.2.1 h.2.2.2.1 h.2.2.2.2.1 h.2.2.2.2.2
theorem ZP{α β γ:Sort _}{P0 P1 P2 P3 P4:α->β->γ->Prop}{G:Prop}(k:∀a b c,P0 a b c->P1 a b c->P2 a b c->P3 a b c->P4 a b c->G)(h:∃a b c,P0 a b c∧P1 a b c∧P2 a b c∧P3 a b c∧P4 a b c):G:=h.elim fun a h=>h.elim fun b h=>h.elim fun c h=>k a b c h.1 h.2.1 h.2.2.1 h.2.2.2.1 h.2.2.2.2
theorem x4_4{α β γ δ:Sort _}{P0 P1 P2 P3:α->β->γ->δ->Prop}{G:Prop}(k:∀a b c d,P0 a b c d->P1 a b c d->P2 a b c d->P3 a b c d->G)(h:∃a b c d,P0 a b c d∧P1 a b c d∧P2 a b c d∧P3 a b c d):G:=h.elim fun a h=>h.elim fun b h=>h.elim fun c h=>h.elim fun d h=>k a b c d h.1 h.2.1 h.2.2.1 h.2.2.2
theorem x1_8{α:Sort _}{P0 P1 P2 P3 P4 P5 P6 P7:α->Prop}{G:Prop}(k:∀a,P0 a->P1 a->P2 a->P3 a->P4 a->P5 a->P6 a->P7 a->G)(h:∃a,P0 a∧P1 a∧P2 a∧P3 a∧P4 a∧P5 a∧P6 a∧P7 a):G:=h.elim fun a h=>k a h.1 h.2.1 h.2.2.1 h.2.2.2.1 h.2.2.2.2.1 h.2.2.2.2.2.1 h.2.2.2.2.2.2.1 h.2.2.2.2.2.2.2
theorem ZO{α β γ:Sort _}{P0 P1 P2 P3 P4 P5:α->β->γ->Prop}{G:Prop}(k:∀a b c,P0 a b c->P1 a b c->P2 a b c->P3 a b c->P4 a b c->P5 a b c->G)(h:∃a b c,P0 a b c∧P1 a b c∧P2 a b c∧P3 a b c∧P4 a b c∧P5 a b c):G:=h.elim fun a h=>h.elim fun b h=>h.elim fun c h=>k a b c h.1 h.2.1 h.2.2.1 h.2.2.2.1 h.2.2.2.2.1 h.2.2.2.2.2
theorem UN{α β γ δ:Sort _}{P0 P1 P2 P3 P4:α->β->γ->δ->Prop}{G:Prop}(k:∀a b c d,P0 a b c d->P1 a b c d->P2 a b c d->P3 a b c d->P4 a b c d->G)(h:∃a b c d,P0 a b c d∧P1 a b c d∧P2 a b c d∧P3 a b c d∧P4 a b c d):G:=h.elim fun a h=>h.elim fun b h=>h.elim fun c h=>h.elim fun d h=>k a b c d h.1 h.2.1 h.2.2.1 h.2.2.2.1 h.2.2.2.2
theorem x2_8{α β:Sort _}{P0 P1 P2 P3 P4 P5 P6 P7:α->β->Prop}{G:Prop}(k:∀a b,P0 a b->P1 a b->P2 a b->P3 a b->P4 a b->P5 a b->P6 a b->P7 a b->G)(h:∃a b,P0 a b∧P1 a b∧P2 a b∧P3 a b∧P4 a b∧P5 a b∧P6 a b∧P7 a b):G:=h.elim fun a h=>h.elim fun b h=>k a b h.1 h.2.1 h.2.2.1 h.2.2.2.1 h.2.2.2.2.1 h.2.2.2.2.2.1 h.2.2.2.2.2.2.1 h.2.2.2.2.2.2.2
theorem x3_7{α β γ:Sort _}{P0 P1 P2 P3 P4 P5 P6:α->β->γ->Prop}{G:Prop}(k:∀a b c,P0 a b c->P1 a b c->P2 a b c->P3 a b c->P4 a b c->P5 a b c->P6 a b c->G)(h:∃a b c,P0 a b c∧P1 a b c∧P2 a b c∧P3 a b c∧P4 a b c∧P5 a b c∧P6 a b c):G:=h.elim fun a h=>h.elim fun b h=>h.elim fun c h=>k a b c h.1 h.2.1 h.2.2.1 h.2.2.2.1 h.2.2.2.2.1 h.2.2.2.2.2.1 h.2.2.2.2.2.2
theorem x4_6{α β γ δ:Sort _}{P0 P1 P2 P3 P4 P5:α->β->γ->δ->Prop}{G:Prop}(k:∀a b c d,P0 a b c d->P1 a b c d->P2 a b c d->P3 a b c d->P4 a b c d->P5 a b c d->G)(h:∃a b c d,P0 a b c d∧P1 a b c d∧P2 a b c d∧P3 a b c d∧P4 a b c d∧P5 a b c d):G:=h.elim fun a h=>h.elim fun b h=>h.elim fun c h=>h.elim fun d h=>k a b c d h.1 h.2.1 h.2.2.1 h.2.2.2.1 h.2.2.2.2.1 h.2.2.2.2.2
theorem x3_8{α β γ:Sort _}{P0 P1 P2 P3 P4 P5 P6 P7:α->β->γ->Prop}{G:Prop}(k:∀a b c,P0 a b c->P1 a b c->P2 a b c->P3 a b c->P4 a b c->P5 a b c->P6 a b c->P7 a b c->G)(h:∃a b c,P0 a b c∧P1 a b c∧P2 a b c∧P3 a b c∧P4 a b c∧P5 a b c∧P6 a b c∧P7 a b c):G:=h.elim fun a h=>h.elim fun b h=>h.elim fun c h=>k a b c h.1 h.2.1 h.2.2.1 h.2.2.2.1 h.2.2.2.2.1 h.2.2.2.2.2.1 h.2.2.2.2.2.2.1 h.2.2.2.2.2.2.2
theorem x6_6{α β γ δ ε ζ:Sort _}{P0 P1 P2 P3 P4 P5:α->β->γ->δ->ε->ζ->Prop}{G:Prop}(k:∀a b c d e f,P0 a b c d e f->P1 a b c d e f->P2 a b c d e f->P3 a b c d e f->P4 a b c d e f->P5 a b c d e f->G)(h:∃a b c d e f,P0 a b c d e f∧P1 a b c d e f∧P2 a b c d e f∧P3 a b c d e f∧P4 a b c d e f∧P5 a b c d e f):G:=h.elim fun a h=>h.elim fun b h=>h.elim fun c h=>h.elim fun d h=>h.elim fun e h=>h.elim fun f h=>k a b c d e f h.1 h.2.1 h.2.2.1 h.2.2.2.1 h.2.2.2.2.1 h.2.2.2.2.2
theorem x4_9{α β γ δ:Sort _}{P0 P1 P2 P3 P4 P5 P6 P7 P8:α->β->γ->δ->Prop}{G:Prop}(k:∀a b c d,P0 a b c d->P1 a b c d->P2 a b c d->P3 a b c d->P4 a b c d->P5 a b c d->P6 a b c d->P7 a b c d->P8 a b c d->G)(h:∃a b c d,P0 a b c d∧P1 a b c d∧P2 a b c d∧P3 a b c d∧P4 a b c d∧P5 a b c d∧P6 a b c d∧P7 a b c d∧P8 a b c d):G:=h.elim fun a h=>h.elim fun b h=>h.elim fun c h=>h.elim fun d h=>k a b c d h.1 h.2.1 h.2.2.1 h.2.2.2.1 h.2.2.2.2.1 h.2.2.2.2.2.1 h.2.2.2.2.2.2.1 h.2.2.2.2.2.2.2.1 h.2.2.2.2.2.2.2.2
theorem x2_12{α β:Sort _}{P0 P1 P2 P3 P4 P5 P6 P7 P8 P9 P10 P11:α->β->Prop}{G:Prop}(k:∀a b,P0 a b->P1 a b->P2 a b->P3 a b->P4 a b->P5 a b->P6 a b->P7 a b->P8 a b->P9 a b->P10 a b->P11 a b->G)(h:∃a b,P0 a b∧P1 a b∧P2 a b∧P3 a b∧P4 a b∧P5 a b∧P6 a b∧P7 a b∧P8 a b∧P9 a b∧P10 a b∧P11 a b):G:=h.elim fun a h=>h.elim fun b h=>k a b h.1 h.2.1 h.2.2.1 h.2.2.2.1 h.2.2.2.2.1 h.2.2.2.2.2.1 h.2.2.2.2.2.2.1 h.2.2.2.2.2.2.2.1 h.2.2.2.2.2.2.2.2.1 h.2.2.2.2.2.2.2.2.2.1 h.2.2.2.2.2.2.2.2.2.2.1 h.2.2.2.2.2.2.2.2.2.2.2
end
section
open PySem PySem.W PyProof.Rows PySem.Calls
inductive Bn where
 |len|min|sum|sorted|append|pop|sort|dget|dsetd|dhas|shas|join|count
 deriving DecidableEq,Inhabited
def Bn.id:Bn->String
 | .len=> "len" | .min=> "min" | .sum=> "sum" | .sorted=> "sorted" | .append=> "list.append" | .pop=> "list.pop" | .sort=> "list.sort" | .dget=> "dict.get" | .dsetd=> "dict.setdefault"
 | .dhas=> "dict.__contains__" | .shas=> "set.__contains__" | .join=> "str.join" | .count=> "str.count"
inductive AV where
 |none
 |bool (b:Bool)
 |int (i:Int)
 |flt (b:UInt64)
 |str (s:Str)
 |tup (l:List AV)
 |mat (l:List AV)
 |bm (id:Bn) (self:AV)
 |ref (a:Addr)
 |bi (id:Bn)
 |ty (n:String)
 deriving Inhabited
noncomputable def jn:Addr:=163
def Frz(o:Obj):Prop:=((o.cls=.type "tuple" ∨o.cls=.ref jn)∧∃vs n,o.data=.seq vs n)∨(o.cls=.type "builtin_function_or_method" ∧∃vs,o.data=.fields vs)
inductive TC where
 |f (b:UInt64)
 |s (x:Str)
structure Gh where
 h:Heap
 T:Tok->Option TC
mutual
noncomputable def VR(h:Gh):AV->Value->Prop
 | .none,v=>v=.none
 | .bool b,v=>v=.bool b
 | .int i,v=>∃t,v=.int i t
 | .flt b,v=>∃t,v=.float b t∧t≠0∧h.T t=some (.f b)
 | .str s,v=>∃t,v=.str s t∧t≠0∧h.T t=some (.s s)
 | .tup l,v=>∃a vs n,v=.ref a∧h.h.get? a=some {cls:=.type "tuple",data:=.seq vs n}∧VRs h l vs.toList
 | .mat l,v=>∃a o vs n,v=.ref a∧h.h.get? a=some o∧o.cls=.ref jn∧o.data=.seq vs n∧VRs h l vs.toList
 | .bm id self,v=>∃a o cv,v=.ref a∧h.h.get? a=some o∧o.cls=.type "builtin_function_or_method" ∧o.data=.fields #[.builtin id.id,cv]∧VR h self cv
 | .ref a,v=>v=.ref a
 | .bi id,v=>v=.builtin id.id
 | .ty n,v=>v=.type n
noncomputable def VRs(h:Gh):List AV->List Value->Prop
 |[],vs=>vs=[]
 |a::l,vs=>∃v r,vs=v::r∧VR h a v∧VRs h l r
end
def qK(T T':Tok->Option TC):Prop:=∀t c,T t=some c->T' t=some c
theorem qK.refl(T:Tok->Option TC):qK T T:=fun _ _ e=>e
theorem qK.trans{a b c:Tok->Option TC}(x:qK a b)(y:qK b c):qK a c:=fun t k e=>y t k (x t k e)
structure Imm(h h':Gh):Prop where
 frz:∀a o,h.h.get? a=some o->Frz o->h'.h.get? a=some o
 T:qK h.T h'.T
theorem Imm.refl(h:Gh):Imm h h:=⟨fun _ _ x _=>x,.refl _⟩
theorem VR.imm(k:Imm h h'){a:AV}{v:Value}(x:VR h a v):VR h' a v:=
 AV.rec (motive_1:=fun a=>∀v,VR h a v->VR h' a v) (motive_2:=fun l=>∀vs,VRs h l vs->VRs h' l vs) (fun _ x=>x) (fun _ _ x=>x) (fun _ _ x=>x)
  (fun _ _ x=>jX (fun t e h0 h1=>Exists.intro t ⟨e,h0,k.T _ _ h1⟩) x) (fun _ _ x=>jX (fun t e h0 h1=>Exists.intro t ⟨e,h0,k.T _ _ h1⟩) x)
  (fun _ ih _ x=>KU (fun a vs n e g r=>Exists.intro a ⟨vs,n,e,k.frz _ _ g (.inl ⟨.inl rfl,vs,n,rfl⟩),ih _ r⟩) x)
  (fun _ ih _ x=>UN (fun a o vs n e g c d r=>Exists.intro a ⟨o,vs,n,e,k.frz _ _ g (.inl ⟨.inr c,vs,n,d⟩),c,d,ih _ r⟩) x)
  (fun _ _ ih _ x=>ZP (fun a o cv e g c d r=>Exists.intro a ⟨o,cv,e,k.frz _ _ g (.inr ⟨c,_,d⟩),c,d,ih _ r⟩) x)
  (fun _ _ x=>x) (fun _ _ x=>x) (fun _ _ x=>x) (fun _ x=>x)
  (fun _ _ i1 i2 _ x=>qb (fun v r e p q=>Exists.intro v ⟨r,e,i1 _ p,i2 _ q⟩) x) a v x
theorem VRs.imm(k:Imm h h'){l:List AV}:∀{vs:List Value},VRs h l vs->VRs h' l vs:=by
 induction l with
 |nil=>exact fun x=>x
 |cons a l ih=>exact fun x=>qb (fun v r e p q=>Exists.intro v ⟨r,e,p.imm k,ih q⟩) x
inductive AO where
 |list (l:List AV)
 |dS (l:List (Str×AV))
 |dI (l:List (Int×AV))
 |set0
 |inst (C:Addr) (d:Addr)
 |ns (f:Nat->Option AV)
 |cell (v:Option AV)
 |tab (l c:Nat)
noncomputable def FN:List Str:=[Str.ofString "isjunk",Str.ofString "a",Str.ofString "b",Str.ofString "autojunk",Str.ofString "matching_blocks",Str.ofString "opcodes",Str.ofString "fullbcount",Str.ofString "b2j",Str.ofString "bjunk",Str.ofString "bpopular"]
noncomputable def Oq(h:Gh):Option AV->Option Value->Prop
 | .none,r=>r=.none
 |some v,r=>∃cv,r=some cv∧VR h v cv
noncomputable def DR{κ:Type}(h:Gh):List (κ×AV)->List (κ×Value)->Prop
 |[],m=>m=[]
 |p::l,m=>∃cv r,m=(p.1,cv)::r∧VR h p.2 cv∧DR h l r
noncomputable def OR(prog:Program)(w:World)(h:Gh):AO->Addr->Prop
 | .list l,a=>∃vs n,h.h.get? a=some {cls:=.type "list",data:=.seq vs n}∧VRs h l vs.toList
 | .dS l,a=>∃m,h.h.DictOf (strKind prog w) a m∧DR h l m
 | .dI l,a=>∃m,h.h.DictOf (intKind prog w) a m∧DR h l m
 | .set0,a=>h.h.SetOf (strKind prog w) a (fun _=>false) 0
 | .inst C d,a=>∃o,h.h.get? a=some o∧o.cls=.ref C∧o.dict=some d∧o.data=.plain∧o.slots= #[]
 | .ns f,a=>∃m,h.h.DictOf (strKind prog w) a m∧(∀k∈m.map (·.1),k∈FN)∧∀i x,FN[i]? =some x->Oq h (f i) (valueAt m x)
 | .cell v,a=>∃o r,h.h.get? a=some o∧o.data=.cell r∧Oq h v r
 | .tab l c,a=>∃ps,h.h.get? a=some {cls:=.none,data:=.fields ps}∧(ps= #[]∨∃c',ps= #[rawInt l,rawInt c,.ref c'])
noncomputable abbrev Sig:=Addr->Option AO
noncomputable abbrev Loc:=Nat->Option AV
noncomputable def upd{α:Type}(f:Nat->Option α)(i:Nat)(v:α):Nat->Option α:=fun j=>if j=i then some v else f j
theorem jc{α:Type}{f:Nat->Option α}{i:Nat}{v:α}:upd f i v i=some v:=if_pos rfl
theorem ji{α:Type}{f:Nat->Option α}{i j:Nat}{v:α}(h:j≠i):upd f i v j=f j:=if_neg h
def dom(Z:Sig)(a:Addr):Prop:=Z a≠none
noncomputable def SMA:Addr:=270
structure ClsOk(K:Frag)(C:Addr):Prop where
 pg:∀n,plainGet K C n=true
 hd:hasDictIn K C=true
 po:plainOver K C=true
 sa:findIn K (.ref C) (Str.ofString "__setattr__")=some (some (.builtin "object.__setattr__"))
 fn:∀x∈FN,findIn K (.ref C) x=some none
noncomputable def FNS:List Addr:=[163,173,270,280,286,293,300,307,314,321,326,333,338,345,188,195,202,209,216,224,231,253,260,267,110,117]
noncomputable def MTS:List (Str×Addr):=[(Str.ofString "__init__",188),(Str.ofString "set_seqs",195),(Str.ofString "set_seq1",202),(Str.ofString "set_seq2",209),(Str.ofString "_SequenceMatcher__chain_b",216),(Str.ofString "find_longest_match",224),(Str.ofString "get_matching_blocks",231),(Str.ofString "ratio",253),(Str.ofString "quick_ratio",260),(Str.ofString "real_quick_ratio",267)]
structure Cx where
 prog:Program
 w:World
 K:Frag
 nol:∀h,K.In h->h.NoLimit
 shr:nsIn K cStatics sharingNotToldKey=some none
 mods:K.lookup sysModules≠none
 sm:ClsOk K SMA
 fns:∀a∈FNS,keepIn K (.ref a)=true
 mts:∀p∈MTS,findIn K (.ref SMA) p.1=some (some (.ref p.2))∧isFn K (.ref p.2)=true
 tk0:Tok->Option TC
 ro:Addr->Option (List AV)
 roK:∀a l,ro a=some l->∃vs n,K.lookup a=some {cls:=.type "list",data:=.seq vs n}∧∀g,VRs g l vs.toList
structure qa(C:Cx)(Z:Sig)(h:Gh):Prop where
 top:C.K.In h.h
 obj:∀a o,Z a=some o->OR C.prog C.w h o a
 off:∀a,dom Z a->C.K.lookup a=none
 tk:qK C.tk0 h.T
def Kp(W:Addr->Prop)(h h':Heap):Prop:=∀b o,¬W b->h.get? b=some o->h'.get? b=some o
def Ext(h h':Heap):Prop:=∀b o,h.get? b=some o->h'.get? b=some o
theorem Ext.refl(h:Heap):Ext h h:=fun _ _ e=>e
theorem Ext.trans(x:Ext a b)(y:Ext b c):Ext a c:=fun q o e=>y q o (x q o e)
theorem Ext.imm(x:Ext h.h h'.h)(t:qK h.T h'.T):Imm h h':=⟨fun _ _ e _=>x _ _ e,t⟩
theorem Ext.push(h:Heap)(o:Obj):Ext h (h.push o):=fun _ _ e=>Heap.get?_push_of_some o e
theorem Kp.of_ext{W:Addr->Prop}(x:Ext h h'):Kp W h h':=fun b o _ e=>x b o e
theorem jY(hc:o.cls=.type n)(h1:n≠ "tuple")(h2:n≠ "builtin_function_or_method"):¬Frz o:=by
 rintro (⟨h|h,_⟩|⟨h,_⟩)
 ·rw[hc]at h;injection h with h;exact h1 h
 ·cases hc.symm.trans h
 ·rw[hc]at h;injection h with h;exact h2 h
theorem qx(hd:o.data=.dict es n):¬Frz o:=by
 rintro (⟨_,vs,m,h⟩|⟨_,vs,h⟩)<;>(cases hd.symm.trans h)
theorem OR.live(x:OR prog w h o a):∃ob,h.h.get? a=some ob∧¬Frz ob:=by
 cases o with
 |list l=>refine ky (fun vs n e _=> ?_) x;exact ⟨_,e,jY rfl (by decide) (by decide)⟩
 |dS l=>refine jp ?_ x;rintro g hX;refine KT (fun o es ep ho _ hd _=> ?_) hX;rintro _;exact ⟨_,ho,qx hd⟩
 |dI l=>refine jp ?_ x;rintro g hX;refine KT (fun o es ep ho _ hd _=> ?_) hX;rintro _;exact ⟨_,ho,qx hd⟩
 |set0=>refine x4_3 (fun o es ep t e hx _=> ?_) x;exact ⟨_,e,jY hx.1 (by decide) (by decide)⟩
 |inst C d=>
  refine YT (fun o ho hc _ hd _=> ?_) x
  refine ⟨_,ho,?_⟩
  rintro (⟨_,vs,m,h⟩|⟨_,vs,h⟩)<;>(cases hd.symm.trans h)
 |ns f=>refine jp ?_ x;rintro m hX;refine KT (fun o es ep ho _ hd _=> ?_) hX;rintro _;exact ⟨_,ho,qx hd⟩
 |cell v=>
  refine qb (fun o r ho hd _=> ?_) x
  refine ⟨_,ho,?_⟩
  rintro (⟨_,vs,m,h⟩|⟨_,vs,h⟩)<;>(cases hd.symm.trans h)
 |tab l c=>
  refine jp (fun ps ho _=> ?_) x
  refine ⟨_,ho,?_⟩
  rintro (⟨h|h,_⟩|⟨h,_⟩)<;>contradiction
theorem Oq.imm(k:Imm h h')(x:Oq h v r):Oq h' v r:=by
 cases v with
 |none=>exact x
 |some v=>refine jp (fun cv e y=> ?_) x;exact ⟨cv,e,y.imm k⟩
theorem DR.ind{κ:Type}{P:List (κ×AV)->List (κ×Value)->Prop}(n:P [] [])(c:∀p cv l r,VR h p.2 cv->DR h l r->P l r->P (p::l) ((p.1,cv)::r)){l:List (κ×AV)}:∀{m:List (κ×Value)},DR h l m->P l m:=by
 induction l with
 |nil=>intro m x;subst x;exact n
 |cons p l ih=>intro m x;refine qb (fun cv r e v q=> ?_) x;subst e;exact c p cv l r v q (ih q)
theorem DR.imm{κ:Type}(k:Imm h h'){l:List (κ×AV)}{m:List (κ×Value)}(x:DR h l m):DR h' l m:=
 x.ind (P:=fun l m=>DR h' l m) rfl fun p cv l r v _ q=>⟨cv,r,rfl,v.imm k,q⟩
theorem OR.imm(k:Imm h h')(hk:∀ob,h.h.get? a=some ob->h'.h.get? a=some ob)(x:OR prog w h o a):OR prog w h' o a:=by
 cases o with
 |list l=>refine ky (fun vs n e r=> ?_) x;exact ⟨vs,n,hk _ e,VRs.imm k r⟩
 |dS l=>refine jp ?_ x;rintro g hX;refine yU (fun o es ep ho r=> ?_) hX;rintro y;exact ⟨g,⟨o,es,ep,hk _ ho,r⟩,y.imm k⟩
 |dI l=>refine jp ?_ x;rintro g hX;refine yU (fun o es ep ho r=> ?_) hX;rintro y;exact ⟨g,⟨o,es,ep,hk _ ho,r⟩,y.imm k⟩
 |set0=>refine ZN (fun o es ep t e r=> ?_) x;exact ⟨o,es,ep,t,hk _ e,r⟩
 |inst C d=>refine jp (fun o ho r=> ?_) x;exact ⟨o,hk _ ho,r⟩
 |ns f=>refine jX ?_ x;rintro m hX;refine yU (fun o es ep ho r=> ?_) hX;rintro y z;exact ⟨m,⟨o,es,ep,hk _ ho,r⟩,y,fun i q e=>(z i q e).imm k⟩
 |cell v=>refine qb (fun o r ho hd y=> ?_) x;exact ⟨o,r,hk _ ho,hd,y.imm k⟩
 |tab l c=>refine jp (fun ps ho y=> ?_) x;exact ⟨ps,hk _ ho,y⟩
def no1{α:Type}:α->Prop:=fun _=>False
theorem z1{α:Type}{G:α->Prop}(a:α)(h:no1 a):G a:=h.elim
theorem z2{α β:Type}{G:α->β->Prop}(a:α)(u:β)(h:no1 a):G a u:=h.elim
theorem z4{α β:Type}{A B G:α->β->Prop}(a:α)(u:β)(_:A a u)(_:B a u)(h:no1 a):G a u:=h.elim
theorem zt{α:Type}{A G:α->Prop}(a:α)(_:A a)(h:no1 a):G a:=h.elim
def on(x:AV)(n:Prop:=False)(b:Bool->Prop:=no1)(i:Int->Prop:=no1)(f:UInt64->Prop:=no1)(s:Str->Prop:=no1)(r:Addr->Prop:=no1)(t:List AV->Prop:=no1)(m:List AV->Prop:=no1):Prop:=match x with
 | .none=>n
 | .bool a=>b a
 | .int a=>i a
 | .flt a=>f a
 | .str a=>s a
 | .ref a=>r a
 | .tup a=>t a
 | .mat a=>m a
 |_=>False
@[elab_as_elim] theorem jx{P:Value->Prop}{n:Prop}{b:Bool->Prop}{i:Int->Prop}{f:UInt64->Prop}{s:Str->Prop}{r:Addr->Prop}{t m:List AV->Prop}(h:on x n b i f s r t m)(hx:VR g x v)(kn:n->P .none)(kb:∀a,b a->P (.bool a))(ki:∀a u,i a->P (.int a u))(kf:∀a u,u≠0->g.T u=some (.f a)->f a->P (.float a u))(ks:∀a u,u≠0->g.T u=some (.s a)->s a->P (.str a u))(kr:∀a,r a->P (.ref a))(kt:∀l,VR g (.tup l) v->t l->P v)(km:∀l,VR g (.mat l) v->m l->P v):P v:=by
 cases x with
 |none=>subst hx;exact kn h
 |bool a=>subst hx;exact kb a h
 |int a=>obtain ⟨u,rfl⟩:=hx;exact ki a u h
 |flt a=>refine jX ?_ hx;rintro u rfl h1 h2;exact kf a u h1 h2 h
 |str a=>refine jX ?_ hx;rintro u rfl h1 h2;exact ks a u h1 h2 h
 |ref a=>subst hx;exact kr a h
 |tup l=>exact kt l hx h
 |mat l=>exact km l hx h
 |_=>exact False.elim h
def on1(xs:List AV)(R:AV->Prop):Prop:=match xs with
 |[x]=>R x
 |_=>False
def on2(xs:List AV)(R:AV->AV->Prop):Prop:=match xs with
 |[x,y]=>R x y
 |_=>False
def on3(xs:List AV)(R:AV->AV->AV->Prop):Prop:=match xs with
 |[x,y,z]=>R x y z
 |_=>False
@[elab_as_elim] theorem V1{P:List Value->Prop}{R:AV->Prop}(h:on1 xs R)(hv:VRs g xs vs)(k:∀x a,VR g x a->R x->P [a]):P vs:=by
 rcases xs with _|⟨x,_|⟨y,xs⟩⟩
 ·exact False.elim h
 ·refine qb ?_ hv;rintro a r rfl p rfl;exact k x a p h
 ·exact False.elim h
@[elab_as_elim] theorem ww{P:List Value->Prop}{R:AV->AV->Prop}(h:on2 xs R)(hv:VRs g xs vs)(k:∀x y a b,VR g x a->VR g y b->R x y->P [a,b]):P vs:=by
 rcases xs with _|⟨x,_|⟨y,_|⟨u,xs⟩⟩⟩
 ·exact False.elim h
 ·exact False.elim h
 ·obtain ⟨a,r,rfl,p,b,r',rfl,q,rfl⟩:=hv;exact k x y a b p q h
 ·exact False.elim h
@[elab_as_elim] theorem V0{P:List Value->Prop}{R:AV->AV->AV->Prop}(h:on3 xs R)(hv:VRs g xs vs)(k:∀x y u a b c,VR g x a->VR g y b->VR g u c->R x y u->P [a,b,c]):P vs:=by
 rcases xs with _|⟨x,_|⟨y,_|⟨u,_|⟨w,xs⟩⟩⟩⟩
 ·exact False.elim h
 ·exact False.elim h
 ·exact False.elim h
 ·obtain ⟨a,r,rfl,p,b,r',rfl,q,c,r'',rfl,o,rfl⟩:=hv;exact k x y u a b c p q o h
 ·exact False.elim h
def YP(h:Gh)(env:Env)(m:Str->Option Value)(x:Str)(v:AV):Prop:=
 (env.kindOf x=some .local∧∃cv,m x=some cv∧VR h v cv)∨((env.kindOf x=some .cell∨env.kindOf x=some .free)∧∃c,env.cells.lookup x=some c∧v=.ref c)
structure Rel(C:Cx)(env:Env)(N:List Str)(loc:Loc)(Z:Sig)(h:Gh):Prop where
 hr:qa C Z h
 ns:∃m,h.h.Ns env.locals m∧∀i x v,N[i]? =some x->loc i=some v->YP h env m x v
 offS:Z env.locals=none
 offK:C.K.lookup env.locals=none
structure St where
 s:Shared
 T:Tok->Option TC
noncomputable abbrev St.g(z:St):Gh:=⟨z.s.heap,z.T⟩
structure TOk(z:St):Prop where
 pos:0<z.s.toks
 new:∀t,z.s.toks≤t->z.T t=none
noncomputable def Y0(T:Tok->Option TC)(t:Tok)(c:TC):Tok->Option TC:=fun u=>if u=t then some c else T u
theorem kR{T:Tok->Option TC}:Y0 T t c t=some c:=if_pos rfl
theorem jau{T:Tok->Option TC}(h:T t=none):qK T (Y0 T t c):=fun u k e=>by
 have:u≠t:=by rintro rfl;exact kH h e
 rw[Y0,if_neg this];exact e
structure jJ(W:Addr->Prop)(Z:Sig)(z:St)(Z':Sig)(z':St):Prop where
 kp:Kp W z.s.heap z'.s.heap
 live:∀b o,z.s.heap.get? b=some o->z'.s.heap.get? b≠none
 new:∀a,dom Z' a->Z a=none->z.s.heap.get? a=none
 os:z'.s.os=z.s.os
 toks:z.s.toks≤z'.s.toks
 gens:AllBare z.s.gens->AllBare z'.s.gens
 T:qK z.T z'.T
theorem jJ.refl{W:Addr->Prop}:jJ W Z z Z z:=⟨fun _ _ _ e=>e,fun _ _ e=>by rw[e];simp,fun a d n=>absurd n d,rfl,Nat.le_refl _,id,.refl _⟩
theorem jJ.ext{W:Addr->Prop}(x:Ext z.s.heap z'.s.heap)(os:z'.s.os=z.s.os)(tk:z.s.toks≤z'.s.toks)(g:AllBare z.s.gens->AllBare z'.s.gens)(t:qK z.T z'.T):jJ W Z z Z z':=
 ⟨Kp.of_ext x,fun b o e=>by rw[x b o e];simp,fun a d n=>absurd n d,os,tk,g,t⟩
theorem jJ.trans{P:Addr->Prop}(x:jJ (fun b=>P b∨dom Z b) Z z Zw1 zw1)(y:jJ (fun b=>P b∨dom Zw1 b) Zw1 zw1 Zw2 zw2):jJ (fun b=>P b∨dom Z b) Z z Zw2 zw2:=by
 refine ⟨fun b o hb ho=>y.kp b o (fun hf=> ?_) (x.kp b o hb ho),fun b o e=> ?_,fun a d n=> ?_,y.os.trans x.os,Nat.le_trans x.toks y.toks,fun g=>y.gens (x.gens g),x.T.trans y.T⟩
 ·refine Or.elim hf (fun h=> ?_) fun h=> ?_
  ·exact hb (.inl h)
  ·by_cases h0:Z b=none
   ·rw[x.new b h h0]at ho;contradiction
   ·exact hb (.inr h0)
 ·cases h:zw1.s.heap.get? b with
  |none=>exact absurd h (x.live b o e)
  |some o'=>exact y.live b o' h
 ·by_cases h1:Zw1 a=none
  ·have:=y.new a d h1
   cases e:z.s.heap.get? a with
   |none=>rfl
   |some o=>exact absurd this (x.live a o e)
  ·exact x.new a h1 n
theorem jJ.forget{W:Addr->Prop}(x:jJ W Z z Z' z')(h:∀a,dom τ a->dom Z' a):jJ W Z z τ z':=
 ⟨x.kp,x.live,fun a d n=>x.new a (h a d) n,x.os,x.toks,x.gens,x.T⟩
theorem jJ.widen{W W':Addr->Prop}(x:jJ W Z z Z' z')(h:∀b,W b->W' b):jJ W' Z z Z' z':=
 ⟨fun b o hb=>x.kp b o fun hw=>hb (h b hw),x.live,x.new,x.os,x.toks,x.gens,x.T⟩
theorem qa.notFrz(R:qa C Z h)(hb:dom Z b)(ho:h.h.get? b=some o):¬Frz o:=by
 refine kg (fun ao e=> ?_) (Option.ne_none_iff_exists'.mp hb)
 refine jp (fun ob h1 h2=> ?_) ((R.obj b ao e).live)
 cases ho.symm.trans h1;exact h2
theorem qa.imm(R:qa C Z h)(k:Kp (dom Z) h.h h'.h)(t:qK h.T h'.T):Imm h h':=⟨fun a o e f=>k a o (fun hd=>R.notFrz hd e f) e,t⟩
theorem Rel.imm(R:Rel C env N loc Z h)(k:Kp (fun b=>b=env.locals∨dom Z b) h.h h'.h)(t:qK h.T h'.T):Imm h h':=⟨fun a o e f=>k a o (fun hd=>by
 rcases hd with rfl|hd
 ·obtain ⟨m,⟨o',es,ep,ho,hdt,_⟩,_⟩:=R.ns
  cases e.symm.trans ho;exact qx hdt f
 ·exact R.hr.notFrz hd e f) e,t⟩
theorem qa.ext(R:qa C Z h)(x:Ext h.h h'.h)(t:qK h.T h'.T):qa C Z h':=
 ⟨fun a o e=>x _ _ (R.top a o e),fun a o e=>(R.obj a o e).imm (Ext.imm x t) fun ob=>x _ ob,R.off,R.tk.trans t⟩
theorem YP.imm(k:Imm h h'){m:Str->Option Value}(y:YP h env m x v):YP h' env m x v:=by
 rcases y with ⟨a,cv,b,c⟩|y
 ·exact .inl ⟨a,cv,b,c.imm k⟩
 ·exact .inr y
theorem Rel.ext(R:Rel C env N loc Z h)(x:Ext h.h h'.h)(t:qK h.T h'.T):Rel C env N loc Z h':=by
 refine jp (fun m hn hm=> ?_) R.ns
 exact ⟨R.hr.ext x t,⟨m,hn.keeps x,fun i y v e l=>(hm i y v e l).imm (Ext.imm x t)⟩,R.offS,R.offK⟩
def j3(τ Z:Sig):Prop:=∀a o,τ a=some o->Z a=some o
def KM(l' l:Loc):Prop:=∀i v,l' i=some v->l i=some v
theorem j3.refl(Z:Sig):j3 Z Z:=fun _ _ e=>e
theorem KM.refl(l:Loc):KM l l:=fun _ _ e=>e
theorem j3.dom(x:j3 τ Z)(a:Addr)(h:Mine.Internal.dom τ a):Mine.Internal.dom Z a:=by
 refine kg (fun o e=> ?_) (Option.ne_none_iff_exists'.mp h)
 show Z a≠none
 rw[x a o e];simp
theorem qa.forget(R:qa C Z h)(t:j3 τ Z):qa C τ h:=⟨R.top,fun a o e=>R.obj a o (t a o e),fun a d=>R.off a (t.dom a d),R.tk⟩
theorem Rel.forget(R:Rel C env N loc Z h)(t:j3 τ Z)(u:KM l' loc):Rel C env N l' τ h:=by
 refine jp (fun m hn hm=> ?_) R.ns
 refine ⟨R.hr.forget t,⟨m,hn,fun i x v e l=>hm i x v e (u i v l)⟩,?_,R.offK⟩
 cases e:τ env.locals with
 |none=>rfl
 |some o=>exact absurd R.offS (by rw[t _ _ e];simp)
theorem jB(h:Heap):h.get? h.objs.size=none:=by
 cases e:h.get? h.objs.size with
 |none=>rfl
 |some o=>exact absurd (Heap.lt_size e) (Nat.lt_irrefl _)
theorem qa.fresh(R:qa C Z h)(ha:h.h.get? a=none):Z a=none∧C.K.lookup a=none:=by
 constructor
 ·cases e:Z a with
  |none=>rfl
  |some o=>refine jp (fun ob e' _=> ?_) ((R.obj a o e).live);exact kH ha e'
 ·cases e:C.K.lookup a with
  |none=>rfl
  |some o=>have:=R.top a o e;exact kH ha this
theorem qa.lay(R:qa C Z h)(x:Ext h.h h'.h)(t:qK h.T h'.T)(ha:h.h.get? a=none)(ho:OR C.prog C.w h' o a):qa C (upd Z a o) h':=by
 have R':=R.ext x t
 refine ⟨R'.top,fun b o' e=> ?_,fun b d=> ?_,R'.tk⟩
 ·by_cases hb:b=a
  ·subst hb;cases jc.symm.trans e;exact ho
  ·rw[ji hb]at e;exact R'.obj b o' e
 ·by_cases hb:b=a
  ·subst hb;exact (R.fresh ha).2
  ·exact R.off b (by delta dom at d⊢;rwa [ji hb]at d)
theorem Rel.lay(R:Rel C env N loc Z h)(x:Ext h.h h'.h)(t:qK h.T h'.T)(ha:h.h.get? a=none)(ho:OR C.prog C.w h' o a):Rel C env N loc (upd Z a o) h':=by
 refine jp (fun m hn hm=> ?_) ((R.ext x t).ns)
 refine ⟨R.hr.lay x t ha ho,⟨m,hn,hm⟩,?_,R.offK⟩
 have:env.locals≠a:=by
  rintro rfl
  refine jp ?_ R.ns;rintro m hX;refine yU (fun o _ _ ho _=> ?_) hX;rintro _
  exact kH ha ho
 rw[ji this];exact R.offS
theorem jJ.lay{W:Addr->Prop}(x:jJ W Z z Z' z')(ha:z.s.heap.get? a=none):jJ W Z z (upd Z' a o) z':=
 ⟨x.kp,x.live,fun b d n=>by
  by_cases hb:b=a
  ·subst hb;exact ha
  ·exact x.new b (by delta dom at d⊢;rwa [ji hb]at d) n,x.os,x.toks,x.gens,x.T⟩
theorem Rel.put(R:Rel C env N loc Z h)(ha:dom Z a)(x:Heap.SameBut a h.h h'.h)(t:qK h.T h'.T)(ho:Imm h h'->OR C.prog C.w h' o a):Rel C env N loc (upd Z a o) h':=by
 refine jp (fun m hn hm=> ?_) R.ns
 have hL:env.locals≠a:=by rintro rfl;exact ha R.offS
 have im:Imm h h':=R.imm (fun b o hb e=>(x.2 b fun q=>hb (.inr (q▸ha))).trans e) t
 refine ⟨⟨fun b o' e=> ?_,fun b o' e=> ?_,fun b d=> ?_,R.hr.tk.trans t⟩,⟨m,hn.sameBut x hL,fun i y v e l=>(hm i y v e l).imm im⟩,by rw[ji hL];exact R.offS,R.offK⟩
 ·refine (x.2 b ?_).trans (R.hr.top b o' e)
  rintro rfl;rw[R.hr.off b ha]at e;contradiction
 ·by_cases hb:b=a
  ·subst hb;cases jc.symm.trans e;exact ho im
  ·rw[ji hb]at e
   exact (R.hr.obj b o' e).imm im fun ob q=>(x.2 b hb).trans q
 ·by_cases hb:b=a
  ·subst hb;exact R.hr.off b ha
  ·exact R.hr.off b (by delta dom at d⊢;rwa [ji hb]at d)
theorem jJ.put{P:Addr->Prop}(ha:dom Z a)(x:Heap.SameBut a z.s.heap z'.s.heap)(hl:z'.s.heap.get? a≠none)(ht:z.s.toks≤z'.s.toks)(hos:z'.s.os=z.s.os)(hg:AllBare z.s.gens->AllBare z'.s.gens)(tt:qK z.T z'.T):jJ (fun b=>P b∨dom Z b) Z z (upd Z a o) z':=
 ⟨fun b ob hb e=>(x.2 b fun q=>hb (.inr (q▸ha))).trans e,fun b ob e=>by
  by_cases hb:b=a
  ·subst hb;exact hl
  ·simp only[x.2 b hb,e];simp,
  fun b d n=>by
  by_cases hb:b=a
  ·subst hb;exact absurd n ha
  ·exact absurd n (by delta dom at d;rwa [ji hb]at d),hos,ht,hg,tt⟩
section
structure Fm where
 C:Cx
 A:Around
 env:Env
 N:List Str
 lv:Nat
 hh:A.handled=none
 hd:A.depth+lv≤500
 hu:A.units+10*lv≤1000
noncomputable abbrev Fm.M(F:Fm):Model:=model F.C.prog F.C.w
noncomputable abbrev Fm.W(F:Fm)(Z:Sig):Addr->Prop:=fun b=>b=F.env.locals∨dom Z b
noncomputable abbrev Fm.Rel(F:Fm)(loc:Loc)(Z:Sig)(h:Gh):Prop:=Mine.Internal.Rel F.C F.env F.N loc Z h
def EvG{α β:Type}(V:Gh->β->α->Prop)(F:Fm)(t:Sem α)(loc:Loc)(Z:Sig)(z:St)(Ψ:β->Sig->Prop):Prop:=
 ∀(Q:α->Shared->Prop) (E:Value->Shared->Prop),(∀av Z' cv z',Ψ av Z'->F.Rel loc Z' z'.g->jJ (F.W Z) Z z Z' z'->TOk z'->V z'.g av cv->Q cv z'.s)->wpAny F.M F.A t Q E z.s
noncomputable abbrev kK:=EvG VR
noncomputable abbrev EvL:=EvG VRs
noncomputable abbrev BoolV:Gh->Bool->Bool->Prop:=fun _ a b=>b=a
noncomputable abbrev TrAt:=EvG BoolV
section
variable {α β γ δ:Type} {V:Gh->β->α->Prop} {U:Gh->δ->γ->Prop} {F:Fm} {loc:Loc} {Z:Sig} {z:St}
theorem jJ.imm(R:F.Rel loc Z z.g)(x:jJ (F.W Z) Z z Z' z'):Imm z.g z'.g:=R.imm x.kp x.T
theorem EvG.bind{f:α->Sem γ}{Φ:β->Sig->Prop}{Ψ:δ->Sig->Prop}(h:EvG V F m loc Z z Φ)
  (k:∀b Zw1 a zw1,Φ b Zw1->F.Rel loc Zw1 zw1.g->jJ (F.W Z) Z z Zw1 zw1->TOk zw1->V zw1.g b a->EvG U F (f a) loc Zw1 zw1 Ψ):EvG U F (m>>=f) loc Z z Ψ:=fun Q E q=>
 wpAny_bind (h _ E fun b Zw1 a zw1 p R x tk v=>k b Zw1 a zw1 p R x tk v Q E fun d Zw2 c zw2 p' R' x' tk' v'=>q d Zw2 c zw2 p' R' (x.trans x') tk' v')
theorem EvG.pure{Ψ:β->Sig->Prop}(R:F.Rel loc Z z.g)(tk:TOk z)(v:V z.g b a)(h:Ψ b Z):EvG V F (pure a) loc Z z Ψ:=fun Q E q=>
 wpAny_pure (q b Z a z h R .refl tk v)
theorem EvG.standAt{Ψ:β->Sig->Prop}(h:EvG V F m loc Z z Ψ):EvG V F (standAt pos>>=fun _=>m) loc Z z Ψ:=fun Q E q=>
 wpAny_bind (wpAny_standAt (h Q E q))
theorem EvG.holding{Ψ:β->Sig->Prop}(h:EvG V F m loc Z z Ψ):EvG V F (holding vs m) loc Z z Ψ:=fun Q E q=>
 wpAny_holding (h Q E q)
theorem EvG.of_eq(e:m=m'){Ψ:β->Sig->Prop}(h:EvG V F m' loc Z z Ψ):EvG V F m loc Z z Ψ:=e▸h
theorem TOk.le(tk:TOk z)(h:z.s.toks≤z'.s.toks)(e:z'.T=z.T):TOk z':=⟨Nat.lt_of_lt_of_le tk.pos h,fun t ht=>by rw[e];exact tk.new t (Nat.le_trans h ht)⟩
structure wK(z:St)(n:Nat)(T':Tok->Option TC):Prop where
 le:z.s.toks≤n
 ext:qK z.T T'
 new:∀t,n≤t->T' t=none
theorem wK.tok{T':Tok->Option TC}(x:wK z n T')(tk:TOk z)(h:z'.s.toks=n)(e:z'.T=T'):TOk z':=⟨by rw[h];exact Nat.lt_of_lt_of_le tk.pos x.le,fun t ht=>by rw[e];exact x.new t (h▸ht)⟩
theorem wK.same(tk:TOk z)(h:z.s.toks≤n):wK z n z.T:=⟨h,.refl _,fun t ht=>tk.new t (Nat.le_trans h ht)⟩
theorem wK.put(tk:TOk z)(h:z.s.toks≤t)(h2:t<n)(c:TC):wK z n (Y0 z.T t c):=⟨Nat.le_of_lt (Nat.lt_of_le_of_lt h h2),jau (tk.new t h),fun u hu=>by
 rw[Y0,if_neg (fun e=>by subst e;exact absurd hu (Nat.not_le.mpr h2))];exact tk.new u (Nat.le_trans h (Nat.le_trans (Nat.le_of_lt h2) hu))⟩
theorem jF{Ψ:β->Sig->Prop}(R:F.Rel loc Z z.g)(tk:TOk z)(hp:Ψ b Z)
  (h:∀(Q:α->Shared->Prop) (E:Value->Shared->Prop),(∀a n T',wK z n T'->V ⟨z.s.heap,T'⟩ b a->Q a {z.s with toks:=n})->wpAny F.M F.A t Q E z.s):EvG V F t loc Z z Ψ:=fun Q E q=>
 h Q E fun a n T' hn v=>q b Z a ⟨{z.s with toks:=n},T'⟩ hp (R.ext (Ext.refl _) hn.ext) (.ext (Ext.refl _) rfl hn.le id hn.ext) (hn.tok tk rfl rfl) v
theorem v9{Ψ:β->Sig->Prop}(R:F.Rel loc Z z.g)(tk:TOk z)(hp:Ψ b Z)
  (h:∀(Q:α->Shared->Prop) (E:Value->Shared->Prop),(∀a h' n T',wK z n T'->Ext z.s.heap h'->V ⟨h',T'⟩ b a->Q a {z.s with heap:=h',toks:=n})->wpAny F.M F.A t Q E z.s):EvG V F t loc Z z Ψ:=fun Q E q=>
 h Q E fun a h' n T' hn x v=>q b Z a ⟨{z.s with heap:=h',toks:=n},T'⟩ hp (R.ext x hn.ext) (.ext x rfl hn.le id hn.ext) (hn.tok tk rfl rfl) v
theorem Kv{Ψ:AV->Sig->Prop}(R:F.Rel loc Z z.g)(tk:TOk z)(hp:∀a,Z a=none->Ψ (.ref a) (upd Z a o))
  (h:∀(Q:Value->Shared->Prop) (E:Value->Shared->Prop),(∀a h' n T',wK z n T'->Ext z.s.heap h'->z.s.heap.get? a=none->OR F.C.prog F.C.w ⟨h',T'⟩ o a->Q (.ref a) {z.s with heap:=h',toks:=n})->wpAny F.M F.A t Q E z.s):kK F t loc Z z Ψ:=fun Q E q=>
 h Q E fun a h' n T' hn x ha ho=>q (.ref a) (upd Z a o) (.ref a) ⟨{z.s with heap:=h',toks:=n},T'⟩ (hp a (R.hr.fresh ha).1) (R.lay x hn.ext ha ho)
  (jJ.lay (Z':=Z) (z':=⟨{z.s with heap:=h',toks:=n},T'⟩) (jJ.ext x rfl hn.le id hn.ext) ha) (hn.tok tk rfl rfl) (by rfl)
theorem v8{Ψ:β->Sig->Prop}(R:F.Rel loc Z z.g)(tk:TOk z)(ha:dom Z a)(hp:Ψ b (upd Z a o))
  (h:∀(Q:α->Shared->Prop) (E:Value->Shared->Prop),(∀v h' n T',wK z n T'->Heap.SameBut a z.s.heap h'->(Imm z.g ⟨h',T'⟩->OR F.C.prog F.C.w ⟨h',T'⟩ o a∧V ⟨h',T'⟩ b v)->Q v {z.s with heap:=h',toks:=n})->wpAny F.M F.A t Q E z.s):EvG V F t loc Z z Ψ:=fun Q E q=>
 h Q E fun v h' n T' hn x ho=>by
  have im:Imm z.g ⟨h',T'⟩:=R.imm (fun c oc hb e=>(x.2 c fun q=>hb (.inr (q▸ha))).trans e) hn.ext
  refine jp (fun ob e _=> ?_) ((ho im).1.live)
  exact q b (upd Z a o) v ⟨{z.s with heap:=h',toks:=n},T'⟩ hp (R.put ha x hn.ext fun im=>(ho im).1) (.put ha x (by rw[e];simp) hn.le rfl id hn.ext) (hn.tok tk rfl rfl) (ho im).2
end
end
section
noncomputable abbrev K1:=AV->Sig->Prop
def wAdd(x y:AV)(Z:Sig)(Ψ:K1):Prop:=on x (i:=fun a=>on y (i:=fun b=>Ψ (.int (a+b)) Z)) (r:=fun a=>on y (r:=fun b=>∃l l',Z a=some (.list l)∧Z b=some (.list l')∧l.length+l'.length≤1000∧∀c,Z c=none->Ψ (.ref c) (upd Z c (.list (l++l')))))
def wSub(x y:AV)(Z:Sig)(Ψ:K1):Prop:=on x (i:=fun a=>on y (i:=fun b=>Ψ (.int (a-b)) Z)) (f:=fun a=>on y (f:=fun b=>Ψ (.flt (Float64.sub a b)) Z))
def wMul(x y:AV)(Z:Sig)(Ψ:K1):Prop:=on x (i:=fun a=>on y (i:=fun b=>a.natAbs<2^64∧Ψ (.int (a*b)) Z)) (f:=fun a=>on y (i:=fun b=>b.natAbs<2^64∧Ψ (.flt (Float64.mul a (Float64.ofInt b))) Z))
def wFdiv(x y:AV)(Z:Sig)(Ψ:K1):Prop:=on x (i:=fun a=>on y (i:=fun b=>b≠0∧b.natAbs<1073741824∧Ψ (.int (a.fdiv b)) Z))
def wMod(x y:AV)(Z:Sig)(Ψ:K1):Prop:=on x (i:=fun a=>on y (i:=fun b=>b≠0∧Ψ (.int (a.fmod b)) Z))
def wPow(x y:AV)(Z:Sig)(Ψ:K1):Prop:=on x (i:=fun a=>on y (i:=fun b=>0≤b∧b≤1000000∧a.natAbs<2^64∧Ψ (.int (a^b.toNat)) Z))
def wShr(x y:AV)(Z:Sig)(Ψ:K1):Prop:=on x (i:=fun a=>on y (i:=fun b=>0≤b∧Ψ (.int (a.fdiv (2^b.toNat))) Z))
def wDiv(x y:AV)(Z:Sig)(Ψ:K1):Prop:=on x (i:=fun a=>on y (i:=fun b=>b≠0∧Float64.isInf (Float64.ofFrac (decide (a<0) !=decide (b<0)) a.natAbs b.natAbs)=false∧Ψ (.flt (Float64.ofFrac (decide (a<0) !=decide (b<0)) a.natAbs b.natAbs)) Z)) (f:=fun a=>on y (i:=fun b=>Float64.isInf (Float64.ofInt b)=false∧Float64.isZero (Float64.ofInt b)=false∧Ψ (.flt (Float64.div a (Float64.ofInt b))) Z))
@[elab_as_elim] theorem Kn{P:Value->Value->Prop}{R:Int->Int->Prop}(h:on x (i:=fun a=>on y (i:=fun b=>R a b)))(hx:VR g x v)(hy:VR g y w)(k:∀a b t u,R a b->P (.int a t) (.int b u)):P v w:=
 jx h hx False.elim z1 (fun a t h=>jx h hy False.elim z1 (fun b u h=>k a b t u h) z4 z4 z1 zt zt) z4 z4 z1 zt zt
def wY(op:Operator)(x y:AV)(Z:Sig)(Ψ:K1):Prop:=match op with
 | .Add=>wAdd x y Z Ψ
 | .Sub=>wSub x y Z Ψ
 | .Mult=>wMul x y Z Ψ
 | .FloorDiv=>wFdiv x y Z Ψ
 | .Mod=>wMod x y Z Ψ
 | .Pow=>wPow x y Z Ψ
 | .RShift=>wShr x y Z Ψ
 | .Div=>wDiv x y Z Ψ
 |_=>False
section
variable {F:Fm} {loc:Loc} {Z:Sig} {z:St} {x y:AV} {a b:Value} {Ψ:K1}
theorem VRs.length:∀{l:List AV} {vs:List Value},VRs h l vs->vs.length=l.length:=by
 intro v__
 induction v__ with
 |nil=>
  intro _ x
  subst x;rfl
 |cons _ _ ih=>
  intro _ x
  refine qb ?_ x;rintro v r rfl _ q;simp[ih q]
theorem VRs.cons{x:AV}{v:Value}(p:VR h x v)(q:VRs h l r):VRs h (x::l) (v::r):=Exists.intro v ⟨r,rfl,p,q⟩
theorem VRs.append:∀{l l':List AV} {vs ws:List Value},VRs h l vs->VRs h l' ws->VRs h (l++l') (vs++ws):=by
 intro v__
 induction v__ with
 |nil=>
  intro _ _ _ x y
  subst x;exact y
 |cons _ _ ih=>
  intro _ _ _ x y
  refine qb ?_ x;rintro v r rfl p q
  exact .cons p (ih q y)
theorem kQ:VR h (.int i) (.int i t):=Exists.intro _ rfl
theorem zR{h:Gh}{b:UInt64}{t:Tok}(ht:t≠0)(k:h.T t=some (.f b)):VR h (.flt b) (.float b t):=Exists.intro t ⟨rfl,ht,k⟩
theorem wZ{h:Gh}{x:Str}{t:Tok}(ht:t≠0)(k:h.T t=some (.s x)):VR h (.str x) (.str x t):=Exists.intro t ⟨rfl,ht,k⟩
theorem wL{h:Gh}{b:Bool}:VR h (.bool b) (.bool b):=rfl
theorem vT:VR h .none .none:=rfl
theorem qD{h:Gh}{a:Addr}:VR h (.ref a) (.ref a):=rfl
theorem jH:(100000:Nat)≤sizeLine:=by decide
theorem ev_bin1(op:Operator)(R:F.Rel loc Z z.g)(tk:TOk z)(hx:VR z.g x a)(hy:VR z.g y b)(h:wY op x y Z Ψ):kK F (binaryOp op a b) loc Z z Ψ:=by
 cases op with
 |Add=>
  refine jx h hx False.elim z1 (fun i t h=> ?_) z4 z4 (fun c h=> ?_) zt zt
  ·exact jx h hy False.elim z1 (fun j u h=>jF R tk h fun Q E q=>PyProof.Rows.add_int (q _ _ _ (.same tk (Nat.le_succ _)) kQ)) z4 z4 z1 zt zt
  ·refine jx h hy False.elim z1 z2 z4 z4 (fun d h=> ?_) zt zt
   refine ZQ (fun l l' hl hl' hs h=> ?_) h
   refine ky (fun vs n e v=> ?_) (R.hr.obj _ _ hl)
   refine ky (fun vs' n' e' v'=> ?_) (R.hr.obj _ _ hl')
   have hsz:vs.size+vs'.size≤sizeLine:=by
    have h1:=v.length;have h2:=v'.length
    have:=jH
    simp only[Array.length_toList]at h1 h2;lia
   refine Kv R tk h fun Q E q=>P.add_list (n:=n) (n2:=n') e e' (q _ _ _ _ (.same tk (Nat.le_refl _)) (Ext.push _ _) (jB _) ?_) hsz
   exact ⟨_,0,Heap.get?_push_size _ rfl,by rw[Array.toList_append];exact (VRs.append v v').imm (h:=z.g) (Ext.imm (h:=z.g) (h':=⟨_,z.T⟩) (Ext.push _ _) (.refl _))⟩
 |Sub=>
  exact jx h hx False.elim z1 (fun i t h=>jx h hy False.elim z1 (fun j u h=>jF R tk h fun Q E q=>PyProof.Rows.sub_int (q _ _ _ (.same tk (Nat.le_succ _)) kQ)) z4 z4 z1 zt zt)
   (fun i t _ _ h=>jx h hy False.elim z1 z2 (fun j u _ _ h=>jF R tk h fun Q E q=>PyProof.Rows.sub_float (q _ _ _ (.put tk (Nat.le_refl _) (Nat.lt_succ_self _) _) (zR (Nat.ne_of_gt tk.pos) kR))) z4 z1 zt zt) z4 z1 zt zt
 |Mult=>
  exact jx h hx False.elim z1 (fun i t h=>jx h hy False.elim z1 (fun j u h=>jF R tk h.2 fun Q E q=>PyProof.Rows.mul_int (q _ _ _ (.same tk (Nat.le_succ _)) kQ) (IntMulOk.of_left (intBits_le_64 (by lia) (by lia)))) z4 z4 z1 zt zt)
   (fun i t _ _ h=>jx h hy False.elim z1 (fun j u h=>jF R tk h.2 fun Q E q=>PyProof.Rows.mul_fi_fits (Nat.lt_of_lt_of_le h.1 (Nat.pow_le_pow_right (by decide) (by decide))) (q _ _ _ (.put tk (Nat.le_refl _) (Nat.lt_succ_self _) _) (zR (Nat.ne_of_gt tk.pos) kR))) z4 z4 z1 zt zt) z4 z1 zt zt
 |Div=>
  exact jx h hx False.elim z1 (fun i t h=>jx h hy False.elim z1 (fun j u h=>jF R tk h.2.2 fun Q E q=>AutoIntOps.truediv_2 (by simpa using h.1) (by simpa using h.2.1) (q _ _ _ (.put tk (Nat.le_refl _) (Nat.lt_succ_self _) _) (zR (Nat.ne_of_gt tk.pos) kR))) z4 z4 z1 zt zt)
   (fun i t _ _ h=>jx h hy False.elim z1 (fun j u h=>jF R tk h.2.2 fun Q E q=>AutoFloatOps.truediv_fi_2 (by simpa using h.1) (by simpa using h.2.1) (q _ _ _ (.put tk (Nat.le_refl _) (Nat.lt_succ_self _) _) (zR (Nat.ne_of_gt tk.pos) kR))) z4 z4 z1 zt zt) z4 z1 zt zt
 |Mod=>exact Kn h hx hy fun i j t u h=>jF R tk h.2 fun Q E q=>PyProof.Rows.mod_int h.1 (q _ _ _ (.same tk (Nat.le_succ _)) kQ)
 |Pow=>exact Kn h hx hy fun i j t u h=>jF R tk h.2.2.2 fun Q E q=>PyProof.Rows.pow_int_small h.1 h.2.1 h.2.2.1 (q _ _ _ (.same tk (Nat.le_succ _)) kQ)
 |RShift=>exact Kn h hx hy fun i j t u h=>jF R tk h.2 fun Q E q=>PyProof.Rows.rshift_int h.1 (q _ _ _ (.same tk (Nat.le_succ _)) kQ)
 |FloorDiv=>exact Kn h hx hy fun i j t u h=>jF R tk h.2.2 fun Q E q=>PyProof.Rows.floordiv_int h.1 (q _ _ _ (.same tk (Nat.le_succ _)) kQ) (.inl (PyProof.noPylong_small h.2.1))
 |_=>exact False.elim h
end
end
end
section
open PySem PySem.W PyProof.Rows PySem.Calls PySem.SeqAt
section
noncomputable def fEq(a b:UInt64):Bool:=Float64.cmp a b==some Ordering.eq
noncomputable def fLt(a b:UInt64):Bool:=Float64.cmp a b==some Ordering.lt
noncomputable def fOk(a b:UInt64):Bool:=a !=b||fEq a b
noncomputable def eqS:AV->AV->Bool
 | .int a,.int b=>a==b
 | .str a,.str b=>a==b
 | .flt a,.flt b=>fEq a b
 |_,_=>false
noncomputable def okS:AV->AV->Bool
 | .int _,.int _=>true
 | .str _,.str _=>true
 | .flt a,.flt b=>fOk a b
 |_,_=>false
noncomputable def jci(l m:List AV):Bool:=l.length==m.length&&(l.zip m).all fun p=>eqS p.1 p.2
noncomputable def V2(l m:List AV):Bool:=(l.zip m).all fun p=>okS p.1 p.2
noncomputable def eqA:AV->AV->Bool
 | .tup l,.tup m=>jci l m
 |x,y=>eqS x y
noncomputable def okA:AV->AV->Bool
 | .tup l,.tup m=>V2 l m
 |x,y=>okS x y
noncomputable def yb(l m:List AV):Bool:=l.length==m.length&&(l.zip m).all fun p=>eqA p.1 p.2
noncomputable def Kc(l m:List AV):Bool:=(l.zip m).all fun p=>okA p.1 p.2
section
variable {C:Cx} {A:Around} {z:St}
theorem vX(X:C.K.In z.s.heap)(M:Model)(t:Tok):Looks M z.s.heap (sharingNotTold t) false:=fun A Q E s k q=>by
 exact wpAny_bind (looks_nsIn X C.shr A _ E s k (wpAny_pure q))
theorem jck(X:C.K.In z.s.heap)(ht:t≠0)(hu:u≠0)(k:fOk a b=true)(hT:t=u->a=b):EqAt A z.s (.float a t) (.float b u) (fEq a b):=fun prog w E Q hq=>by
 refine wpAny_holding ?_
 have same:a=b->Q true z.s:=fun e=>by
  subst e
  have:fEq a a=true:=by simpa[fOk]using k
  rw[this]at hq;exact hq
 refine wpAny_ite_split (fun hab=> ?_) (fun _=> ?_)
 ·refine wpAny_bind (wpAny_rule (wpAny_pure (same ?_)))
  have:=eq_of_beq hab;injection this
 ·have last:wpAny (model prog w) A (do truthOfDropped (←richCompare .Eq (.float a t) (.float b u))) Q E z.s:=by
   refine wpAny_bind ?_
   exact (AutoFloatOps.eq_0 (wpAny_truthy_bool hq))
  dsimp only
  refine wpAny_bind ?_
  show wpAny _ _ (isSame.created (a==b&& !Float64.isNaN a) t u) _ _ _
  delta isSame.created
  simp only[(by simp[ht,hu]:(t==0||u==0)=false),Bool.false_eq_true,if_false]
  by_cases htu:t=u
  ·have:(t==u)=true:=by simp[htu]
   simp only[this,if_true]
   exact wpAny_pure (by exact wpAny_pure (same (hT htu)))
  ·have:(t==u)=false:=by simp[htu]
   simp only[this,Bool.false_eq_true,if_false]
   by_cases hc:(a==b&& !Float64.isNaN a)=true
   ·simp only[hc,Bool.not_true,Bool.false_eq_true,if_false]
    have hab:a=b:=by rw[Bool.and_eq_true,beq_iff_eq]at hc;exact hc.1
    refine wpAny_bind (vX (C:=C) X (model prog w) t A _ E z.s (fun _ _ e=>e) ?_)
    refine wpAny_bind (vX (C:=C) X (model prog w) u A _ E z.s (fun _ _ e=>e) ?_)
    refine wpAny_bind (wpAny_rule (wpAny_bind (wpAny_askSetting (wpAny_pure ?_))))
    split
    ·exact wpAny_pure (same hab)
    ·exact last
   ·have hc':(a==b&& !Float64.isNaN a)=false:=by simpa using hc
    simp only[hc',Bool.not_false,if_true]
    exact wpAny_pure (by exact last)
@[elab_as_elim] theorem Uf{P:AV->AV->Value->Value->Prop}(k:okS x y=true)(hx:VR g x v)(hy:VR g y w)(ki:∀a b t u,P (.int a) (.int b) (.int a t) (.int b u))(ks:∀a b t u,P (.str a) (.str b) (.str a t) (.str b u))(kf:∀a b t u,fOk a b=true->t≠0->u≠0->g.T t=some (.f a)->g.T u=some (.f b)->P (.flt a) (.flt b) (.float a t) (.float b u)):P x y v w:=by
 have no:∀{G:Prop},okS x y≠true->G:=fun h=>absurd k h
 cases x with
 |int a=>cases y with
  |int b=>obtain ⟨t,rfl⟩:=hx;obtain ⟨u,rfl⟩:=hy;exact ki a b t u
  |_=>exact no Bool.false_ne_true
 |str a=>cases y with
  |str b=>refine jp ?_ hx;rintro t rfl _;refine jp ?_ hy;rintro u rfl _;exact ks a b t u
  |_=>exact no Bool.false_ne_true
 |flt a=>cases y with
  |flt b=>refine jX ?_ hx;rintro t rfl h1 h2;refine jX ?_ hy;rintro u rfl h3 h4;exact kf a b t u k h1 h3 h2 h4
  |_=>exact no Bool.false_ne_true
 |_=>exact no Bool.false_ne_true
theorem UA(X:C.K.In z.s.heap)(hx:VR z.g x a)(hy:VR z.g y b)(k:okS x y=true):EqAt A z.s a b (eqS x y):=
 Uf k hx hy (fun _ _ _ _ _ _ _ _ hq=>wpAny_eqBool_int hq) (fun _ _ _ _ _ _ _ _ hq=>wpAny_eqBool_str (by rw[←Bool.beq_eq_decide_eq]at*;exact hq)) fun a b t u k h1 h3 h2 h4=>jck X h1 h3 k fun e=>by subst e;cases h2.symm.trans h4;rfl
theorem VRs.get{l:List AV}:∀{vs:List Value},VRs h l vs->∀j (h1:j<vs.length),∃h2:j<l.length,VR h l[j] vs[j]:=by
 induction l with
 |nil=>intro vs x j h1;subst x;exact absurd h1 (Nat.not_lt_zero _)
 |cons a l ih=>
  intro vs x j h1
  refine qb ?_ x;rintro v r rfl p q
  cases j with
  |zero=>exact ⟨Nat.succ_pos _,p⟩
  |succ j=>exact kg (fun h2 h3=>⟨Nat.succ_lt_succ h2,h3⟩) (ih q j (Nat.lt_of_succ_lt_succ h1))
theorem OP{p:AV×AV->Bool}{l m:List AV}(h:(l.zip m).all p=true)(j:Nat)(h1:j<l.length)(h2:j<m.length):p (l[j],m[j])=true:=by
 rw[List.all_eq_true]at h
 refine h _ ?_
 rw[List.mem_iff_getElem]
 exact ⟨j,by simp;lia,by simp⟩
theorem y5{p:AV×AV->Bool}{l m:List AV}:(List.range (min l.length m.length)).all (fun j=>if h:j<l.length∧j<m.length then p (l[j],m[j])else false)=(l.zip m).all p:=by
 rw[Bool.eq_iff_iff,List.all_eq_true,List.all_eq_true]
 constructor
 ·intro h q hq
  obtain ⟨j,hj,rfl⟩:=List.mem_iff_getElem.mp hq
  simp only[List.length_zip]at hj
  have:=h j (List.mem_range.mpr hj)
  rw[dif_pos ⟨by omega,by omega⟩]at this
  simpa using this
 ·intro h j hj
  have hj:=List.mem_range.mp hj
  rw[dif_pos ⟨by omega,by omega⟩]
  exact h _ (List.mem_iff_getElem.mpr ⟨j,by simp;omega,by simp⟩)
theorem jcj(hx:VR z.g x v)(hy:VR z.g y w)(k:okS x y=true):v=w->eqS x y=true:=
 Uf k hx hy (fun a b t u e=>by injection e with e;exact beq_iff_eq.mpr e) (fun a b t u e=>by injection e with e;exact beq_iff_eq.mpr e) fun a b t u k _ _ _ _ e=>by injection e with e;subst e;show fEq a a=true;simpa[fOk]using k
theorem jcl(X:C.K.In z.s.heap)(hu:A.units+1<cLine){x y:AV}{a b:Value}(hx:VR z.g x a)(hy:VR z.g y b)(k:okA x y=true):EqAt A z.s a b (eqA x y):=by
 by_cases q:∃l m,x=.tup l∧y=.tup m
 ·refine ky ?_ q;rintro l m rfl rfl
  refine KU ?_ hx;rintro ax vs n rfl h1 h4
  refine KU ?_ hy;rintro ay ws n' rfl g1 g4
  have hl:=h4.length;have hm:=g4.length
  simp only[Array.length_toList]at hl hm
  have key:∀j (h1:j<vs.size) (h2:j<ws.size),EqAt A.in1 z.s vs[j] ws[j] ((fun j=>if h:j<l.length∧j<m.length then eqS l[j] m[j]else false) j):=fun j j1 j2=>by
   refine kg (fun p1 q1=> ?_) (h4.get j ‹_›)
   refine kg (fun p2 q2=> ?_) (g4.get j ‹_›)
   simp only[dif_pos (And.intro p1 p2)]
   exact UA X (by simpa using q1) (by simpa using q2) (OP k j p1 p2)
  by_cases e:ax=ay
  ·subst e
   rw[h1]at g1;cases g1
   have:eqA (.tup l) (.tup m)=true:=by
    show jci l m=true
    delta jci
    rw[show l.length=m.length by lia,beq_self_eq_true,Bool.true_and,List.all_eq_true]
    intro p hp
    obtain ⟨j,hj,rfl⟩:=List.mem_iff_getElem.mp hp
    simp only[List.length_zip]at hj
    refine kg (fun _ q1=> ?_) (h4.get j (by simp;omega))
    refine kg (fun _ q2=> ?_) (g4.get j (by simp;omega))
    rw[List.getElem_zip]
    exact jcj (z:=z) q1 q2 (OP k j (by omega) (by omega)) rfl
   simp only[this];exact .same _
  ·refine .of_refs e ?_
   have r:=RcAt.tuples (A:=A) (e:=fun j=>if h:j<l.length∧j<m.length then eqS l[j] m[j]else false) ⟨_,h1,rfl,n,rfl⟩ ⟨_,g1,rfl,n',rfl⟩ (Nat.le_of_lt ‹_›) key
   have e2:((List.range (min vs.size ws.size)).all (fun j=>if h:j<l.length∧j<m.length then eqS l[j] m[j]else false)&&vs.size==ws.size)=eqA (.tup l) (.tup m):=by
    show _=jci l m
    delta jci
    simp only[hl,hm,y5 (p:=fun p=>eqS p.1 p.2),Bool.and_comm]
   simp only[e2]at r;exact r
 ·have h1:okA x y=okS x y∧eqA x y=eqS x y:=by
   cases x with
   |tup l=>cases y with
    |tup m=>exact absurd ⟨l,m,rfl,rfl⟩ q
    |_=>exact ⟨rfl,rfl⟩
   |_=>exact ⟨rfl,rfl⟩
  simp only[h1.2];exact UA X hx hy (h1.1▸k)
end
end
section
open AutoSeq1 (wpAny_loadPart')
open MeetsSeq MeetsSeq2 MeetsSeq3 SeqRoads2
noncomputable def ltS:AV->AV->Bool
 | .int a,.int b=>decide (a<b)
 | .str a,.str b=>decide (a.cps.toList<b.cps.toList)
 | .flt a,.flt b=>fLt a b
 |_,_=>false
noncomputable def ltT:List AV->List AV->Bool
 |a::l,b::m=>if eqS a b then ltT l m else ltS a b
 |_,_=>false
theorem jbE{a b:AV}{l m:List AV}(h:eqS a b=true):ltT (a::l) (b::m)=ltT l m:=if_pos h
theorem jbF{a b:AV}{l m:List AV}(h:¬eqS a b=true):ltT (a::l) (b::m)=ltS a b:=if_neg h
def ZL(A:Around)(s:Shared)(y x:Value)(b:Bool):Prop:=
 ∀(prog:Program) (w:World) (E:Value->Shared->Prop) (Q:Value->Shared->Prop),Q (.bool b) s->wpAny (model prog w) A (richCompare .Lt y x) Q E s
noncomputable def KQ(A:Around)(s:Shared)(fin r:Bool):List (Value×Value)->Prop
 |[]=>r=fin
 |p::l=>∃e,EqAt A s p.1 p.2 e∧(e=true->KQ A s fin r l)∧(e=false->ZL A s p.1 p.2 r)
theorem VK(l b:Addr)(items items2:Array Value)(n n2:Nat)(dd dd2:Option Addr)(sl sl2:Array (Option Value))(r:Bool):
  Meets (Builtin.«tuple.__lt__» ⟨[.ref l,.ref b],[]⟩)
   (fun A R s=>s.heap.get? l=some {cls:=.type "tuple",dict:=dd,data:=.seq items n,slots:=sl}∧s.heap.get? b=some {cls:=.type "tuple",dict:=dd2,data:=.seq items2 n2,slots:=sl2}∧
    KQ A.in1 s (decide (items.size<items2.size)) r (items.toList.zip items2.toList)∧R (.ok (.ret (.bool r))) s):=
 .of_wp fun prog w A R s h=>by
  obtain ⟨hp,g,d,tk,os⟩:=s;refine x0_4 (fun hl hb he h=> ?_) h
  have f2:=AutoSeq1.sub_tuple_tuple
  wp_walk using wpAny_loadPart' hl,wpAny_loadPart' hb,wpAny_forIn_list _ (fun rest b s'=>b.1=none∧s'=⟨hp,g,d,tk,os⟩∧KQ A.in1 ⟨hp,g,d,tk,os⟩ (decide (items.size<items2.size)) r rest) _
  case turn=>
   rintro ⟨y,x⟩ rest b s' ⟨hb',rfl,e,h1,h2,h3⟩
   refine wpAny_bind (h1 prog w _ _ ?_)
   cases e with
   |true=>
    wp_walk
    exact ⟨rfl,rfl,h2 rfl⟩
   |false=>
    refine wpAny_bind (wpAny_rule (wpAny_bind (h3 rfl prog w _ _ ?_)))
    wp_walk
    exact ⟨_,rfl,h⟩
  case fin=>
   rintro ⟨b1,b2⟩ s' ⟨hb',rfl,hz⟩
   subst hb'
   subst hz
   wp_walk
   exact ⟨_,rfl,by simpa[Builtin.Tuple.tupleCompareSizes]using h⟩
  case h=>
   exact ⟨rfl,rfl,he⟩
theorem ZL.tuples(hl:s.heap.IsTuple l items)(hb:s.heap.IsTuple b items2)(hu:A.units<cLine)
  (he:KQ A.in1 s (decide (items.size<items2.size)) r (items.toList.zip items2.toList)):ZL A s (.ref l) (.ref b) r:=fun prog w E Q h=>by
 obtain ⟨⟨cls,dd,data,sl⟩,ho,hc,n,hd⟩:=id hl
 obtain ⟨⟨cls2,dd2,data2,sl2⟩,ho2,hc2,n2,hd2⟩:=id hb
 simp only at hc hd hc2 hd2
 subst hc hd hc2 hd2
 exact richCompare_meets_room (op:=.Lt) ⟨_,ho,rfl⟩ ⟨_,ho2,rfl⟩ F.slot_tuple_lt F.entry_tuple_lt (F.args_tuple_lt_2 _ _) (VK l b items items2 n n2 dd dd2 sl sl2 r)
  ⟨ho,ho2,he,show Value.bool r≠Value.notImplemented∧Q (.bool r) s from⟨(fun x=>nomatch x),h⟩⟩ hu
section
variable {C:Cx} {A:Around} {z:St}
theorem jbG(hx:VR z.g x a)(hy:VR z.g y b)(k:okS x y=true):ZL A z.s a b (ltS x y):=
 Uf k hx hy (fun _ _ _ _ _ _ _ _ hq=>PyProof.Rows.lt_int hq) (fun _ _ _ _ _ _ _ _ hq=>PyProof.Rows.lt_str hq) fun _ _ _ _ _ _ _ _ _ _ _ _ _ hq=>AutoFloatOps.lt_0 hq
theorem lexAt(X:C.K.In z.s.heap){l:List AV}:∀{m:List AV} {vs ws:List Value},VRs z.g l vs->VRs z.g m ws->l.length=m.length->V2 l m=true->KQ A z.s false (ltT l m) (vs.zip ws):=by
 induction l with
 |nil=>
  intro m vs ws x y e _
  subst x
  cases m with
  |nil=>rfl
  |cons=>exact Nat.noConfusion e
 |cons a l ih=>
  intro m vs ws x y e k
  cases m with
  |nil=>exact Nat.noConfusion e
  |cons b m=>
  refine qb ?_ x;rintro v r rfl p q
  refine qb ?_ y;rintro v' r' rfl p' q'
  simp only[V2,List.zip_cons_cons,List.all_cons,Bool.and_eq_true]at k
  refine ⟨eqS a b,UA X p p' k.1,fun h=> ?_,fun h=> ?_⟩
  ·rw[jbE h];exact ih q q' (Nat.succ.inj e) k.2
  ·rw[jbF (h▸Bool.false_ne_true)];exact jbG p p' k.1
theorem ltAt_T(X:C.K.In z.s.heap)(hu:A.units+1<cLine)(hx:VR z.g (.tup l) a)(hy:VR z.g (.tup m) b)(e:l.length=m.length)(k:V2 l m=true):ZL A z.s a b (ltT l m):=by
 refine KU ?_ hx;rintro ax vs n rfl h1 h4
 refine KU ?_ hy;rintro ay ws n' rfl g1 g4
 refine ZL.tuples ⟨_,h1,rfl,n,rfl⟩ ⟨_,g1,rfl,n',rfl⟩ (Nat.le_of_lt ‹_›) ?_
 have hl:=h4.length;have hm:=g4.length
 simp only[Array.length_toList]at hl hm
 have:decide (vs.size<ws.size)=false:=by simp;lia
 exact this▸(lexAt X h4 g4 e k)
end
def wLt(x y:AV)(Z:Sig)(Ψ:K1):Prop:=on x (i:=fun a=>on y (i:=fun b=>Ψ (.bool (decide (a<b))) Z)) (t:=fun l=>on y (t:=fun m=>l.length=m.length∧V2 l m=true∧Ψ (.bool (ltT l m)) Z))
def wLe(x y:AV)(Z:Sig)(Ψ:K1):Prop:=on x (i:=fun a=>on y (i:=fun b=>Ψ (.bool (decide (a≤b))) Z)) (f:=fun a=>on y (f:=fun b=>Ψ (.bool (Float64.cmp a b==some Ordering.lt||Float64.cmp a b==some Ordering.eq)) Z))
def wGt(x y:AV)(Z:Sig)(Ψ:K1):Prop:=on x (i:=fun a=>on y (i:=fun b=>Ψ (.bool (decide (b<a))) Z))
def wGe(x y:AV)(Z:Sig)(Ψ:K1):Prop:=on x (i:=fun a=>on y (i:=fun b=>Ψ (.bool (decide (b≤a))) Z)) (f:=fun a=>on y (f:=fun b=>Ψ (.bool (Float64.cmp a b==some Ordering.gt||Float64.cmp a b==some Ordering.eq)) Z))
def wEq(x y:AV)(Z:Sig)(Ψ:Bool->Prop):Prop:=on x (i:=fun a=>on y (i:=fun b=>Ψ (a==b))) (s:=fun a=>on y (s:=fun b=>Ψ (a==b))) (r:=fun a=>on y (r:=fun b=>∃l m,Z a=some (.list l)∧Z b=some (.list m)∧(l.length=m.length->Kc l m=true)∧Ψ (yb l m)))
def wIs(x y:AV)(Ψ:Bool->Prop):Prop:=on x (n:=on y (n:=Ψ true)) (i:=fun _=>on y (n:=Ψ false)) (s:=fun a=>on y (n:=Ψ false) (s:=fun b=>Ψ false∧(a=b->Ψ true))) (r:=fun _=>on y (n:=Ψ false))
def vG(op:CmpOp)(x y:AV)(Z:Sig)(Ψ:K1):Prop:=match op with
 | .Lt=>wLt x y Z Ψ
 | .LtE=>wLe x y Z Ψ
 | .Gt=>wGt x y Z Ψ
 | .GtE=>wGe x y Z Ψ
 | .Eq=>wEq x y Z fun b=>Ψ (.bool b) Z
 | .NotEq=>wEq x y Z fun b=>Ψ (.bool (!b)) Z
 | .Is=>wIs x y fun b=>Ψ (.bool b) Z
 | .IsNot=>wIs x y fun b=>Ψ (.bool (!b)) Z
 |_=>False
section
variable {F:Fm} {loc:Loc} {Z:Sig} {z:St} {x y:AV} {a b:Value} {Ψ:K1}
theorem jcE:(2000:Nat)<cLine:=by decide
theorem Fm.room(F:Fm)(k:Nat)(hk:k≤500):F.A.units+k<cLine:=by have:=F.hu;have:=jcE;lia
theorem U8(h:Kc l m=true)(j:Nat)(h1:j<l.length)(h2:j<m.length):okA l[j] m[j]=true:=OP (p:=fun p=>okA p.1 p.2) h j h1 h2
theorem eqLists(R:F.Rel loc Z z.g)(hl:Z c=some (.list l))(hm:Z d=some (.list m))(k:l.length=m.length->Kc l m=true)(E:Value->Shared->Prop)(Q:Value->Shared->Prop)(h:∀r,r=yb l m->Q (.bool r) z.s)(neg:Bool)(h':∀r,r= !yb l m->Q (.bool r) z.s->True):wpAny F.M F.A (compareOp .Eq (.ref c) (.ref d)) Q E z.s:=by
 refine ky (fun vs n e1 v1=> ?_) (R.hr.obj _ _ hl)
 refine ky (fun ws n' e2 v2=> ?_) (R.hr.obj _ _ hm)
 have hl:=v1.length;have hm:=v2.length
 simp only[Array.length_toList]at hl hm
 have I1:z.s.heap.IsList c vs:=⟨_,e1,rfl,n,rfl⟩
 have I2:z.s.heap.IsList d ws:=⟨_,e2,rfl,n',rfl⟩
 by_cases hs:vs.size=ws.size
 ·have k':=k (by lia)
  refine eq_listAt (e:=fun j=>if h:j<l.length∧j<m.length then eqA l[j] m[j]else false) I1 I2 hs (by have:=F.room 1 (by lia);lia) (fun j j1 j2=> ?_) (h _ ?_)
  ·refine kg (fun p1 q1=> ?_) (v1.get j ‹_›)
   refine kg (fun p2 q2=> ?_) (v2.get j ‹_›)
   rw[dif_pos (And.intro p1 p2)]
   exact jcl (C:=F.C) R.hr.top (F.room 2 (Nat.le_add_left _ _)) (by simpa using q1) (by simpa using q2) (U8 k' j p1 p2)
  ·have:vs.size=min l.length m.length:=by grind
   simp only[this,y5 (p:=fun p=>eqA p.1 p.2)]
   simp only[yb,show l.length=m.length by lia,beq_self_eq_true,Bool.true_and]
 ·refine eq_list_lengthsAt I1 I2 (by simpa using hs) (by have:=F.room 1 (by lia);lia) (h _ ?_)
  have:(l.length==m.length)=false:=by simp;lia
  simp[yb,this]
theorem neLists(R:F.Rel loc Z z.g)(hl:Z c=some (.list l))(hm:Z d=some (.list m))(k:l.length=m.length->Kc l m=true)(E:Value->Shared->Prop)(Q:Value->Shared->Prop)(h:Q (.bool (!yb l m)) z.s):wpAny F.M F.A (compareOp .NotEq (.ref c) (.ref d)) Q E z.s:=by
 refine ky (fun vs n e1 v1=> ?_) (R.hr.obj _ _ hl)
 refine ky (fun ws n' e2 v2=> ?_) (R.hr.obj _ _ hm)
 have hl:=v1.length;have hm:=v2.length
 simp only[Array.length_toList]at hl hm
 have I1:z.s.heap.IsList c vs:=⟨_,e1,rfl,n,rfl⟩
 have I2:z.s.heap.IsList d ws:=⟨_,e2,rfl,n',rfl⟩
 by_cases hs:vs.size=ws.size
 ·have k':=k (by lia)
  refine RcNeAt.lists (e:=fun j=>if h:j<l.length∧j<m.length then eqA l[j] m[j]else false) I1 I2 hs (by have:=F.room 1 (by lia);lia) (fun j j1 j2=> ?_) F.C.prog F.C.w E Q ?_
  ·refine kg (fun p1 q1=> ?_) (v1.get j ‹_›)
   refine kg (fun p2 q2=> ?_) (v2.get j ‹_›)
   rw[dif_pos (And.intro p1 p2)]
   exact jcl (C:=F.C) R.hr.top (F.room 2 (by lia)) (by simpa using q1) (by simpa using q2) (U8 k' j p1 p2)
  ·have:vs.size=min l.length m.length:=by lia
   simp only[this,y5 (p:=fun p=>eqA p.1 p.2)]
   simpa only[yb,show l.length=m.length by lia,beq_self_eq_true,Bool.true_and]using h
 ·refine RcNeAt.lists_lengths I1 I2 (by simpa using hs) (by have:=F.room 1 (by lia);lia) F.C.prog F.C.w E Q ?_
  have:(l.length==m.length)=false:=by simp;lia
  simpa[yb,this]using h
theorem isStr{x y:Str}{t u:Tok}(X:F.C.K.In z.s.heap)(h1:t≠0)(h2:u≠0)(hT:t=u->x=y)(Q:Bool->Shared->Prop)(E:Value->Shared->Prop)(hf:Q false z.s)(ht:x=y->Q true z.s):wpAny F.M F.A (isSame (.str x t) (.str y u)) Q E z.s:=by
 show wpAny _ _ (isSame.created (x==y) t u) _ _ _
 delta isSame.created
 simp only[(by simp[h1,h2]:(t==0||u==0)=false),Bool.false_eq_true,if_false]
 by_cases htu:t=u
 ·have:(t==u)=true:=by simp[htu]
  simp only[this,if_true]
  exact wpAny_pure (ht (hT htu))
 ·have:(t==u)=false:=by simp[htu]
  simp only[this,Bool.false_eq_true,if_false]
  by_cases hc:x=y
  ·subst hc
   simp only[beq_self_eq_true,Bool.not_true,Bool.false_eq_true,if_false]
   refine wpAny_bind (vX (C:=F.C) X F.M t F.A _ E z.s (fun _ _ e=>e) ?_)
   refine wpAny_bind (vX (C:=F.C) X F.M u F.A _ E z.s (fun _ _ e=>e) ?_)
   refine wpAny_bind (wpAny_rule (wpAny_bind (wpAny_askSetting (wpAny_pure ?_))))
   show Q (F.C.w.params.mergeTok t==F.C.w.params.mergeTok u) z.s
   cases hm:(F.C.w.params.mergeTok t==F.C.w.params.mergeTok u)with
   |true=>exact ht rfl
   |false=>exact hf
  ·have hc':(x==y)=false:=by simpa using hc
   simp only[hc',Bool.not_false,if_true]
   exact wpAny_pure hf
theorem is_AV{Ψ:Bool->Prop}(R:F.Rel loc Z z.g)(tk:TOk z)(hx:VR z.g x a)(hy:VR z.g y b)(h:wIs x y Ψ)(Q:Bool->Shared->Prop)(E:Value->Shared->Prop)(q:∀r,Ψ r->Q r z.s):wpAny F.M F.A (isSame a b) Q E z.s:=
 jx h hx (fun h=>jx h hy (fun h=>wpAny_pure (q _ h)) z1 z2 z4 z4 z1 zt zt) z1 (fun _ _ h=>jx h hy (fun h=>wpAny_pure (q _ h)) z1 z2 z4 z4 z1 zt zt) z4
  (fun a t h1 h2 h=>jx h hy (fun h=>wpAny_pure (q _ h)) z1 z2 z4 (fun b u h3 h4 h=>isStr R.hr.top h1 h3 (fun e=>by subst e;cases h2.symm.trans h4;rfl) Q E (q _ h.1) fun e=>q _ (h.2 e)) z1 zt zt)
  (fun _ h=>jx h hy (fun h=>wpAny_pure (q _ h)) z1 z2 z4 z4 z1 zt zt) zt zt
theorem zL(op:CmpOp)(R:F.Rel loc Z z.g)(tk:TOk z)(hx:VR z.g x a)(hy:VR z.g y b)(h:vG op x y Z Ψ):kK F (compareOp op a b) loc Z z Ψ:=by
 have fin:∀{Q:Value->Shared->Prop} {r:Bool},(∀av Z' cv z',Ψ av Z'->F.Rel loc Z' z'.g->jJ (F.W Z) Z z Z' z'->TOk z'->VR z'.g av cv->Q cv z'.s)->Ψ (.bool r) Z->Q (.bool r) z.s:=fun q p=>q _ Z _ z p R .refl tk wL
 intro Q E q
 have e1:∀{r:Bool->Bool},wEq x y Z (fun b=>Ψ (.bool (r b)) Z)->(∀i j t u,Ψ (.bool (r (i==j))) Z->wpAny F.M F.A (compareOp op (.int i t) (.int j u)) Q E z.s)->(∀i j t u,Ψ (.bool (r (i==j))) Z->wpAny F.M F.A (compareOp op (.str i t) (.str j u)) Q E z.s)->(∀c d l m,Z c=some (.list l)->Z d=some (.list m)->(l.length=m.length->Kc l m=true)->Ψ (.bool (r (yb l m))) Z->wpAny F.M F.A (compareOp op (.ref c) (.ref d)) Q E z.s)->wpAny F.M F.A (compareOp op a b) Q E z.s:=fun h ki ks kr=>
  jx h hx False.elim z1 (fun i t h=>jx h hy False.elim z1 (fun j u h=>ki i j t u h) z4 z4 z1 zt zt) z4 (fun i t _ _ h=>jx h hy False.elim z1 z2 z4 (fun j u _ _ h=>ks i j t u h) z1 zt zt) (fun c h=>jx h hy False.elim z1 z2 z4 z4 (fun d h=>ZQ (fun l m=>kr c d l m) h) zt zt) zt zt
 have e2:∀{RI:Int->Int->Prop} {RF:UInt64->UInt64->Prop},on x (i:=fun a=>on y (i:=fun b=>RI a b)) (f:=fun a=>on y (f:=fun b=>RF a b))->(∀i j t u,RI i j->wpAny F.M F.A (compareOp op (.int i t) (.int j u)) Q E z.s)->(∀i j t u,RF i j->wpAny F.M F.A (compareOp op (.float i t) (.float j u)) Q E z.s)->wpAny F.M F.A (compareOp op a b) Q E z.s:=fun h ki kf=>
  jx h hx False.elim z1 (fun i t h=>jx h hy False.elim z1 (fun j u h=>ki i j t u h) z4 z4 z1 zt zt) (fun i t _ _ h=>jx h hy False.elim z1 z2 (fun j u _ _ h=>kf i j t u h) z4 z1 zt zt) z4 z1 zt zt
 cases op with
 |Eq=>exact e1 (r:=fun b=>b) h (fun _ _ _ _ h=>PyProof.Rows.eq_int (fin q h)) (fun _ _ _ _ h=>PyProof.Rows.eq_str (fin q h)) fun c d l m h1 h2 h3 h4=>eqLists R h1 h2 h3 E Q (fun r e=>by subst e;exact fin q h4) true (fun _ _ _=>trivial)
 |NotEq=>exact e1 (r:=fun b=> !b) h (fun _ _ _ _ h=>PyProof.Rows.ne_int (fin q h)) (fun _ _ _ _ h=>PyProof.Rows.ne_str (fin q h)) fun c d l m h1 h2 h3 h4=>neLists R h1 h2 h3 E Q (fin q h4)
 |Lt=>exact jx h hx False.elim z1 (fun i t h=>jx h hy False.elim z1 (fun j u h=>PyProof.Rows.lt_int (fin q h)) z4 z4 z1 zt zt) z4 z4 z1 (fun l hl h=>jx h hy False.elim z1 z2 z4 z4 z1 (fun m hm h=>ltAt_T (C:=F.C) R.hr.top (F.room 1 (by lia)) hl hm h.1 h.2.1 F.C.prog F.C.w E Q (fin q h.2.2)) zt) zt
 |LtE=>exact e2 h (fun _ _ _ _ h=>PyProof.Rows.le_int (fin q h)) fun _ _ _ _ h=>AutoFloatOps.le_0 (fin q h)
 |Gt=>exact Kn h hx hy fun i j t u h=>PyProof.Rows.gt_int (fin q h)
 |GtE=>exact e2 h (fun _ _ _ _ h=>PyProof.Rows.ge_int (fin q h)) fun _ _ _ _ h=>AutoFloatOps.ge_0 (fin q h)
 |Is=>exact wpAny_bind (is_AV (Ψ:=fun b=>Ψ (.bool b) Z) R tk hx hy h _ E fun r p=>wpAny_pure (fin q p))
 |IsNot=>exact wpAny_bind (is_AV (Ψ:=fun b=>Ψ (.bool !b) Z) R tk hx hy h _ E fun r p=>wpAny_pure (fin q p))
 |_=>exact False.elim h
end
end
section
def OQ(x:AV)(Z:Sig)(Ψ:Bool->Prop):Prop:=on x (n:=Ψ false) (b:=fun b=>Ψ b) (i:=fun i=>Ψ (i !=0)) (r:=fun a=>∃l,Z a=some (.list l)∧l.length≤1000∧Ψ (!l.isEmpty))
section
variable {F:Fm} {loc:Loc} {Z:Sig} {z:St} {x y:AV} {a b:Value} {Ψ:K1}
theorem YZ{Φ:Bool->Sig->Prop}(R:F.Rel loc Z z.g)(tk:TOk z)(hx:VR z.g x a)(h:OQ x Z fun b=>Φ b Z):TrAt F (truthy a) loc Z z Φ:=by
 refine jx h hx (fun h=>jF R tk h fun Q E q=>PyProof.Rows.truthy_none (q _ _ _ (.same tk (Nat.le_refl _)) rfl)) (fun b h=>jF R tk h fun Q E q=>wpAny_truthy_bool (q _ _ _ (.same tk (Nat.le_refl _)) rfl)) (fun i t h=>jF R tk h fun Q E q=>PyProof.Rows.truthy_int (q _ _ _ (.same tk (Nat.le_refl _)) rfl)) z4 z4 (fun ad h=> ?_) zt zt
 ·refine jX (fun l h1 h2 h3=> ?_) h
  refine ky (fun vs n e1 v1=> ?_) (R.hr.obj _ _ h1)
  have hl:=v1.length
  simp only[Array.length_toList]at hl
  refine jF R tk h3 fun Q E q=>wpAny_truthy_list ⟨_,e1,rfl,n,rfl⟩ (by lia) (q _ _ _ (.same tk (Nat.le_succ_of_le (Nat.le_succ _))) ?_)
  show (!vs.isEmpty)= !l.isEmpty
  cases l with
  |nil=>simp at hl;simp[hl]
  |cons a l=>
   have:vs.isEmpty=false:=by simp;intro e;simp[e]at hl
   simp[this]
theorem e_var(R:F.Rel loc Z z.g)(tk:TOk z)(hN:F.N[i]? =some n)(hv:loc i=some x)(hk:F.env.scope.kind=.function)(hl:F.env.kindOf n=some .local)(hd:(n==("__debug__" :Str))=false)(h:Ψ x Z):kK F (eval (.Name n pos) F.env) loc Z z Ψ:=by
 refine jp (fun m hn hm=> ?_) R.ns
 rcases hm i n x hN hv with ⟨_,cv,e,v⟩|⟨h1|h1,_⟩
 ·exact jF R tk h fun Q E q=>wpAny_Name (wpAny_loadName_local hk hl hn e (q _ _ _ (.same tk (Nat.le_refl _)) v)) hd
 ·cases hl.symm.trans h1
 ·cases hl.symm.trans h1
theorem e_cel(R:F.Rel loc Z z.g)(tk:TOk z)(hN:F.N[i]? =some n)(hv:loc i=some (.ref c))(hk:F.env.scope.kind=.function)(hl:F.env.kindOf n=some .cell∨F.env.kindOf n=some .free)(hd:(n==("__debug__" :Str))=false)(hcd:(n==("__classdict__" :Str))=false)
  (hc:Z c=some (.cell (some x))) (h:Ψ x Z):kK F (eval (.Name n pos) F.env) loc Z z Ψ:=by
 refine jp (fun m hn hm=> ?_) R.ns
 obtain ⟨o,r,ho,hdt,cv,rfl,v⟩:=R.hr.obj _ _ hc
 rcases hm i n _ hN hv with ⟨h1,_⟩|⟨_,c',e,h2⟩
 ·rcases hl with hl|hl<;>(cases hl.symm.trans h1)
 ·cases h2
  refine jF R tk h fun Q E q=>wpAny_Name ?_ hd
  refine Or.elim hl (fun hl=> ?_) fun hl=> ?_
  ·exact wpAny_loadName_cell hk hl e ⟨o,ho,hdt⟩ (q _ _ _ (.same tk (Nat.le_refl _)) v)
  ·exact wpAny_loadName_free hk hl e ⟨o,ho,hdt⟩ (q _ _ _ (.same tk (Nat.le_refl _)) v) hcd
noncomputable def w9(K:Frag)(g b:Addr)(n:Str):Option Value:=match nsIn K g n with
 |some (some v)=>some v
 |some none=>match nsIn K b n with
  |some (some v)=>some v
  |_=>none
 |none=>none
theorem ZB{K:Frag}{g b:Addr}{n:Str}{v:Value}{G:Prop}(hg:w9 K g b n=some v)(k1:nsIn K g n=some (some v)->G)(k2:nsIn K g n=some none->nsIn K b n=some (some v)->G):G:=by
 revert hg;delta w9
 cases e:nsIn K g n with
 |none=>intro h;cases h
 |some o=>cases o with
  |some w=>intro h;cases h;exact k1 e
  |none=>cases e2:nsIn K b n with
   |none=>intro h;cases h
   |some o=>cases o with
    |none=>intro h;cases h
    |some w=>intro h;cases h;exact k2 e e2
theorem e_glob(R:F.Rel loc Z z.g)(tk:TOk z)(hg:w9 F.C.K F.env.globals F.env.builtins n=some v)(hv:VR z.g x v)(hk:F.env.scope.kind=.function)(hl:F.env.kindOf n=some .globalImplicit)(hd:(n==("__debug__" :Str))=false)(h:Ψ x Z):kK F (eval (.Name n pos) F.env) loc Z z Ψ:=
 jF R tk h fun Q E q=>Name_function_global hk hl (by
  have fin:=q v z.s.toks z.T (.same tk (Nat.le_refl _)) hv
  exact ZB hg (fun hw=>wpAny_bind (looks_nsIn R.hr.top hw F.A _ E z.s (fun _ _ e=>e) (wpAny_pure fin))) fun hw hw'=>wpAny_bind (looks_nsIn R.hr.top hw F.A _ E z.s (fun _ _ e=>e) (wpAny_bind (looks_nsIn R.hr.top hw' F.A _ E z.s (fun _ _ e=>e) (wpAny_pure fin))))) hd
theorem e_int(R:F.Rel loc Z z.g)(tk:TOk z)(h:Ψ (.int i) Z):kK F (eval (.Constant (.int i) k pos) F.env) loc Z z Ψ:=jF R tk h fun Q E q=>wpAny_Constant_int (q _ _ _ (.same tk (Nat.le_succ _)) kQ)
theorem e_flt{b:UInt64}{k:Nat}{pos:Pos}(R:F.Rel loc Z z.g)(tk:TOk z)(h:Ψ (.flt b) Z):kK F (eval (.Constant (.float b) k pos) F.env) loc Z z Ψ:=jF R tk h fun Q E q=>fun _ _ _=>q _ _ _ (.put tk (Nat.le_refl _) (Nat.lt_succ_self _) _) (zR (Nat.ne_of_gt tk.pos) kR)
theorem e_str{b:Str}{k:Nat}{pos:Pos}(R:F.Rel loc Z z.g)(tk:TOk z)(h:Ψ (.str b) Z):kK F (eval (.Constant (.str b) k pos) F.env) loc Z z Ψ:=jF R tk h fun Q E q=>Constant_str (q _ _ _ (.put tk (Nat.le_refl _) (Nat.lt_succ_self _) _) (wZ (Nat.ne_of_gt tk.pos) kR))
theorem e_none(R:F.Rel loc Z z.g)(tk:TOk z)(h:Ψ .none Z):kK F (eval (.Constant .none k pos) F.env) loc Z z Ψ:=jF R tk h fun Q E q=>fun _ _ _=>q _ _ _ (.same tk (Nat.le_refl _)) vT
theorem Xh{b:Bool}{k:Nat}{pos:Pos}(R:F.Rel loc Z z.g)(tk:TOk z)(h:Ψ (.bool b) Z):kK F (eval (.Constant (.bool b) k pos) F.env) loc Z z Ψ:=jF R tk h fun Q E q=>fun _ _ _=>q _ _ _ (.same tk (Nat.le_refl _)) wL
theorem jcr{Φ:List AV->Sig->Prop}(R:F.Rel loc Z z.g)(tk:TOk z)(h:Φ [] Z):EvL F (spliced []) loc Z z Φ:=.pure R tk (by rfl) h
theorem el_cons{Φ:List AV->Sig->Prop}(R:F.Rel loc Z z.g)(h:kK F t loc Z z Θ)
  (k:∀x Zw1 zw1,Θ x Zw1->F.Rel loc Zw1 zw1.g->TOk zw1->EvL F (spliced rest) loc Zw1 zw1 fun xs Zw2=>Φ (x::xs) Zw2):EvL F (spliced ((false,t)::rest)) loc Z z Φ:=fun Q E q=>
 Calls.spliced_cons (h _ E fun x Zw1 a zw1 p Rw1 st tk v=>k x Zw1 zw1 p Rw1 tk _ E fun xs Zw2 cs zw2 pw2 Rw2 stw2 tkw2 vw2=>
  q (x::xs) Zw2 (a::cs) zw2 pw2 Rw2 (st.trans stw2) tkw2 (by exact ⟨a,cs,rfl,v.imm (stw2.imm Rw1),vw2⟩))
theorem Xg(R:F.Rel loc Z z.g)(tk:TOk z)(hv:VRs z.g xs vs)(hl:xs.length≤1000)(h:Ψ (.tup xs) Z):kK F (newTuple vs) loc Z z Ψ:=
 v9 R tk h fun Q E q=>by
  have hsz:=hv.length
  refine wpAny_newObj_type (q _ _ _ _ (.same tk (Nat.le_refl _)) (Ext.push _ _) ?_) (by have:=jH;show vs.toArray.size≤sizeLine;rw[List.size_toArray];lia)
  exact ⟨_,_,0,rfl,Heap.get?_push_size _ rfl,hv.imm (h:=z.g) (Ext.imm (h:=z.g) (h':=⟨_,z.T⟩) (Ext.push _ _) (.refl _))⟩
theorem ZF(R:F.Rel loc Z z.g)(tk:TOk z)(hv:VRs z.g xs vs)(hl:xs.length≤1000)(h:∀a,Z a=none->Ψ (.ref a) (upd Z a (.list xs))):kK F (newList vs) loc Z z Ψ:=
 Kv R tk h fun Q E q=>by
  have hsz:=hv.length
  refine wpAny_newObj_type (q _ _ _ _ (.same tk (Nat.le_refl _)) (Ext.push _ _) (jB _) ?_) (by have:=jH;show vs.toArray.size≤sizeLine;rw[List.size_toArray];lia)
  exact ⟨_,0,Heap.get?_push_size _ rfl,hv.imm (h:=z.g) (Ext.imm (h:=z.g) (h':=⟨_,z.T⟩) (Ext.push _ _) (.refl _))⟩
theorem jcs(R:F.Rel loc Z z.g)(tk:TOk z)(ho:o=.dS []∨o=.dI [])(h:∀a,Z a=none->Ψ (.ref a) (upd Z a o)):kK F (eval (.Dict [] [] pos) F.env) loc Z z Ψ:=
 Kv R tk h fun Q E q=>wpAny_Dict_empty (q _ _ _ _ (.same tk (Nat.le_refl _)) (Ext.push _ _) (jB _) (by
  rcases ho with rfl|rfl
  ·exact ⟨_,Heap.DictOf.new _,rfl⟩
  ·exact ⟨_,Heap.DictOf.new _,rfl⟩))
end
end
section
theorem qv:(PySem.strKind prog w).is k (.str k u)=true:=by
 show Value.isStrOf k (.str k u)=true
 simp[Value.isStrOf]
theorem V7:(PySem.intKind prog w).is k (.int k u)=true:=by
 show Value.isInt k (.int k u)=true
 simp[Value.isInt]
noncomputable def dAt{κ α:Type}[DecidableEq κ](l:List (κ×α))(k:κ):Option α:=(l.find? fun kv=>decide (kv.1=k)).map (·.2)
noncomputable def zF{κ α:Type}[DecidableEq κ](l:List (κ×α))(k:κ)(v:α):List (κ×α):=
 if l.any (fun kv=>decide (kv.1=k))then l.map (fun kv=>if kv.1=k then (kv.1,v)else kv)else l++[(k,v)]
section
variable {κ:Type} [DecidableEq κ] {h:Gh}
theorem DR.cons{p:κ×AV}{cv:Value}{l:List (κ×AV)}{r:List (κ×Value)}(v:VR h p.2 cv)(q:DR h l r):DR h (p::l) ((p.1,cv)::r):=Exists.intro cv ⟨r,rfl,v,q⟩
theorem DR.at{l:List (κ×AV)}{m:List (κ×Value)}(k:κ)(x:DR h l m):Oq h (dAt l k) (valueAt m k):=
 x.ind (P:=fun l m=>Oq h (dAt l k) (valueAt m k)) rfl fun p cv l r v _ q=>by
  by_cases hk:p.1=k
  ·simp[dAt,valueAt,hk];exact ⟨cv,rfl,v⟩
  ·simpa[dAt,valueAt,hk]using q
theorem DR.length{l:List (κ×AV)}{m:List (κ×Value)}(x:DR h l m):m.length=l.length:=
 x.ind (P:=fun l m=>m.length=l.length) rfl fun _ _ _ _ _ _ q=>congrArg (·+1) q
theorem DR.any{l:List (κ×AV)}{m:List (κ×Value)}(k:κ)(x:DR h l m):m.any (fun kv=>decide (kv.1=k))=l.any (fun kv=>decide (kv.1=k)):=
 x.ind (P:=fun l m=>m.any (fun kv=>decide (kv.1=k))=l.any (fun kv=>decide (kv.1=k))) rfl fun p _ _ _ _ _ q=>congrArg (decide (p.1=k)||·) q
theorem DR.map{l:List (κ×AV)}{m:List (κ×Value)}(k:κ){v:AV}{cv:Value}(x:DR h l m)(y:VR h v cv):DR h (l.map fun kv=>if kv.1=k then (kv.1,v)else kv) (m.map fun kv=>if kv.1=k then (kv.1,cv)else kv):=
 x.ind (P:=fun l m=>DR h (l.map fun kv=>if kv.1=k then (kv.1,v)else kv) (m.map fun kv=>if kv.1=k then (kv.1,cv)else kv)) rfl fun p cu l r u _ q=>by
  by_cases hk:p.1=k
  ·simp only[List.map_cons,hk,if_true];exact ⟨cv,_,rfl,y,q⟩
  ·simp only[List.map_cons,hk,if_false];exact ⟨cu,_,rfl,u,q⟩
theorem DR.snoc{l:List (κ×AV)}{m:List (κ×Value)}{k:κ}{v:AV}{cv:Value}(x:DR h l m)(y:VR h v cv):DR h (l++[(k,v)]) (m++[(k,cv)]):=
 x.ind (P:=fun l m=>DR h (l++[(k,v)]) (m++[(k,cv)])) (DR.cons (p:=(k,v)) (l:=[]) (r:=[]) y rfl) fun _ cu _ _ u _ q=>DR.cons u q
theorem DR.put{l:List (κ×AV)}{m:List (κ×Value)}{k:κ}{v:AV}{cv:Value}(x:DR h l m)(y:VR h v cv):DR h (zF l k v) (stored m k cv):=by
 delta zF stored
 rw[x.any k]
 split
 ·exact x.map k y
 ·exact x.snoc y
end
def vQ(C:Cx)(Z:Sig)(a:Addr)(l:List AV):Prop:=C.ro a=some l∨Z a=some (.list l)
noncomputable def pick(l:List AV)(i:Int):Option AV:=(seqIndex? i l.length).bind (l[·]?)
noncomputable def cut{α:Type}(l:List α)(lo hi:Option Int):List α:=(l.drop (kms_lo lo l.length)).take (kms_hi hi l.length-kms_lo lo l.length)
noncomputable def vH(x:Str)(lo hi:Option Int):Str:=⟨(cut x.cps.toList lo hi).toArray⟩
def yf(x y:AV)(Z:Sig)(Ψ:K1):Prop:=on x (t:=fun l=>on y (i:=fun i=>∃v,pick l i=some v∧i.natAbs<2^62∧Ψ v Z)) (s:=fun s=>on y (i:=fun i=>∃c,(seqIndex? i s.length).bind (s.cps[·]?)=some c∧i.natAbs<2^62∧Ψ (.str ⟨#[c]⟩) Z))
 (r:=fun a=>on y (i:=fun i=>∃l v,Z a=some (.list l)∧pick l i=some v∧i.natAbs<2^62∧Ψ v Z) (s:=fun k=>∃l v,Z a=some (.dS l)∧dAt l k=some v∧Ψ v Z))
def zM(C:Cx)(x:AV)(lo hi:Option Int)(Z:Sig)(Ψ:K1):Prop:=on x (s:=fun s=>s.length≤1000∧Ψ (.str (vH s lo hi)) Z) (r:=fun a=>∃l,vQ C Z a l∧l.length≤1000∧∀c,Z c=none->Ψ (.ref c) (upd Z c (.list (cut l lo hi))))
def zN(x:AV)(Θ:Option Int->Prop):Prop:=on x (n:=Θ none) (i:=fun i=>Θ (some i))
section
variable {F:Fm} {loc:Loc} {Z:Sig} {z:St} {x y:AV} {a b:Value} {Ψ:K1}
theorem wN(R:F.Rel loc Z z.g){a:Addr}{l:List AV}(h:vQ F.C Z a l):∃vs n,z.s.heap.get? a=some {cls:=.type "list",data:=.seq vs n}∧VRs z.g l vs.toList:=by
 refine Or.elim h (fun h=> ?_) fun h=> ?_
 ·refine ky (fun vs n e' v=> ?_) (F.C.roK _ _ h);exact ⟨vs,n,R.hr.top _ _ e',v z.g⟩
 ·refine ky (fun vs n e' v=> ?_) (R.hr.obj _ _ h);exact ⟨vs,n,e',v⟩
theorem vW(R:F.Rel loc Z z.g)(h:Z d=some o):(d==sysModules)=false:=by
 rw[beq_eq_false_iff_ne]
 rintro rfl
 exact F.C.mods (R.hr.off _ (by delta dom;rw[h];simp))
theorem zY(h:seqIndex? i n=some j):j<n∧((0≤i∧i.toNat=j)∨(i<0∧-(n:Int)≤i∧(i+n).toNat=j)):=by
 delta seqIndex? at h
 by_cases h0:i<0
 ·simp only[h0,if_true]at h
  split at h
  ·rename_i hc;simp only[Bool.and_eq_true,decide_eq_true_eq]at hc;cases h;exact ⟨by lia,.inr ⟨h0,by lia,rfl⟩⟩
  ·cases h
 ·simp only[h0,if_false]at h
  split at h
  ·rename_i hc;simp only[Bool.and_eq_true,decide_eq_true_eq]at hc;cases h;exact ⟨by omega,.inl ⟨by omega,rfl⟩⟩
  ·cases h
theorem Ym(h:pick l i=some v):∃j,seqIndex? i l.length=some j∧l[j]? =some v:=by
 delta pick at h
 cases e:seqIndex? i l.length with
 |none=>rw[e]at h;cases h
 |some j=>rw[e]at h;exact ⟨j,rfl,h⟩
theorem VRs.at'{h:Gh}{l:List AV}{vs:List Value}(x:VRs h l vs){j:Nat}{v:AV}(e:l[j]? =some v):∃cv,vs[j]? =some cv∧VR h v cv:=by
 refine kg ?_ (List.getElem?_eq_some_iff.mp e);rintro hj rfl
 have hl:=x.length
 refine kg (fun _ q=> ?_) (x.get j (by omega))
 exact ⟨vs[j],by simp,q⟩
theorem jcf(R:F.Rel loc Z z.g)(tk:TOk z)(hx:VR z.g x a)(hy:VR z.g y b)(h:yf x y Z Ψ):kK F (getItem a b) loc Z z Ψ:=by
 refine jx h hx False.elim z1 z2 z4 (fun s t _ _ h=>jx h hy False.elim z1 (fun i u h=> ?_) z4 z4 z1 zt zt) (fun ad h=>jx h hy False.elim z1 (fun i u h=> ?_) z4 (fun k u _ _ h=> ?_) z1 zt zt) (fun l hx h=>jx h hy False.elim z1 (fun i t h=> ?_) z4 z4 z1 zt zt) zt
 ·skip
  refine jX (fun c hp hi h=> ?_) h
  exact jF R tk h fun Q E q=>PyProof.Rows.getItem_str (by simp;omega) hp (q _ _ _ (.put tk (Nat.le_refl _) (Nat.lt_succ_self _) _) (wZ (Nat.ne_of_gt tk.pos) kR))
 ·skip
  obtain ⟨l,v,hl,hp,hi,h⟩:=h
  obtain ⟨vs,n,e1,v1⟩:=R.hr.obj _ _ hl
  obtain ⟨j,hj,hv⟩:=Ym hp
  obtain ⟨cv,hc,hr⟩:=v1.at' hv
  have hl:=v1.length;simp only[Array.length_toList]at hl
  have I1:z.s.heap.IsList ad vs:=⟨_,e1,rfl,n,rfl⟩
  obtain ⟨_,hcase⟩:=zY hj
  rcases hcase with ⟨h0,e⟩|⟨h0,hlo,e⟩
  ·exact jF R tk h fun Q E q=>wpAny_getItem_list I1 h0 (by lia) (by rw[e];simpa using hc) (q _ _ _ (.same tk (Nat.le_refl _)) hr)
  ·exact jF R tk h fun Q E q=>wpAny_getItem_list_neg I1 h0 (hl▸hlo) (by grind) (by rw[hl,e];simpa using hc) (q _ _ _ (.same tk (Nat.le_refl _)) hr)
 ·skip
  obtain ⟨l,v,hl,hf,h⟩:=h
  obtain ⟨m,hm',hg⟩:=R.hr.obj _ _ hl
  have hm:=hm'.mapOf
  have:=hg.at k;rw[hf]at this
  obtain ⟨cv,e,hr⟩:=this
  exact jF R tk h fun Q E q=>wpAny_getItem_slot hm.typeIs rfl PySem.F.slot_dict_getitem
   (call_meetsIn PySem.F.slot_dict_getitem hm.typeIs PySem.F.entry_dict_getitem (PySem.F.args_dict_getitem_2 _ _) (meets_dict_getitem (PySem.strKind F.C.prog F.C.w) (k:=k) ad qv) ⟨_,cv,hm,e,q _ _ _ (.same tk (Nat.le_succ _)) hr⟩)
 ·skip
  obtain ⟨v,hp,hi,h⟩:=h
  obtain ⟨ax,vs,n,rfl,h1,h4⟩:=hx
  obtain ⟨j,hj,hv⟩:=Ym hp
  obtain ⟨cv,hc,hr⟩:=h4.at' hv
  have hl:=h4.length;simp only[Array.length_toList]at hl
  exact jF R tk h fun Q E q=>getItem_meets ⟨_,h1,rfl⟩ rfl PySem.F.slot_tuple_getitem PySem.F.entry_tuple_getitem (PySem.F.args_tuple_getitem_2 _ _)
   (MeetsSeq.tuple_getitem_at ax vs n i t j cv (by omega) (by omega) (hl▸hj) (by simpa using hc)) ⟨h1,q _ _ _ (.same tk (Nat.le_refl _)) hr⟩
theorem X5(slice:PySem.Expr)(o i:Value):∃ops,subscripted slice false o i=operate ops (getItem o i):=by
 cases slice with
 |Slice a b c p=>cases c with
  |none=>exact ⟨_,rfl⟩
  |some c=>exact ⟨_,rfl⟩
 |_=>exact ⟨_,rfl⟩
def qM(s:Shared)(v:Value):Prop:=∃T id,s.TypeIs v T∧typeLookup (.type T) "__getitem__" =pure (some (.builtin id))
theorem jb4{s:Shared}{x:Str}{t:Tok}:qM s (.str x t):=⟨"str",_,rfl,PySem.F.slot_str_getitem.lookup⟩
theorem YD(R:F.Rel loc Z z.g){ad:Addr}{l:List AV}(e:vQ F.C Z ad l):qM z.s (.ref ad):=ky (fun _ _ e1 _=>⟨"list",_,⟨_,e1,rfl⟩,slot_list_getitem.lookup⟩) (wN R e)
theorem gt_dict(R:F.Rel loc Z z.g){ad:Addr}{l:List (Str×AV)}(e:Z ad=some (.dS l)):qM z.s (.ref ad):=jp (fun _ hm _=>⟨"dict",_,hm.typeIs,PySem.F.slot_dict_getitem.lookup⟩) (R.hr.obj _ _ e)
theorem gt_tup(hx:VR z.g (.tup l) a):qM z.s a:=by obtain ⟨ax,vs,n,rfl,h1,_⟩:=hx;exact ⟨"tuple",_,⟨_,h1,rfl⟩,PySem.F.slot_tuple_getitem.lookup⟩
theorem gt_item(R:F.Rel loc Z z.g)(hx:VR z.g x a)(hy:VR z.g y b)(h:yf x y Z Ψ):qM z.s a:=
 jx h hx False.elim z1 z2 z4 (fun _ _ _ _ _=>jb4) (fun ad h=>jx (P:=fun _=>qM z.s (.ref ad)) h hy False.elim z1 (fun _ _ h=>ky (fun l v e _=>YD R (.inr e)) h) z4 (fun _ _ _ _ h=>ky (fun l v e _=>gt_dict R e) h) z1 zt zt) (fun l hl _=>gt_tup hl) zt
theorem jb5{lo hi:Option Int}(R:F.Rel loc Z z.g)(hx:VR z.g x a)(h:zM F.C x lo hi Z Ψ):qM z.s a:=
 jx h hx False.elim z1 z2 z4 (fun _ _ _ _ _=>jb4) (fun ad h=>jp (fun l e _=>YD R e) h) zt zt
theorem jce{value slice:PySem.Expr}{T id:String}(hT:z.s.TypeIs a T)(hl:typeLookup (.type T) "__getitem__" =pure (some (.builtin id)))(h:kK F (getItem a b) loc Z z Ψ):kK F (subscriptTail value slice a b) loc Z z Ψ:=fun Q E q=>by
 refine kg (fun ops e=> ?_) (X5 slice a b)
 exact tail_any hT hl (h Q E q) e
theorem zm(lo hi:Option Int)(n:Nat):Builtin.Str.strSliceIndices lo hi 1 n=(List.range (kms_hi hi n-kms_lo lo n)).map (kms_lo lo n+·):=by
 rw[←sliceRange_one]
 delta Builtin.Str.strSliceIndices
 have h1:(1:Int)>0:=by decide
 simp only[h1,if_true]
 congr 1
 ·cases lo with
  |none=>simp[kms_lo]
  |some x=>
   by_cases h:x<0
   ·simp only[h,if_true,kms_lo];lia
   ·simp only[h,if_false,kms_lo];lia
 ·cases hi with
  |none=>simp[kms_hi]
  |some x=>
   by_cases h:x<0
   ·simp only[h,if_true,kms_hi];lia
   ·simp only[h,if_false,kms_hi];lia
theorem Zw(hi:Option Int)(n:Nat):kms_hi hi n≤n:=by
 delta kms_hi;split
 ·exact Nat.le_refl _
 ·split<;>omega
theorem VRs.drop{l:List AV}:∀{vs:List Value} (k:Nat),VRs h l vs->VRs h (l.drop k) (vs.drop k):=by
 induction l with
 |nil=>intro vs k x;subst x;rw[List.drop_nil,List.drop_nil];rfl
 |cons a l ih=>
  intro vs k x
  cases k with
  |zero=>exact x
  |succ k=>refine qb (fun v r e _ q=> ?_) x;subst e;exact ih k q
theorem VRs.take{l:List AV}:∀{vs:List Value} (k:Nat),VRs h l vs->VRs h (l.take k) (vs.take k):=by
 induction l with
 |nil=>intro vs k x;subst x;rw[List.take_nil,List.take_nil];rfl
 |cons a l ih=>
  intro vs k x
  cases k with
  |zero=>rfl
  |succ k=>refine qb (fun v r e p q=> ?_) x;subst e;exact .cons p (ih k q)
theorem VRs.cut{h:Gh}{l:List AV}{vs:List Value}{lo hi:Option Int}(x:VRs h l vs):VRs h (Mine.Internal.cut l lo hi) (Mine.Internal.cut vs lo hi):=by
 delta Mine.Internal.cut
 rw[x.length]
 exact (x.drop _).take _
theorem Og(x:Str)(lo hi:Option Int):(Builtin.Str.strSliceIndices lo hi 1 x.length).filterMap (x.cps[·]?)=cut x.cps.toList lo hi:=by
 rw[zm,pick_run]
 delta cut
 simp[Str.length]
theorem ZD{lo hi:Option Int}{lv hv:Value}{sl:Addr}(R:F.Rel loc Z z.g)(tk:TOk z)(hx:VR z.g x a)(hs:∃o,z.s.heap.get? sl=some o∧o.cls=.type "slice" ∧o.data=.fields #[lv,hv,.none])
  (hl:IsPart lv lo) (hh:IsPart hv hi) (h:zM F.C x lo hi Z Ψ):kK F (getItem a (.ref sl)) loc Z z Ψ:=by
 refine jx h hx False.elim z1 z2 z4 (fun s t ht0 hT h=> ?_) (fun ad h=> ?_) zt zt
 ·obtain ⟨hlen,h⟩:=h
  obtain ⟨pl,hpl,epl⟩:∃pl:Option (Int×Tok),lv=partValue pl∧pl.map (·.1)=lo:=by
   cases hl with
   |none=>exact ⟨none,rfl,rfl⟩
   |int i t=>exact ⟨some (i,t),rfl,rfl⟩
  obtain ⟨ph,hph,eph⟩:∃pl:Option (Int×Tok),hv=partValue pl∧pl.map (·.1)=hi:=by
   cases hh with
   |none=>exact ⟨none,rfl,rfl⟩
   |int i t=>exact ⟨some (i,t),rfl,rfl⟩
  subst hpl;subst hph
  refine jF R tk h fun Q E q=>wpAny_getItem_str_slice (l:=pl) (u:=ph) (st:=none) hs rfl ?_
  delta sliceMade slicePicked
  rw[epl,eph]
  have e:=Og s lo hi
  split
  ·rename_i hc
   refine q _ _ _ (.same tk (Nat.le_refl _)) ?_
   have e2:vH s lo hi=s:=by
    have h3:(Builtin.Str.strSliceIndices lo hi 1 s.length).length=s.length:=by
     simp at hc;exact hc
    rw[zm]at h3
    simp at h3
    have h4:=Zw hi s.length
    delta vH cut
    have h5:s.cps.toList.length=s.length:=by simp[Str.length]
    rw[h5]
    by_cases h0:s.length=0
    ·have:s.cps.toList=[]:=List.eq_nil_of_length_eq_zero (by lia)
     rw[this];simp
     cases s;simp at this;simp[this]
    ·rw[show kms_lo lo s.length=0 by lia,show kms_hi hi s.length-0=s.length by lia,List.drop_zero,←h5,List.take_length]
   rw[e2];exact wZ ht0 hT
  ·have e3:(Str.mk ((Builtin.Str.strSliceIndices lo hi 1 s.length).filterMap (s.cps[·]?)).toArray)=vH s lo hi:=by rw[e];rfl
   refine ⟨?_,?_⟩
   ·have hb:=jH
    have:((Builtin.Str.strSliceIndices lo hi 1 s.length).filterMap (s.cps[·]?)).length≤s.length:=Nat.le_trans (List.length_filterMap_le _ _) (sliceIndices_le lo hi s.length)
    show ((Builtin.Str.strSliceIndices lo hi 1 s.length).filterMap (s.cps[·]?)).toArray.size≤sizeLine
    rw[List.size_toArray];lia
   ·have:=q (.str (vH s lo hi) z.s.toks) _ _ (.put tk (Nat.le_refl _) (Nat.lt_succ_self _) _) (wZ (Nat.ne_of_gt tk.pos) kR)
    rw[←e3]at this
    exact this
 ·obtain ⟨l,hl1,hlen,h⟩:=h
  obtain ⟨vs,n,e1,v1⟩:=wN R hl1
  have hlv:=v1.length;simp only[Array.length_toList]at hlv
  have I1:z.s.heap.IsList ad vs:=⟨_,e1,rfl,n,rfl⟩
  refine Kv R tk h fun Q E q=>wpAny_getItem_list_slice I1 hs hl hh .none (by simp) (q _ _ _ _ (.same tk (Nat.le_refl _)) (Ext.push _ _) (jB _) ?_) (by have:=jH;lia)
  refine ⟨_,0,Heap.get?_push_size _ rfl,?_⟩
  rw[kms_pick_eq,List.toList_toArray]
  exact (VRs.cut (lo:=lo) (hi:=hi) v1).imm (h:=z.g) (Ext.imm (h:=z.g) (h':=⟨_,z.T⟩) (Ext.push _ _) (.refl _))
end
end
section
section
variable {F:Fm} {loc:Loc} {Z:Sig} {z:St} {x y:AV} {a b:Value} {Ψ:K1}
def qL(M:Model)(f:Value)(h:Heap):Prop:=∃k,(k=Keeper.frame∨k=Keeper.machine∨k=Keeper.boundFrame)∧Looks M h (keeperOf f) k
theorem qq{Θ:List AV->Sig->Prop}(R:F.Rel loc Z z.g)(hp:trees.any (·.1)=false)
  (hk:∀z':St,Imm z.g z'.g->F.C.K.In z'.s.heap->qL F.M f z'.s.heap) (tk:TOk z) (h0:trees=[]->Θ [] Z) (ha:EvL F (spliced trees) loc Z z Θ)
  (k:∀xs Zw1 vs zw1,Θ xs Zw1->F.Rel loc Zw1 zw1.g->Imm z.g zw1.g->TOk zw1->VRs zw1.g xs vs->kK F (call f (first++vs) []) loc Zw1 zw1 Ψ):kK F (callWith pos f first trees []) loc Z z Ψ:=fun Q E q=>by
 refine callWith_of (P:=qL F.M f) (by rw[hp];rfl) (fun h hh=>hh) ?_
 have body:wpAny F.M F.A (spliced trees) (fun vs sw1=>qL F.M f sw1.heap∧wpAny F.M F.A (call f (first++vs) []) Q E sw1) E z.s:=
  ha _ E fun xs Zw1 vs zw1 p Rw1 st tk v=>⟨hk zw1 (st.imm R) Rw1.hr.top,k xs Zw1 vs zw1 p Rw1 (st.imm R) tk v Q E fun av Zw2 cv zw2 pw2 Rw2 stw2 tkw2 vw2=>q av Zw2 cv zw2 pw2 Rw2 (st.trans stw2) tkw2 vw2⟩
 cases trees with
 |nil=>exact evalArgs_nil3 ⟨hk z (.refl _) R.hr.top,k [] Z [] z (h0 rfl) R (.refl _) tk (by rfl) Q E q⟩
 |cons t rest=>
  obtain ⟨st,t⟩:=t
  have h1:st=false:=by rw[List.any_cons,Bool.or_eq_false_iff]at hp;exact hp.1
  subst h1
  exact Calls.evalArgs_plain body
theorem qB(h:∀f a k p,o≠.Call f a k p):attributeBase o name env w=w:=by
 cases o<;>first|rfl|exact absurd rfl (h _ _ _ _)
def Meth(F:Fm)(a:Value)(name:Str)(f:Value)(first:List Value)(z:St):Prop:=
 ∀(pl:Sem Bool) (Q:Value×List Value->Shared->Prop) (E:Value->Shared->Prop),Q (f,first) z.s->wpAny F.M F.A (getMethod a name pl) Q E z.s
theorem mcf{n:Nat}{l:List (Bool×Sem Value)}(hn:n<25)(hp:l.any (·.1)=false):methodCallForm (n+0) l []=true:=by
 have:l.all (fun x=> !x.1)=true:=by
  rw[List.all_eq_true];intro x hx
  rw[List.any_eq_false]at hp
  simpa using hp x hx
 show (l.all _&&true&&decide (n+0<30))=true
 rw[this]
 exact decide_eq_true (Nat.lt_of_lt_of_le hn (by decide))
theorem Kx(R:F.Rel loc Z z.g)(ho:∀f a k p,o≠.Call f a k p)(hn:args.length<25)(hp:(backTo pos (starEach args F.env)).any (·.1)=false)(hline:(apos.endLine==pos.line)=true)
  (h:kK F (eval o F.env) loc Z z Θ)
  (k:∀x Zw1 a zw1,Θ x Zw1->F.Rel loc Zw1 zw1.g->TOk zw1->VR zw1.g x a->∃f first,Meth F a name f first zw1∧kK F (callWith pos f first (backTo pos (starEach args F.env)) []) loc Zw1 zw1 Ψ):
  kK F (eval (.Call (.Attribute o name apos) args [] pos) F.env) loc Z z Ψ:=by
 refine EvG.of_eq (arm_eval_Call ..) ?_
 rw[qB ho]
 refine EvG.bind h fun x Zw1 a zw1 p Rw1 st tk v=>EvG.standAt ?_
 refine ky (fun f first hm hc=> ?_) (k x Zw1 a zw1 p Rw1 tk v)
 intro Q E q
 delta methodCall
 rw[show methodCallForm (args.length+([]:List Keyword).length) (backTo pos (starEach args F.env)) (backToKw pos (keywordEach [] F.env))=true from mcf hn hp]
 refine wpAny_bind (wpAny_holding (hm _ _ _ ?_))
 exact wpAny_bind (wpAny_of_eq (by delta methodCallPos;simp[hline]) (hc Q E q))
end
end
section
noncomputable def Km:List AV->Option (List Int)
 |[]=>some []
 | .int i::l=>(Km l).map (i::·)
 |_::_=>none
noncomputable def O2:List AV->Option (List Str)
 |[]=>some []
 | .str i::l=>(O2 l).map (i::·)
 |_::_=>none
def wB(C:Cx)(b:Bn)(xs:List AV)(Z:Sig)(Ψ:K1):Prop:=match b with
 | .len=>on1 xs fun x=>on x (s:=fun s=>s.length≤1000∧Ψ (.int s.length) Z) (r:=fun a=>∃l,vQ C Z a l∧l.length≤1000∧Ψ (.int l.length) Z)
 | .min=>on2 xs fun x y=>on x (i:=fun a=>on y (i:=fun b=>Ψ (.int (if b<a then b else a)) Z))
 | .sum=>on1 xs fun x=>on x (r:=fun a=>∃l ns,vQ C Z a l∧Km l=some ns∧Ψ (.int ns.sum) Z)
 | .append=>on2 xs fun x v=>on x (r:=fun a=>∃l,Z a=some (.list l)∧l.length≤1000∧Ψ .none (upd Z a (.list (l++[v]))))
 | .pop=>on1 xs fun x=>on x (r:=fun a=>∃l v,Z a=some (.list (l++[v]))∧l.length≤1000∧Ψ v (upd Z a (.list l)))
 | .dget=>on3 xs fun x y v=>on x (r:=fun d=>on y (i:=fun k=>∃l,Z d=some (.dI l)∧Ψ ((dAt l k).getD v) Z) (s:=fun k=>∃l,Z d=some (.dS l)∧Ψ ((dAt l k).getD v) Z))
 | .dsetd=>on3 xs fun x y v=>on x (r:=fun d=>on y (s:=fun k=>∃l,Z d=some (.dS l)∧l.length≤1000∧(∀u,dAt l k=some u->Ψ u Z)∧(dAt l k=none->Ψ v (upd Z d (.dS (l++[(k,v)]))))))
 | .dhas=>on2 xs fun x y=>on x (r:=fun d=>on y (s:=fun k=>∃l,Z d=some (.dS l)∧Ψ (.bool (dAt l k).isSome) Z))
 | .shas=>on2 xs fun x y=>on x (r:=fun d=>on y (s:=fun _=>Z d=some .set0∧Ψ (.bool false) Z))
 | .join=>on2 xs fun x y=>on x (s:=fun s=>on y (r:=fun a=>∃l ys,Z a=some (.list l)∧O2 l=some ys∧2≤ys.length∧(ys.map (·.length)).sum+ys.length*s.length≤1000∧Ψ (.str (Txt.join s ys)) Z))
 | .count=>on2 xs fun x y=>on x (s:=fun s=>on y (s:=fun y=>Ψ (.int (Txt.count s y)) Z))
 |_=>False
section
variable {F:Fm} {loc:Loc} {Z:Sig} {z:St} {x y:AV} {a b:Value} {Ψ:K1}
theorem ints_at:∀{l:List AV} {vs:List Value} {ns:List Int},VRs h l vs->Km l=some ns->∃xs:List (Int×Tok),vs=xs.map (fun p=>Value.int p.1 p.2)∧xs.map (·.1)=ns:=by
 intro v__
 induction v__ with
 |nil=>
  intro _ _ x e
  subst x;cases e;exact ⟨[],rfl,rfl⟩
 |cons c l ih=>
  intro _ ns x e
  obtain ⟨v,r,rfl,p,q⟩:=x
  cases c<;>try cases e
  obtain ⟨ms,e1,e2⟩:=Option.map_eq_some_iff.mp e
  obtain ⟨xs,h1,h2⟩:=ih q e1
  obtain ⟨t,rfl⟩:=p
  subst h1;subst h2;subst e2
  exact ⟨(_,t)::xs,rfl,rfl⟩
theorem strs_at:∀{l:List AV} {vs:List Value} {ns:List Str},VRs h l vs->O2 l=some ns->∃xs:List (Str×Tok),vs=strValues xs∧xs.map (·.1)=ns:=by
 intro v__
 induction v__ with
 |nil=>
  intro _ _ x e
  subst x;cases e;exact ⟨[],rfl,rfl⟩
 |cons c l ih=>
  intro _ ns x e
  obtain ⟨v,r,rfl,p,q⟩:=x
  cases c<;>try cases e
  obtain ⟨ms,e1,e2⟩:=Option.map_eq_some_iff.mp e
  obtain ⟨xs,h1,h2⟩:=ih q e1
  obtain ⟨t,rfl,_⟩:=p
  subst h1;subst h2;subst e2
  exact ⟨(_,t)::xs,rfl,rfl⟩
theorem VRs.two(k:VRs h [x,y] vs):∃a b,vs=[a,b]∧VR h x a∧VR h y b:=by
 obtain ⟨a,_,rfl,p,b,_,rfl,q,rfl⟩:=k
 exact ⟨a,b,rfl,p,q⟩
theorem VRs.one(k:VRs h [x] vs):∃a,vs=[a]∧VR h x a:=by
 refine qb ?_ k;rintro a _ rfl p rfl
 exact ⟨a,rfl,p⟩
theorem VRs.three(k:VRs h [x,y,u] vs):∃a b c,vs=[a,b,c]∧VR h x a∧VR h y b∧VR h u c:=by
 obtain ⟨a,_,rfl,p,b,_,rfl,q,c,_,rfl,r,rfl⟩:=k
 exact ⟨a,b,c,rfl,p,q,r⟩
theorem U4(xs:List (Int×Tok)):preSum (numAt xs.toArray) xs.toArray.size=(xs.map (·.1)).sum:=by
 have key:∀(k:Nat),k≤xs.length->preSum (numAt xs.toArray) k=((xs.map (·.1)).take k).sum:=by
  intro k hk
  induction k with
  |zero=>simp[preSum]
  |succ k ih=>
   have hlt:k<xs.length:=by lia
   rw[preSum,ih (by lia),List.take_add_one]
   simp[numAt,hlt]
 rw[List.size_toArray,key _ (Nat.le_refl _),List.take_of_length_le (by simp)]
theorem wM(hr:Oq h f g)(hv:VR h v cv):VR h (f.getD v) (g.getD cv):=by
 cases f with
 |none=>have:g=none:=hr;subst this;exact hv
 |some u=>refine jp (fun cu e hu=> ?_) hr;subst e;exact hu
theorem zn(hr:Oq h f g):g.isSome=f.isSome:=by
 cases f with
 |none=>have:g=none:=hr;subst this;rfl
 |some u=>refine jp (fun cu e hu=> ?_) hr;subst e;rfl
theorem zs{prog:Program}{w:World}{A:Around}{E:Value->Shared->Prop}{s:Shared}{K:Type}[DecidableEq K]{knd:KeyKind prog w K}{d:Addr}{kvs:List (K×Value)}{k:K}{key dflt:Value}{Q:Value->Shared->Prop}(hkey:knd.is k key=true)(hm:s.heap.DictOf knd d kvs)
  (hthere:∀v,valueAt kvs k=some v->Q v {s with toks:=s.toks+1})
  (hnew:valueAt kvs k=none->∀h',h'.DictOf knd d (kvs++[(k,dflt)])->Heap.SameBut d s.heap h'->Q dflt {s with heap:=h',toks:=s.toks+1}) (hsz:kvs.length≤sizeLine):
  wpAny (model prog w) A (dictSetDefault d key dflt) Q E s:=by
 have hf:=hm.mapOf
 refine ZO (fun o es ep ho hc hd hk hp hn=> ?_) hm
 have hes:es.size≤sizeLine:=by
  have e1:=hp.length
  have e2:es.toList.length=es.size:=by simp
  lia
 have hfk0:findBy knd.is es k=valueAt kvs k:=by
  refine ZP (fun o' es' ep' ho' _ hd' _ hf'=> ?_) hf
  cases ho.symm.trans ho'
  cases hd.symm.trans hd'
  exact hf' k
 delta dictSetDefault
 try with_reducible refine wpAny_holding ?_
 refine wpAny_bind (knd.pyHash hkey ?_)
 refine wpAny_bind (wpAny_dictFind_of (s:={s with toks:=s.toks+1}) hkey ho hd hk ?_)
 have hidx:(es.findIdx? fun e=>knd.is k e.key)=kvs.findIdx? fun kv=>decide (kv.1=k):=by
  rw[←hp.findIdx k];obtain ⟨l⟩:=es;simp
 cases hi:es.findIdx? fun e=>knd.is k e.key with
 |some i=>
  have hfk:valueAt kvs k=(es[i]?).map (·.val):=by rw[←hfk0,findBy_of_findIdx?,hi]
  refine wpAny_bind (wpAny_dictEntries (s:={s with toks:=s.toks+1}) ho hd ?_)
  cases he:es[i]? with
  |none=>
   exfalso
   have:=Array.findIdx?_eq_some_iff_findIdx_eq.mp hi
   have hlt:i<es.size:=this.1
   rw[Array.getElem?_eq_getElem hlt]at he
   exact nomatch he
  |some e=>
   rw[he]at hfk
   exact wpAny_bind (wpAny_rule (wpAny_pure (hthere e.val hfk)))
 |none=>
  have hfk:valueAt kvs k=none:=by rw[←hfk0,findBy_of_findIdx?,hi]
  have hnot:k∉kvs.map (·.1):=not_mem_of_findIdx_none (hidx▸hi)
  refine wpAny_bind (wpAny_rule (wpAny_bind (wpAny_updateDictKeys (hz:=hes) (s:={s with toks:=s.toks+1}) ho hd (wpAny_pure (hnew hfk _ ⟨_,_,ep+1,Heap.get?_update_self _ ho (Obj.isFreed_of_dict (Obj.data_mapDictKeys hd _)),
   hc.mapDictKeys _,Obj.data_mapDictKeys hd _,hk.push hkey _,?_,?_⟩ (Heap.SameBut.update ..))))))
  ·have:=hp.append hkey (knd.hash k) dflt
   obtain ⟨l⟩:=es
   simpa using this
  ·rw[List.map_append,List.nodup_append]
   refine ⟨hn,by simp,?_⟩
   intro a ha b hb
   simp only[List.map_cons,List.map_nil,List.mem_singleton]at hb
   subst hb
   exact fun e=>hnot (e▸ha)
theorem ev_B(id:Bn){xs:List AV}{vs:List Value}(R:F.Rel loc Z z.g)(tk:TOk z)(hv:VRs z.g xs vs)(h:wB F.C id xs Z Ψ):kK F (call (.builtin id.id) vs) loc Z z Ψ:=by
 cases id with
 |len=>
  refine V1 h hv fun x a hx h=>jx h hx False.elim z1 z2 z4 (fun s t _ _ h=> ?_) (fun ad h=> ?_) zt zt
  ·exact jF R tk h.2 fun Q E q=>PyProof.Rows.len_str (by lia) (q _ _ _ (.same tk (Nat.le_succ_of_le (Nat.le_succ _))) kQ)
  ·refine jX (fun l hl hle h=> ?_) h
   refine ky (fun ws n e1 v1=> ?_) (wN R hl)
   have hlen:=v1.length;simp only[Array.length_toList]at hlen
   exact jF R tk h fun Q E q=>Calls.call_len_list ⟨_,e1,rfl,n,rfl⟩ (by lia) (q _ _ _ (.same tk (Nat.le_succ_of_le (Nat.le_succ _))) (by rw[hlen];exact kQ))
 |min=>
  refine ww h hv fun x y a b hx hy h=>Kn h hx hy fun i j t u h=> ?_
  ·refine v9 R tk h fun Q E q=>wpAny_with_toks (Nat.le_refl z.s.toks) (min_two_ints F.hh fun h' n hk hn=>q _ h' n z.T (.same tk hn) hk ?_)
   split<;>exact kQ
 |sum=>
  refine V1 h hv fun x a hx h=>jx h hx False.elim z1 z2 z4 z4 (fun ad h=> ?_) zt zt
  ·refine qb (fun l ns hl hn h=> ?_) h
   refine ky (fun ws n e1 v1=> ?_) (wN R hl)
   refine jp (fun ps h1 h2=> ?_) (ints_at v1 hn)
   have hws:ws=intItems ps.toArray:=by
    apply Array.ext'
    rw[h1];simp[intItems]
   subst hws
   refine v9 R tk h fun Q E q=>wpAny_with_toks (Nat.le_refl z.s.toks) (sum_intListG F.hh ⟨_,e1,rfl,n,rfl⟩ fun h' k t' hk hn=>q _ h' k z.T (.same tk hn) hk ?_)
   rw[U4,h2];exact kQ
 |append=>
  refine ww h hv fun x y a b hx hb h=>jx h hx False.elim z1 z2 z4 z4 (fun ad h=> ?_) zt zt
  ·refine jX (fun l hl hle h=> ?_) h
   refine ky (fun ws n e1 v1=> ?_) (R.hr.obj _ _ hl)
   have hlen:=v1.length;simp only[Array.length_toList]at hlen
   refine v8 R tk (by delta dom;rw[hl];simp) h fun Q E q=>wpAny_list_append_plain ⟨n,e1⟩ (fun h' hp hs=>q _ h' _ z.T (.same tk (Nat.le_refl _)) hs fun im=>⟨?_,vT⟩) (by have:=jH;lia)
   refine kg (fun n' e2=> ?_) hp
   refine ⟨_,n',e2,?_⟩
   rw[Array.toList_push]
   exact (v1.imm im).append (.cons (hb.imm im) rfl)
 |pop=>
  refine V1 h hv fun x a hx h=>jx h hx False.elim z1 z2 z4 z4 (fun ad h=> ?_) zt zt
  ·refine qb (fun l v hl hle h=> ?_) h
   refine ky (fun ws n e1 v1=> ?_) (R.hr.obj _ _ hl)
   refine jp (fun cv hc hr=> ?_) (v1.at' (j:=l.length) (v:=v) (by simp))
   have hlen:=v1.length;simp only[Array.length_toList,List.length_append,List.length_singleton]at hlen
   refine v8 R tk (by delta dom;rw[hl];simp) h fun Q E q=>call_meets PySem.F.slot_list_pop ⟨_,e1,rfl⟩ PySem.F.entry_list_pop (PySem.F.args_list_pop_1 _) (MeetsSeq.list_pop_last ad ws n cv (by rw[hlen];simpa using hc) (by have:=jH;lia)) ⟨e1,?_⟩
   refine q _ _ _ z.T (.same tk (Nat.le_refl _)) (Heap.SameBut.update ..) fun im=>⟨?_,hr.imm im⟩
   refine ⟨ws.eraseIdxIfInBounds (ws.size-1),_,Heap.get?_update_self _ e1 rfl,?_⟩
   have e3:(ws.eraseIdxIfInBounds (ws.size-1)).toList=ws.toList.take l.length:=by
    obtain ⟨wl⟩:=ws
    simp only[List.size_toArray]at hlen
    simp only[List.eraseIdxIfInBounds_toArray,List.size_toArray]
    rw[hlen,Nat.add_sub_cancel,List.eraseIdx_eq_take_drop_succ]
    rw[List.drop_of_length_le (by lia),List.append_nil]
   rw[e3]
   have:=(v1.take l.length).imm im
   rwa [List.take_left']at this
   rfl
 |dget=>
  refine V0 h hv fun x y u a b c hx hy hc h=>jx h hx False.elim z1 z2 z4 z4 (fun ad h=>jx h hy False.elim z1 (fun k t h=> ?_) z4 (fun k t _ _ h=> ?_) z1 zt zt) zt zt
  ·refine jp (fun l hl h=> ?_) h
   refine jp (fun m hm hg=> ?_) (R.hr.obj _ _ hl)
   refine jF R tk h fun Q E q=>call_meetsIn PySem.F.slot_dict_get hm.typeIs PySem.F.entry_dict_get (PySem.F.args_dict_get_3 _ _ _) (meets_dict_get_default (PySem.intKind F.C.prog F.C.w) _ V7 (vW R hl) c) ⟨_,hm.mapOf,q _ _ _ (.same tk (Nat.le_succ _)) ?_⟩
   exact wM (hg.at _) hc
  ·refine jp (fun l hl h=> ?_) h
   refine jp (fun m hm hg=> ?_) (R.hr.obj _ _ hl)
   refine jF R tk h fun Q E q=>call_meetsIn PySem.F.slot_dict_get hm.typeIs PySem.F.entry_dict_get (PySem.F.args_dict_get_3 _ _ _) (meets_dict_get_default (PySem.strKind F.C.prog F.C.w) _ qv (vW R hl) c) ⟨_,hm.mapOf,q _ _ _ (.same tk (Nat.le_succ _)) ?_⟩
   exact wM (hg.at _) hc
 |dsetd=>
  refine V0 h hv fun x y v a b c hx hy hc h=>jx h hx False.elim z1 z2 z4 z4 (fun d h=>jx h hy False.elim z1 z2 z4 (fun k t _ _ h=> ?_) z1 zt zt) zt zt
  ·refine ZR (fun l hl hle h1 h2=> ?_) h
   refine jp (fun m hm hg=> ?_) (R.hr.obj _ _ hl)
   have hor:=hg.at k
   have hml:=hg.length
   have body:∀{Q:Value->Shared->Prop} {E:Value->Shared->Prop},wpAny F.M F.A.in1 (dictSetDefault d (.str k t) c) Q (fun _ _=>False) z.s->wpAny F.M F.A (call (.builtin "dict.setdefault") [.ref d,.str k t,c]) Q E z.s:=fun hq=>by
    refine wpAny_call_entry PySem.F.slot_dict_setdefault hm.typeIs PySem.F.entry_dict_setdefault ?_ (PySem.F.args_dict_setdefault_3 _ _ _)
    refine wpAny_bind ?_
    refine wpAny_bind (wpAny_notOrdered_dict hm.typeIs ?_)
    refine wpAny_pure ?_
    show wpAny _ _ (if (d==sysModules)=true then _ else (dictSetDefault d (.str k t) c>>=_)) _ _ z.s
    rw[if_neg (by rw[vW R hl];exact Bool.false_ne_true)]
    exact wpAny_bind (wpAny_mono hq (fun v s' hv=>wpAny_pure ⟨v,rfl,hv⟩) fun _ _ f=>f.elim)
   cases e:dAt l k with
   |some u=>
    rw[e]at hor
    refine jp (fun cu e2 hu=> ?_) hor
    refine jF R tk (h1 u e) fun Q E q=>body (zs qv hm (fun v hv=> ?_) (fun hn=>by cases e2.symm.trans hn) (by have:=jH;lia))
    cases e2.symm.trans hv
    exact q _ _ _ (.same tk (Nat.le_succ _)) hu
   |none=>
    rw[e]at hor
    refine v8 R tk (by delta dom;rw[hl];simp) (h2 e) fun Q E q=>body (zs qv hm (fun v hv=>by exact kH hor hv) (fun _ h' hd hs=> ?_) (by have:=jH;lia))
    exact q _ h' _ z.T (.same tk (Nat.le_succ _)) hs fun im=>⟨⟨_,hd,(hg.imm im).snoc (hc.imm im)⟩,hc.imm im⟩
 |dhas=>
  refine ww h hv fun x y a b hx hy h=>jx h hx False.elim z1 z2 z4 z4 (fun d h=>jx h hy False.elim z1 z2 z4 (fun k t _ _ h=> ?_) z1 zt zt) zt zt
  ·refine jp (fun l hl h=> ?_) h
   refine jp (fun m hm hg=> ?_) (R.hr.obj _ _ hl)
   refine jF R tk h fun Q E q=>call_meetsIn PySem.F.slot_dict_contains hm.typeIs PySem.F.entry_dict_contains (PySem.F.args_dict_contains_2 _ _) (meets_dict_contains (PySem.strKind F.C.prog F.C.w) _ qv (vW R hl)) ⟨_,hm.mapOf,q _ _ _ (.same tk (Nat.le_succ _)) ?_⟩
   rw[zn (hg.at _)];exact wL
 |shas=>
  refine ww h hv fun x y a b hx hy h=>jx h hx False.elim z1 z2 z4 z4 (fun d h=>jx h hy False.elim z1 z2 z4 (fun k t _ _ h=> ?_) z1 zt zt) zt zt
  ·refine kC (fun hl h=> ?_) h
   have hS:=R.hr.obj _ _ hl
   refine jF R tk h fun Q E q=>wpAny_call_entry PySem.F.slot_set_contains hS.typeIs entry_set_contains ?_ (PySem.F.args_set_contains_2 _ _)
   delta Builtin.«frozenset.__contains__» Builtin.Frozenset.oneOther
   simp only[List.isEmpty_nil,bind_assoc]
   refine wpAny_bind (wpAny_pure ?_)
   try dsimp only
   refine wpAny_bind (wpAny_pure ?_)
   try dsimp only
   refine wpAny_bind (wpAny_tryCatch ?_)
   refine wpAny_holding ?_
   refine wpAny_bind ((PySem.strKind F.C.prog F.C.w).pyHash qv ?_)
   refine wpAny_bind (wpAny_setFind_of (s:={z.s with toks:=z.s.toks+1}) qv rfl hS fun r hr=> ?_)
   refine wpAny_pure ?_
   show wpAny _ _ (ret (Value.bool r.isSome)) _ _ _
   rw[hr]
   exact wpAny_pure ⟨_,rfl,q _ _ _ (.same tk (Nat.le_succ _)) wL⟩
 |join=>
  refine ww h hv fun x y a b hx hy h=>jx h hx False.elim z1 z2 z4 (fun sep t _ _ h=>jx h hy False.elim z1 z2 z4 z4 (fun ad h=> ?_) zt zt) z1 zt zt
  ·refine yV (fun l ys hl hy h2 hsz h=> ?_) h
   refine ky (fun ws n e1 v1=> ?_) (R.hr.obj _ _ hl)
   refine jp (fun ps p1 p2=> ?_) (strs_at v1 hy)
   have hws:ws=(strValues ps).toArray:=by apply Array.ext';rw[p1]
   subst hws
   have hok:JoinOk sep (ps.map (·.1))=true:=by rw[p2];exact joinOk_of (by lia)
   have hok2:Builtin.Str.tooLong ((ps.map (·.1)).toArray.foldl (·+·.length+sep.length) 0)=false:=by delta JoinOk at hok;rwa [Bool.not_eq_true']at hok
   refine jF R tk h fun Q E q=>call_meets PySem.F.slot_str_join (typeIs_str _ _ _) PySem.F.entry_str_join (PySem.F.args_str_join_2 _ _) (meets_str_join_list sep t ad ps hok2) ⟨⟨_,e1,rfl,n,rfl⟩,?_⟩
   have hm:joinMade sep ps=.str (Txt.join sep ys):=by
    rw[←p2]
    match ps,p2 with
    |[],p2=>simp at p2;subst p2;simp at h2
    |[_],p2=>simp at p2;subst p2;simp at h2
    |_::_::_,_=>rfl
   rw[hm]
   refine ⟨?_,q _ _ _ (.put tk (Nat.le_refl _) (Nat.lt_succ_self _) _) (wZ (Nat.ne_of_gt tk.pos) kR)⟩
   rw[←p2];exact joinFit_length hok2
 |count=>
  refine ww h hv fun x y a b hx hy h=>jx h hx False.elim z1 z2 z4 (fun s t _ _ h=>jx h hy False.elim z1 z2 z4 (fun s2 u _ _ h=> ?_) z1 zt zt) z1 zt zt
  ·exact jF R tk h fun Q E q=>PySem.call_gives PySem.F.slot_str_count (typeIs_str _ _ _) PySem.F.entry_str_count (PySem.F.args_str_count_2 _ _) (gives_str_count _ _ t u) (q _ _ _ (.same tk (Nat.le_succ _)) kQ)
 |_=>exact False.elim h
end
end
section
def Bn.meth:Bn->Str
 | .append=>Str.ofString "append" | .pop=>Str.ofString "pop" | .sort=>Str.ofString "sort" | .dget=>Str.ofString "get" | .dsetd=>Str.ofString "setdefault" | .join=>Str.ofString "join" | .count=>Str.ofString "count"
 |_=>Str.ofString ""
def MOk(b:Bn)(x:AV)(Z:Sig):Prop:=match b with
 | .append| .pop| .sort=>on x (r:=fun a=>∃l,Z a=some (.list l))
 | .dget| .dsetd=>on x (r:=fun a=>(∃l,Z a=some (.dS l))∨∃l,Z a=some (.dI l))
 | .join| .count=>on x (s:=fun _=>True)
 |_=>False
section
variable {F:Fm} {loc:Loc} {Z:Sig} {z:St} {x y:AV} {a b:Value} {Ψ:K1}
theorem qj{M:Model}{id:String}{h:Heap}:qL M (.builtin id) h:=⟨.machine,.inr (.inl rfl),Looks.of_pure rfl⟩
theorem ze{M:Model}{id:String}{h:Heap}:qL M (.type id) h:=⟨.machine,.inr (.inl rfl),Looks.of_pure rfl⟩
theorem vD{K:Type}[DecidableEq K]{prog:Program}{w:World}{knd:KeyKind prog w K}{h:Heap}{d:Addr}{kvs:List (K×Value)}(hm:h.DictOf knd d kvs):∀b,Value.ref d=.ref b->∃o,h.get? b=some o∧o.dict=none:=hm.mapOf.noDict
theorem jbz(id:Bn)(R:F.Rel loc Z z.g)(hx:VR z.g x a)(h:MOk id x Z):Meth F a id.meth (.builtin id.id) [a] z:=by
 cases id with
 |append=>
  refine jx h hx False.elim z1 z2 z4 z4 (fun ad h pl Q E q=> ?_) zt zt
  refine kg (fun l hl=> ?_) h
  refine ky (fun ws n e1 _=> ?_) (R.hr.obj _ _ hl)
  exact getMethod_builtin ⟨_,e1,rfl⟩ PySem.F.plainAttrs_list PySem.F.slot_list_append PySem.F.type_list_append (fun c e=>by cases e;exact ⟨_,e1,rfl⟩) q
 |pop=>
  refine jx h hx False.elim z1 z2 z4 z4 (fun ad h pl Q E q=> ?_) zt zt
  refine kg (fun l hl=> ?_) h
  refine ky (fun ws n e1 _=> ?_) (R.hr.obj _ _ hl)
  exact getMethod_builtin ⟨_,e1,rfl⟩ PySem.F.plainAttrs_list PySem.F.slot_list_pop PySem.F.type_list_pop (fun c e=>by cases e;exact ⟨_,e1,rfl⟩) q
 |sort=>
  refine jx h hx False.elim z1 z2 z4 z4 (fun ad h pl Q E q=> ?_) zt zt
  refine kg (fun l hl=> ?_) h
  refine ky (fun ws n e1 _=> ?_) (R.hr.obj _ _ hl)
  exact getMethod_builtin ⟨_,e1,rfl⟩ PySem.F.plainAttrs_list PySem.F.slot_list_sort PySem.F.type_list_sort (fun c e=>by cases e;exact ⟨_,e1,rfl⟩) q
 |dget=>
  refine jx h hx False.elim z1 z2 z4 z4 (fun ad h pl Q E q=> ?_) zt zt
  refine h.elim (fun h=>kg (fun l hl=> ?_) h) fun h=>kg (fun l hl=> ?_) h
  ·exact jp (fun m hm _=>getMethod_builtin hm.typeIs PySem.F.plainAttrs_dict PySem.F.slot_dict_get PySem.F.type_dict_get (vD hm) q) (R.hr.obj _ _ hl)
  ·exact jp (fun m hm _=>getMethod_builtin hm.typeIs PySem.F.plainAttrs_dict PySem.F.slot_dict_get PySem.F.type_dict_get (vD hm) q) (R.hr.obj _ _ hl)
 |dsetd=>
  refine jx h hx False.elim z1 z2 z4 z4 (fun ad h pl Q E q=> ?_) zt zt
  refine h.elim (fun h=>kg (fun l hl=> ?_) h) fun h=>kg (fun l hl=> ?_) h
  ·exact jp (fun m hm _=>getMethod_builtin hm.typeIs PySem.F.plainAttrs_dict PySem.F.slot_dict_setdefault PySem.F.type_dict_setdefault (vD hm) q) (R.hr.obj _ _ hl)
  ·exact jp (fun m hm _=>getMethod_builtin hm.typeIs PySem.F.plainAttrs_dict PySem.F.slot_dict_setdefault PySem.F.type_dict_setdefault (vD hm) q) (R.hr.obj _ _ hl)
 |join=>
  refine jx h hx False.elim z1 z2 z4 (fun s t _ _ _ pl Q E q=> ?_) z1 zt zt
  exact getMethod_builtin (typeIs_str _ _ _) PySem.F.plainAttrs_str PySem.F.slot_str_join PySem.F.type_str_join (fun c e=>nomatch e) q
 |count=>
  refine jx h hx False.elim z1 z2 z4 (fun s t _ _ _ pl Q E q=> ?_) z1 zt zt
  exact getMethod_builtin (typeIs_str _ _ _) PySem.F.plainAttrs_str PySem.F.slot_str_count PySem.F.type_str_count (fun c e=>nomatch e) q
 |_=>exact False.elim h
end
end
section
section
variable {prog:Program} {w:World}
theorem Ka(h:Pairs (PySem.strKind prog w) es m)(name:Str):(es.find? (·.key.isStr name)).map (·.val)=valueAt m name∧es.any (·.refKey)=false:=by
 induction h with
 |nil=>exact ⟨rfl,rfl⟩
 | @cons e kv es kvs h1 h2 _ ih=>
  refine kg (fun t ht=> ?_) (Value.isStrOf_shape (show Value.isStrOf kv.1 e.key=true from h1))
  constructor
  ·simp only[valueAt,List.find?_cons,(by rw[ht];show (kv.1==name)=_;rw[Bool.beq_eq_decide_eq]:e.key.isStr name=decide (kv.1=name))]at ih⊢
   by_cases hk:kv.1=name
   ·simp[hk,h2]
   ·rw[decide_eq_false hk];exact ih.1
  ·simp only[List.any_cons,(by delta DictEntry.refKey;rw[ht]:e.refKey=false),ih.2];rfl
theorem OF{h:Heap}{d:Addr}{m:List (Str×Value)}{o:Obj}(hm:h.DictOf (PySem.strKind prog w) d m)(ho:h.get? d=some o)(name:Str):lookIn name o=some (valueAt m name):=by
 refine ZO (fun o' es ep ho' _ hd _ hp _=> ?_) hm
 cases ho.symm.trans ho'
 refine kC (fun h1 h2=> ?_) (Ka hp name)
 delta lookIn
 rw[hd]
 dsimp only
 rw[←h1]
 cases hf:es.toList.find? (·.key.isStr name)with
 |some e=>rfl
 |none=>simp[h2]
theorem V3{E:Value->Shared->Prop}{Q:Unit->Shared->Prop}(hm:s.heap.DictOf (PySem.strKind prog w) d m)
  (hQ:∀h',h'.DictOf (PySem.strKind prog w) d (stored m name v)->Heap.SameBut d s.heap h'->Q () {s with heap:=h',toks:=s.toks+1}):wpAny (model prog w) A (nsSet d name v) Q E s:=by
 refine ZO (fun o es ep ho hc hd hk hp hn=> ?_) hm
 refine kC (fun _ hr=> ?_) (Ka hp name)
 refine wpAny_bind (wpAny_bind (wpAny_askSetting (wpAny_pure (wpAny_bind (wpAny_mkText (wpAny_bind (wpAny_loadPart (s:={s with toks:=s.toks+1}) ho ?_)))))))
 rw[hd]
 dsimp only
 simp only[aRefKeyMayBeTheName_at,(by rw[←Array.any_toList];exact hr:es.any (·.refKey)=false),Bool.and_false,if_neg Bool.false_ne_true]
 refine wpAny_updatePart (s:={s with toks:=s.toks+1}) ho (hQ _ ?_ (Heap.SameBut.update ..))
 obtain ⟨cl,dd,dt,sl⟩:=o
 dsimp only at hd
 subst hd
 have hidx:es.findIdx? (·.key.isStr name)=m.findIdx? fun kv=>decide (kv.1=name):=by
  rw[←hp.findIdx name]
  obtain ⟨l⟩:=es
  simp only[List.findIdx?_toArray]
  congr 1
  funext e
  show e.key.isStr name=Value.isStrOf name e.key
  cases e.key<;>rfl
 simp only[Obj.putName_eq]
 cases hi:es.findIdx? (·.key.isStr name)with
 |some i=>
  have e1:Obj.putNameByArray name (if name.cps.isEmpty=true then 0 else reduceHash ((model prog w).w.params.strHash name.cps)) (.str name s.toks) v ⟨cl,dd,.dict es ep,sl⟩=⟨cl,dd,.dict (es.modify i fun e=>{e with val:=v}) ep,sl⟩:=by
   simp only[Obj.putNameByArray,hi]
  refine ⟨_,_,ep,Heap.get?_update_self _ ho (by rw[e1];rfl),by rw[e1];exact hc,by rw[e1],hk.modify _ _,?_,?_⟩
  ·rw[stored,if_pos (any_of_findIdx_some (hidx▸hi))]
   obtain ⟨l⟩:=es
   have:=hp.modify hn ((hp.findIdx name).trans (hidx▸hi)) v
   simpa using this
  ·rw[stored,if_pos (any_of_findIdx_some (hidx▸hi)),keys_map_store];exact hn
 |none=>
  have e1:Obj.putNameByArray name (if name.cps.isEmpty=true then 0 else reduceHash ((model prog w).w.params.strHash name.cps)) (.str name s.toks) v ⟨cl,dd,.dict es ep,sl⟩=⟨cl,dd,.dict (es.push ⟨(PySem.strKind prog w).hash name,.str name s.toks,v⟩) (ep+1),sl⟩:=by
   simp only[Obj.putNameByArray,hi];rfl
  haveI hnot:name∉m.map (·.1):=not_mem_of_findIdx_none (hidx▸hi)
  have hany2:¬(m.any fun kv=>decide (kv.1=name))=true:=by
   rw[List.any_eq_true];rintro ⟨kv,hkv,he⟩
   exact hnot (List.mem_map.mpr ⟨kv,hkv,of_decide_eq_true he⟩)
  refine ⟨_,_,ep+1,Heap.get?_update_self _ ho (by rw[e1];rfl),by rw[e1];exact hc,by rw[e1],hk.push qv _,?_,?_⟩
  ·rw[stored,if_neg hany2]
   obtain ⟨l⟩:=es
   have:=hp.append (k:=name) (key:=.str name s.toks) qv ((PySem.strKind prog w).hash name) v
   simpa using this
  ·rw[stored,if_neg hany2,List.map_append,List.nodup_append]
   refine ⟨hn,by simp,?_⟩
   intro a ha b hb
   rw[List.map_cons,List.map_nil,List.mem_singleton]at hb
   subst hb
   exact fun e=>hnot (e▸ha)
theorem zS(m:List (Str×Value))(k x:Str)(v:Value):valueAt (stored m k v) x=if x=k then some v else valueAt m x:=by
 delta stored
 split
 ·rename_i hany
  induction m with
  |nil=>simp at hany
  |cons p m ih=>
   simp only[List.map_cons,valueAt,List.find?_cons]at ih⊢
   by_cases hp:p.1=k
   ·by_cases hx:x=k
    ·subst hx;simp[hp]
    ·have h1:¬k=x:=fun e=>hx e.symm
     simp only[hp,if_true,hx,if_false,decide_eq_false h1]
     by_cases hm:m.any (fun kv=>decide (kv.1=k))=true
     ·have:=ih hm;simp only[hx,if_false]at this;exact this
     ·rw[map_store_of_not_mem m k v (fun hmem=>hm (by
       rw[List.any_eq_true]
       refine jp (fun q hq e=> ?_) (List.mem_map.mp hmem)
       exact ⟨q,hq,by simp[e]⟩))]
   ·simp only[hp,if_false]
    have:=ih (by simpa[hp]using hany)
    by_cases hx:x=k
    ·subst hx;rw[decide_eq_false hp];exact this
    ·simp only[hx,if_false]at this⊢
     by_cases h3:p.1=x
     ·simp[h3]
     ·simp only[decide_eq_false h3];exact this
 ·rename_i hany
  haveI hnot:∀p∈m,p.1≠k:=fun p hp e=>hany (List.any_eq_true.mpr ⟨p,hp,by simp[e]⟩)
  simp only[valueAt,List.find?_append]
  by_cases hx:x=k
  ·subst hx
   have:m.find? (fun kv=>decide (kv.1=x))=none:=by
    rw[List.find?_eq_none];intro p hp;simpa using hnot p hp
   simp[this]
  ·have h1:¬k=x:=fun e=>hx e.symm
   simp[hx,h1,valueAt]
theorem UU(m:List (Str×Value))(k:Str)(v:Value){S:List Str}(h:∀x∈m.map (·.1),x∈S)(hk:k∈S):∀x∈(stored m k v).map (·.1),x∈S:=by
 delta stored
 split
 ·rw[keys_map_store];exact h
 ·intro x hx
  rw[List.map_append,List.mem_append]at hx
  rcases hx with hx|hx
  ·exact h x hx
  ·simp at hx;subst hx;exact hk
end
theorem FN_len:FN.length=10:=by decide
theorem jcU:FN.Nodup:=by decide+kernel
section
variable {F:Fm} {loc:Loc} {Z:Sig} {z:St} {x y:AV} {a b:Value} {Ψ:K1}
theorem Us(R:F.Rel loc Z z.g){ad d:Addr}{f:Nat->Option AV}{C:Addr}(hx:Z ad=some (.inst C d))(hd:Z d=some (.ns f)):
  ∃ox od m,InstAt z.s.heap ad ox C (some od)∧ox.dict=some d∧z.s.heap.get? d=some od∧z.s.heap.DictOf (PySem.strKind F.C.prog F.C.w) d m∧(∀k∈m.map (·.1),k∈FN)∧(∀i n,FN[i]? =some n->Oq z.g (f i) (valueAt m n))∧ox.data=.plain∧ox.slots= #[]:=by
 refine YT (fun ox ho hc hdc hdt hsl=> ?_) (R.hr.obj _ _ hx)
 refine jX (fun m hm h1 h2=> ?_) (R.hr.obj _ _ hd)
 refine yU (fun od es ep hod _=> ?_) (id hm)
 refine ⟨ox,od,m,⟨ho,hc,by delta notCls;rw[hdt],?_⟩,hdc,hod,hm,h1,h2,hdt,hsl⟩
 rw[hdc];exact hod
theorem Xd{i:Nat}{n:Str}(h:FN[i]? =some n):n∈FN:=List.mem_of_getElem? h
set_option tactic.hygienic true in
theorem YU(hv:VR h x v):handedIn v=true:=by
 cases x
 case bi id=>subst hv;cases id<;>rfl
 all_goals first
  |(subst hv;rfl)
  |(refine kg ?_ hv;rintro _ rfl;rfl)
  |(refine jp ?_ hv;rintro _ rfl _;rfl)
  |(refine VG ?_ hv;rintro _ _ rfl _;rfl)
  |(refine yU ?_ hv;rintro _ _ _ rfl _;rfl)
  |(refine ZN ?_ hv;rintro _ _ _ _ rfl _;rfl)
theorem jcg{ad d:Addr}{f:Nat->Option AV}{i:Nat}{n:Str}{v:AV}{expr:Bool}(R:F.Rel loc Z z.g)(tk:TOk z)(hx:Z ad=some (.inst SMA d))(hd:Z d=some (.ns f))(hn:FN[i]? =some n)(hv:f i=some v)(h:Ψ v Z):kK F (getAttr (.ref ad) n expr) loc Z z Ψ:=by
 refine x3_7 (fun ox od m I hdc hod hm h1 h2 _=> ?_) (Us R hx hd)
 have:=h2 i n hn
 rw[hv]at this
 refine jp (fun cv e hr=> ?_) this
 have S:=F.C.sm
 refine jF R tk h fun Q E q=>get_value R.hr.top I (plainGet_of (S.pg n)).1 (findObj_own S.hd (S.fn n (Xd hn)) rfl ?_) (YU hr) (q _ _ _ (.same tk (Nat.le_succ _)) hr)
 rw[OF hm hod,e]
theorem meth_I{ad d fa:Addr}{f:Nat->Option AV}{n:Str}(R:F.Rel loc Z z.g)(hx:Z ad=some (.inst SMA d))(hd:Z d=some (.ns f))(hn:n∉FN)(hf:findIn F.C.K (.ref SMA) n=some (some (.ref fa)))(ht:isFn F.C.K (.ref fa)=true):Meth F (.ref ad) n (.ref fa) [.ref ad] z:=by
 refine x3_7 (fun ox od m I hdc hod hm h1 h2 _=> ?_) (Us R hx hd)
 intro pl Q E q
 have S:=F.C.sm
 refine method_fn R.hr.top I (plainGet_of (S.pg n)).1 (plainGet_of (S.pg n)).2 hf (beq_iff_eq.mp ht) ?_ q
 show (lookIn n od).map _=some false
 rw[OF hm hod]
 have:valueAt m n=none:=by
  delta valueAt
  have:m.find? (fun kv=>decide (kv.1=n))=none:=by
   rw[List.find?_eq_none];intro p hp;simp
   rintro rfl;exact hn (h1 _ (List.mem_map.mpr ⟨p,hp,rfl⟩))
  rw[this];rfl
 rw[this];rfl
theorem Vs{ad d:Addr}{f:Nat->Option AV}{i:Nat}{n:Str}{v:AV}{cv:Value}{Φ:Unit->Sig->Prop}(R:F.Rel loc Z z.g)(tk:TOk z)(hx:Z ad=some (.inst SMA d))(hd:Z d=some (.ns f))(hn:FN[i]? =some n)(hv:VR z.g v cv)(h:Φ () (upd Z d (.ns (upd f i v)))):
  EvG (fun _ (_ _:Unit)=>True) F (setAttr (.ref ad) n cv) loc Z z Φ:=by
 refine x3_8 (fun ox od m I hdc hod hm h1 h2 hdt hsl=> ?_) (Us R hx hd)
 have S:=F.C.sm
 refine v8 R tk (by delta dom;rw[hd];simp) h fun Q E q=>set_plain R.hr.top I S.sa (osa_open (s:={z.s with toks:=z.s.toks+1}) R.hr.top I S.po (by delta takerIn;rw[S.fn n (Xd hn)];rfl) fun b=> ?_)
 obtain ⟨hxa,hcl,hno,-⟩:=I
 refine jp (fun cd hc hd'=> ?_) (any_some S.hd)
 obtain ⟨oc,odi,oda,osl⟩:=ox
 dsimp only at hcl hdc hdt hsl
 subst hcl hdc hdt hsl
 refine wpAny_bind (wpAny_pure (wpAny_bind (wpAny_bind (wpAny_loadPart (s:={z.s with toks:=z.s.toks+1}) hxa (wpAny_bind ((looks_clsIn R.hr.top hc).here (s:={z.s with toks:=z.s.toks+1}) ?_))))))
 rw[hd']
 refine wpAny_pure (a:=some d) (wpAny_bind (wpAny_pure (wpAny_bind ?_)))
 refine V3 (s:={z.s with toks:=z.s.toks+1}) hm fun h' hm' hs'=> ?_
 have hk':=UU m n cv h1 (Xd hn)
 have hlen:(stored m n cv).length≤10:=by
  have:=List.Nodup.length_le_of_subset (by refine ZO (fun _ _ _ _ _ _ _ _ hh=> ?_) hm';exact hh) hk'
  simp only[List.length_map,FN_len]at this;exact this
 refine ZO (fun o' es' ep' ho' hex' hd2 hk2 hp2 hn2=> ?_) (id hm')
 refine wpAny_bind (wpAny_lookBehind ho' (by rw[hd2];exact pastItsLine_dict (by
  have e1:=hp2.length
  haveI e2:es'.toList.length=es'.size:=rfl
  have:=jH
  lia)) ?_)
 refine wpAny_pure (q () h' _ z.T (.same tk (by show z.s.toks≤z.s.toks+1+1;lia)) hs' fun im=>⟨⟨_,hm',hk',fun j y hy=> ?_⟩,trivial⟩)
 rw[zS]
 by_cases hj:j=i
 ·cases hj
  cases hn.symm.trans hy
  rw[if_pos rfl,jc]
  exact ⟨cv,rfl,hv.imm im⟩
 ·have hne:y≠n:=by
   rintro rfl
   exact hj ((List.getElem?_inj ((List.getElem?_eq_some_iff.mp hy)).1 jcU).mp (hn.symm▸hy))
  rw[if_neg hne,ji hj]
  exact (h2 j y hy).imm im
end
end
section
theorem qr:Slot "method_descriptor" "__get__" "method_descriptor.__get__" :=
 .of (owner:= "method_descriptor") (n:= "__get__") (by rw[typeLookup_type,builtinLookup_eq_fast];kernel_rfl) (by decide+kernel) (by decide+kernel) (by decide+kernel)
  (by first|exact .inl (by decide+kernel)|exact .inr (by decide+kernel)) (by rw[isSubtype_type];kernel_rfl)
theorem zo:typeLookup (.type "method_descriptor") "__set__" =pure none:=by rw[typeLookup_type,builtinLookup_eq_fast];kernel_rfl
theorem zq:typeLookup (.type "method_descriptor") "__delete__" =pure none:=by rw[typeLookup_type,builtinLookup_eq_fast];kernel_rfl
theorem yE:entryFor table "method_descriptor.__get__" =some Builtin.«method_descriptor.__get__» :=entryFor_of_tree (by kernel_rfl)
theorem zw(a b c:Value):argsOk "method_descriptor.__get__" ⟨[a,b,c],[]⟩:=by delta argsOk;kernel_rfl
theorem Kb:(".".intercalate ("dict.get".cutAt '.').dropLast)= "dict" :=by
 have e0: "dict.get".cutAt '.'=["dict","get"]:=by first|rfl|decide+kernel
 rw[e0];decide+kernel
theorem O1:isSubtype (.type "dict") (.type (".".intercalate ("dict.get".cutAt '.').dropLast))=pure true:=by rw[Kb,isSubtype_type];kernel_rfl
theorem wQ:(".".intercalate ("dict.__contains__".cutAt '.').dropLast)= "dict" :=by
 have e0: "dict.__contains__".cutAt '.'=["dict","__contains__"]:=by first|rfl|decide+kernel
 rw[e0];decide+kernel
theorem yn:isSubtype (.type "dict") (.type (".".intercalate ("dict.__contains__".cutAt '.').dropLast))=pure true:=by rw[wQ,isSubtype_type];kernel_rfl
theorem w5:(".".intercalate ("set.__contains__".cutAt '.').dropLast)= "set" :=by
 have e0: "set.__contains__".cutAt '.'=["set","__contains__"]:=by first|rfl|decide+kernel
 rw[e0];decide+kernel
theorem yX:isSubtype (.type "set") (.type (".".intercalate ("set.__contains__".cutAt '.').dropLast))=pure true:=by rw[w5,isSubtype_type];kernel_rfl
theorem ym:isSubtype (.type "dict") (.type "module")=pure false:=by rw[isSubtype_type];kernel_rfl
theorem US:isSubtype (.type "set") (.type "module")=pure false:=by rw[isSubtype_type];kernel_rfl
theorem KH{M:Model}{A:Around}{E:Value->Shared->Prop}{s:Shared}{id T full:String}{sig:Manifest.Signature}{a:Addr}{xs:List Value}{Q:Unit->Shared->Prop}
  (hs:Manifest.signature? id=some sig) (hk:builtinKind id=some .method) (hT:s.TypeIs (.ref a) T) (hnc:∀o,s.heap.get? a=some o->∀c,o.data≠.cls c) (hm:isSubtype (.type T) (.type "module")=pure false) (hv:Manifest.varargsMethods.contains id=false)
  (hf:s!"{Bind.lastOf T}.{Bind.lastOf id}" =full) (hc:Bind.checkArgs id {sig with full:=full} ⟨.ref a::xs,[]⟩=pure ()) (hQ:Q () s):wpAny M A (checkBoundCall id ⟨.ref a::xs,[]⟩) Q E s:=by
 delta checkBoundCall
 rw[hs]
 dsimp only
 rw[hk]
 dsimp only
 rw[if_neg (by decide)]
 refine wpAny_bind (wpAny_isInstance hT hm ?_)
 rw[hv,Bool.false_or,if_neg Bool.false_ne_true]
 refine jp (fun o ho hcl=> ?_) (_root_.id hT)
 refine wpAny_bind ?_
 delta isType
 refine wpAny_bind (wpAny_loadPart ho (wpAny_pure ?_))
 rw[if_neg]
 ·refine wpAny_bind (wpAny_typeOf hT ?_)
  dsimp only
  rw[hf]
  exact wpAny_of_eq hc hQ
 ·cases e:o.data with
  |cls c=>exact absurd e (hnc o ho c)
  |_=>exact Bool.false_ne_true
theorem wU:(Manifest.signature? "dict.get").isSome=true:=by decide+kernel
theorem O6:Manifest.signature? "dict.get" =some ((Manifest.signature? "dict.get").get wU):=(Option.some_get _).symm
theorem Of:s!"{Bind.lastOf "dict"}.{Bind.lastOf "dict.get"}" = "dict.get" :=by decide+kernel
theorem Ue(a:Addr)(u v:Value):Bind.checkArgs "dict.get" {(Manifest.signature? "dict.get").get wU with full:= "dict.get"} ⟨.ref a::[u,v],[]⟩=pure ():=by kernel_rfl
theorem Oc:builtinKind "dict.get" =some .method:=by decide+kernel
theorem OW:Manifest.varargsMethods.contains "dict.get" =false:=by decide+kernel
theorem KZ:∃sig,Manifest.signature? "dict.get" =some sig∧∀(a:Addr) (u v:Value),Bind.checkArgs "dict.get" {sig with full:= "dict.get"} ⟨.ref a::[u,v],[]⟩=pure ():=⟨_,O6,fun a u v=>Ue a u v⟩
theorem wF{M:Model}{A:Around}{E:Value->Shared->Prop}{s:Shared}{a:Addr}{es:Array DictEntry}{ep:Nat}{sl:Array (Option Value)}{u v:Value}{Q:Unit->Shared->Prop}(hx:s.heap.get? a=some {cls:=.type "dict",dict:=none,data:=.dict es ep,slots:=sl})
  (hq:Q () s):wpAny M A (checkBoundCall "dict.get" ⟨.ref a::[u,v],[]⟩) Q E s:=by
 refine jp (fun sig e hc=> ?_) KZ
 exact KH (T:= "dict") (full:= "dict.get") e Oc ⟨_,hx,rfl⟩ (fun o ho c e=>by rw[hx]at ho;cases ho;cases e) ym OW Of (hc _ u v) hq
theorem vi:(Manifest.signature? "dict.__contains__").isSome=true:=by decide+kernel
theorem yq:Manifest.signature? "dict.__contains__" =some ((Manifest.signature? "dict.__contains__").get vi):=(Option.some_get _).symm
theorem ya:s!"{Bind.lastOf "dict"}.{Bind.lastOf "dict.__contains__"}" = "dict.__contains__" :=by decide+kernel
theorem yy(a:Addr)(u:Value):Bind.checkArgs "dict.__contains__" {(Manifest.signature? "dict.__contains__").get vi with full:= "dict.__contains__"} ⟨.ref a::[u],[]⟩=pure ():=by kernel_rfl
theorem w6:builtinKind "dict.__contains__" =some .method:=by decide+kernel
theorem yg:Manifest.varargsMethods.contains "dict.__contains__" =false:=by decide+kernel
theorem w0:∃sig,Manifest.signature? "dict.__contains__" =some sig∧∀(a:Addr) (u:Value),Bind.checkArgs "dict.__contains__" {sig with full:= "dict.__contains__"} ⟨.ref a::[u],[]⟩=pure ():=⟨_,yq,fun a u=>yy a u⟩
theorem wR{M:Model}{A:Around}{E:Value->Shared->Prop}{s:Shared}{a:Addr}{es:Array DictEntry}{ep:Nat}{sl:Array (Option Value)}{u:Value}{Q:Unit->Shared->Prop}(hx:s.heap.get? a=some {cls:=.type "dict",dict:=none,data:=.dict es ep,slots:=sl})
  (hq:Q () s):wpAny M A (checkBoundCall "dict.__contains__" ⟨.ref a::[u],[]⟩) Q E s:=by
 refine jp (fun sig e hc=> ?_) w0
 have h1:=KH (M:=M) (A:=A) (E:=E) (Q:=Q) (s:=s) (id:= "dict.__contains__") (T:= "dict") (full:= "dict.__contains__") (xs:=[u]) (a:=a) e
 have h2:=h1 w6
 have h3:=h2 ⟨_,hx,rfl⟩ (fun o ho c e=>by rw[hx]at ho;cases ho;cases e) ym
 have h4:=h3 yg
 have h5:=h4 ya
 have h6:=h5 (hc _ u)
 exact h6 hq
theorem vz:(Manifest.signature? "set.__contains__").isSome=true:=by decide+kernel
theorem y0:Manifest.signature? "set.__contains__" =some ((Manifest.signature? "set.__contains__").get vz):=(Option.some_get _).symm
theorem yD:s!"{Bind.lastOf "set"}.{Bind.lastOf "set.__contains__"}" = "set.__contains__" :=by decide+kernel
theorem za(a:Addr)(u:Value):Bind.checkArgs "set.__contains__" {(Manifest.signature? "set.__contains__").get vz with full:= "set.__contains__"} ⟨.ref a::[u],[]⟩=pure ():=by kernel_rfl
theorem yB:builtinKind "set.__contains__" =some .method:=by decide+kernel
theorem yW:Manifest.varargsMethods.contains "set.__contains__" =false:=by decide+kernel
theorem yp:∃sig,Manifest.signature? "set.__contains__" =some sig∧∀(a:Addr) (u:Value),Bind.checkArgs "set.__contains__" {sig with full:= "set.__contains__"} ⟨.ref a::[u],[]⟩=pure ():=⟨_,y0,fun a u=>za a u⟩
theorem yd{M:Model}{A:Around}{E:Value->Shared->Prop}{s:Shared}{a:Addr}{es:Array (Int×Value)}{ep:Nat}{st:SetTable}{sl:Array (Option Value)}{u:Value}{Q:Unit->Shared->Prop}(hx:s.heap.get? a=some {cls:=.type "set",dict:=none,data:=.set es ep st,slots:=sl})
  (hq:Q () s):wpAny M A (checkBoundCall "set.__contains__" ⟨.ref a::[u],[]⟩) Q E s:=by
 refine jp (fun sig e hc=> ?_) yp
 have h1:=KH (M:=M) (A:=A) (E:=E) (Q:=Q) (s:=s) (id:= "set.__contains__") (T:= "set") (full:= "set.__contains__") (xs:=[u]) (a:=a) e
 have h2:=h1 yB
 have h3:=h2 ⟨_,hx,rfl⟩ (fun o ho c e=>by rw[hx]at ho;cases ho;cases e) US
 have h4:=h3 yW
 have h5:=h4 yD
 have h6:=h5 (hc _ u)
 exact h6 hq
section
variable {prog:Program} {w:World} {A:Around} {E:Value->Shared->Prop} {h:Heap} {g:Array GenState} {d:Drawn} {t:Nat} {os:OsState} {a:Addr} {o:Obj}
structure DM(id:String)(nm:Str):Prop where
 sub:isSubtype (.type "dict") (.type (".".intercalate (id.cutAt '.').dropLast))=pure true
 lk:typeLookup (.type "dict") nm=pure (some (.builtin id))
 ty:typeOf (.builtin id)=pure (.type "method_descriptor")
 tc:Manifest.toldItsClass.contains id=false
 nc:[Str.ofString "__module__",Str.ofString "__name__",Str.ofString "__qualname__",Str.ofString "__doc__",Str.ofString "__annotations__"].contains nm=false
theorem dm_get:DM "dict.get" "get" :=⟨O1,PySem.F.slot_dict_get.lookup,PySem.F.type_dict_get,by decide+kernel,by decide+kernel⟩
theorem Vw:DM "dict.__contains__" "__contains__" :=⟨yn,PySem.F.slot_dict_contains.lookup,PySem.F.type_dict_contains,by decide+kernel,by decide+kernel⟩
variable {id:String} {nm:Str}
theorem Ve(X:DM id nm){Q:PySem.Fin->Shared->Prop}(hx:h.get? a=some o)(hc:o.cls=.type "dict")
  (hq:Q (.done (.ret (.ref h.objs.size))) ⟨h.push {cls:=.type "builtin_function_or_method",data:=.fields #[.builtin id,.ref a]},g,d,t,os⟩):
  wpAny (model prog w) A (Builtin.«method_descriptor.__get__» ⟨[.builtin id,.ref a,.type "dict"],[]⟩) Q E ⟨h,g,d,t,os⟩:=by
 have hT:(⟨h,g,d,t,os⟩:Shared).TypeIs (.ref a) "dict" :=⟨_,hx,hc⟩
 have hs:=X.sub
 delta Builtin.«method_descriptor.__get__»
 repeat (any_goals (first|assumption|wp_step))
 rw[if_neg (by rw[X.tc];exact Bool.false_ne_true)]
 repeat (any_goals (first|assumption|wp_step))
theorem Um(X:DM id nm){R:Result->Shared->Prop}(hx:h.get? a=some o)(hc:o.cls=.type "dict")
  (hq:R (.ok (.ret (.ref h.objs.size))) ⟨h.push {cls:=.type "builtin_function_or_method",data:=.fields #[.builtin id,.ref a]},g,d,t,os⟩):
  codeAny (model prog w) A (.call (.builtin "method_descriptor.__get__") ⟨[.builtin id,.ref a,.type "dict"],[]⟩) R ⟨h,g,d,t,os⟩:=
 codeAny_call_builtin qr.plain yE (qr.check _ _ _ _ _ _ _ _ (show (⟨h,g,d,t,os⟩:Shared).TypeIs (.builtin id) "method_descriptor" from X.ty) (zw _ _ _) (Ve X hx hc hq))
theorem Vo(X:DM id nm){Q:PySem.Fin->Shared->Prop}(hx:h.get? a=some {cls:=.type "dict",dict:=none,data:=.dict es ep,slots:=sl})
  (hq:Q (.done (.ret (.ref h.objs.size))) ⟨h.push {cls:=.type "builtin_function_or_method",data:=.fields #[.builtin id,.ref a]},g,d,t,os⟩):
  wpAny (model prog w) A (Builtin.«object.__getattribute__» ⟨[.ref a,.str nm tk],[]⟩) Q E ⟨h,g,d,t,os⟩:=by
 haveI hT:(⟨h,g,d,t,os⟩:Shared).TypeIs (.ref a) "dict" :=⟨_,hx,rfl⟩
 have f4:=X.lk
 haveI f5:typeOf (.builtin id)=pure (.type "method_descriptor"):=X.ty
 have f6:=qr.lookup
 have f7:=zo
 have f8:=zq
 repeat (any_goals (first|assumption|wp_step))
 rw[if_neg (by rw[X.nc];exact Bool.false_ne_true)]
 repeat (any_goals (first|assumption|wp_step))
 refine Um X hx rfl ?_
 repeat (any_goals (first|assumption|wp_step))
theorem yF:entryFor table "dict.__getattribute__" =some Builtin.«object.__getattribute__» :=PySem.F.entry_dict_ga
theorem Uy(X:DM id nm){R:Result->Shared->Prop}(hx:h.get? a=some {cls:=.type "dict",dict:=none,data:=.dict es ep,slots:=sl})
  (hq:R (.ok (.ret (.ref h.objs.size))) ⟨h.push {cls:=.type "builtin_function_or_method",data:=.fields #[.builtin id,.ref a]},g,d,t,os⟩):
  codeAny (model prog w) A (.call (.builtin "dict.__getattribute__") ⟨[.ref a,.str nm tk],[]⟩) R ⟨h,g,d,t,os⟩:=
 codeAny_call_builtin PySem.F.slot_dict_getattribute.plain yF (PySem.F.slot_dict_getattribute.check _ _ _ _ _ _ _ _ (show (⟨h,g,d,t,os⟩:Shared).TypeIs (.ref a) "dict" from⟨_,hx,rfl⟩) (PySem.F.args_dict_getattribute_2 _ _) (Vo X hx hq))
theorem wV(X:DM id nm){Q:Value->Shared->Prop}(hx:h.get? a=some {cls:=.type "dict",dict:=none,data:=.dict es ep,slots:=sl})
  (hq:Q (.ref h.objs.size) ⟨h.push {cls:=.type "builtin_function_or_method",data:=.fields #[.builtin id,.ref a]},g,d,t+1,os⟩):
  wpAny (model prog w) A (getAttr (.ref a) nm true) Q E ⟨h,g,d,t,os⟩:=by
 have hT:∀t',(⟨h,g,d,t',os⟩:Shared).TypeIs (.ref a) "dict" :=fun _=>⟨_,hx,rfl⟩
 have f2:=PySem.F.slot_dict_getattribute.lookup
 have f3:=PySem.F.slot_dict_getattribute.bind (.ref a)
 delta getAttr getAttrBy
 repeat (any_goals (first|assumption|exact hT _|wp_step))
 refine Uy X hx ?_
 repeat (any_goals (first|assumption|wp_step))
theorem zB{Q:PySem.Fin->Shared->Prop}(hx:h.get? a=some o)(hc:o.cls=.type "set")
  (hq:Q (.done (.ret (.ref h.objs.size))) ⟨h.push {cls:=.type "builtin_function_or_method",data:=.fields #[.builtin "set.__contains__",.ref a]},g,d,t,os⟩):
  wpAny (model prog w) A (Builtin.«method_descriptor.__get__» ⟨[.builtin "set.__contains__",.ref a,.type "set"],[]⟩) Q E ⟨h,g,d,t,os⟩:=by
 have hT:(⟨h,g,d,t,os⟩:Shared).TypeIs (.ref a) "set" :=⟨_,hx,hc⟩
 have hs:=yX
 delta Builtin.«method_descriptor.__get__»
 repeat (any_goals (first|assumption|wp_step))
theorem zd{R:Result->Shared->Prop}(hx:h.get? a=some o)(hc:o.cls=.type "set")
  (hq:R (.ok (.ret (.ref h.objs.size))) ⟨h.push {cls:=.type "builtin_function_or_method",data:=.fields #[.builtin "set.__contains__",.ref a]},g,d,t,os⟩):
  codeAny (model prog w) A (.call (.builtin "method_descriptor.__get__") ⟨[.builtin "set.__contains__",.ref a,.type "set"],[]⟩) R ⟨h,g,d,t,os⟩:=
 codeAny_call_builtin qr.plain yE (qr.check _ _ _ _ _ _ _ _ (show (⟨h,g,d,t,os⟩:Shared).TypeIs (.builtin "set.__contains__") "method_descriptor" from PySem.F.type_set_contains) (zw _ _ _) (zB hx hc hq))
theorem zC{es:Array (Int×Value)}{ep:Nat}{st:SetTable}{sl:Array (Option Value)}{tk:Tok}{Q:PySem.Fin->Shared->Prop}(hx:h.get? a=some {cls:=.type "set",dict:=none,data:=.set es ep st,slots:=sl})
  (hq:Q (.done (.ret (.ref h.objs.size))) ⟨h.push {cls:=.type "builtin_function_or_method",data:=.fields #[.builtin "set.__contains__",.ref a]},g,d,t,os⟩):
  wpAny (model prog w) A (Builtin.«object.__getattribute__» ⟨[.ref a,.str "__contains__" tk],[]⟩) Q E ⟨h,g,d,t,os⟩:=by
 have hT:(⟨h,g,d,t,os⟩:Shared).TypeIs (.ref a) "set" :=⟨_,hx,rfl⟩
 have f4:=PySem.F.slot_set_contains.lookup
 have f5:typeOf (.builtin "set.__contains__")=pure (.type "method_descriptor"):=PySem.F.type_set_contains
 have f6:=qr.lookup
 have f7:=zo
 have f8:=zq
 delta Builtin.«object.__getattribute__»
 repeat (any_goals (first|assumption|wp_step))
 refine zd hx rfl ?_
 repeat (any_goals (first|assumption|wp_step))
theorem wj:entryFor table "set.__getattribute__" =some Builtin.«object.__getattribute__» :=PySem.F.entry_set_ga
theorem zh{es:Array (Int×Value)}{ep:Nat}{st:SetTable}{sl:Array (Option Value)}{tk:Tok}{R:Result->Shared->Prop}(hx:h.get? a=some {cls:=.type "set",dict:=none,data:=.set es ep st,slots:=sl})
  (hq:R (.ok (.ret (.ref h.objs.size))) ⟨h.push {cls:=.type "builtin_function_or_method",data:=.fields #[.builtin "set.__contains__",.ref a]},g,d,t,os⟩):
  codeAny (model prog w) A (.call (.builtin "set.__getattribute__") ⟨[.ref a,.str "__contains__" tk],[]⟩) R ⟨h,g,d,t,os⟩:=
 codeAny_call_builtin PySem.F.slot_set_getattribute.plain wj (PySem.F.slot_set_getattribute.check _ _ _ _ _ _ _ _ (show (⟨h,g,d,t,os⟩:Shared).TypeIs (.ref a) "set" from⟨_,hx,rfl⟩) (PySem.F.args_set_getattribute_2 _ _) (zC hx hq))
theorem yO{es:Array (Int×Value)}{ep:Nat}{st:SetTable}{sl:Array (Option Value)}{Q:Value->Shared->Prop}(hx:h.get? a=some {cls:=.type "set",dict:=none,data:=.set es ep st,slots:=sl})
  (hq:Q (.ref h.objs.size) ⟨h.push {cls:=.type "builtin_function_or_method",data:=.fields #[.builtin "set.__contains__",.ref a]},g,d,t+1,os⟩):
  wpAny (model prog w) A (getAttr (.ref a) "__contains__" true) Q E ⟨h,g,d,t,os⟩:=by
 have hT:∀t',(⟨h,g,d,t',os⟩:Shared).TypeIs (.ref a) "set" :=fun _=>⟨_,hx,rfl⟩
 have f2:=PySem.F.slot_set_getattribute.lookup
 have f3:=PySem.F.slot_set_getattribute.bind (.ref a)
 delta getAttr getAttrBy
 repeat (any_goals (first|assumption|exact hT _|wp_step))
 refine zh hx ?_
 repeat (any_goals (first|assumption|wp_step))
end
theorem wc{prog:Program}{w:World}{A:Around}{E:Value->Shared->Prop}{s:Shared}{b:Addr}{o:Obj}{id:String}{B:Builtin}{cv:Value}{xs:List Value}{Q:Value->Shared->Prop}(ho:s.heap.get? b=some o)(hc:o.cls=.type "builtin_function_or_method")(hd:o.data=.fields #[.builtin id,cv])(hp:plainId id=true)(he:entryFor table id=some B)
  (hchk:∀Q' E',Q' () s->wpAny (model prog w) A.in1 (checkBoundCall id ⟨cv::xs,[]⟩) Q' E' s)
  (h:wpAny (model prog w) A.in1 (B ⟨cv::xs,[]⟩) (fun fin s'=>match fin with| .done f=>wants Q E (.ok f) s'| .again c'=>c'.quiet=true∧codeAny (model prog w) A c' (wants Q E) s') (fun e s'=>wants Q E (.error e) s') s):wpAny (model prog w) A (call (.ref b) xs) Q E s:=by
 refine wpAny_call (codeAny_of_tree ?_)
 show wpAny _ A.in1 (callAny (.ref b) ⟨xs,[]⟩) _ _ s
 delta callAny
 refine wpAny_bind (wpAny_load ho ?_)
 rw[hd]
 dsimp only
 rw[hc]
 refine wpAny_bind (hchk _ _ (wpAny_pure (And.intro (plainId_quiet hp _) (codeAny_builtin he ?_))))
 rw[Around.under_plainId hp]
 exact h
section
variable {F:Fm} {loc:Loc} {Z:Sig} {z:St} {x y:AV} {a b:Value} {Ψ:K1}
theorem keep_bm{M:Model}{b:Addr}{o:Obj}{id:String}{cv:Value}{h:Heap}(ho:h.get? b=some o)(hc:o.cls=.type "builtin_function_or_method")(hd:o.data=.fields #[.builtin id,cv]):qL M (.ref b) h:=by
 refine ⟨.machine,.inr (.inl rfl),fun A Q E s k q=> ?_⟩
 delta keeperOf
 refine wpAny_bind (wpAny_load (k _ _ ho) ?_)
 rw[hd,hc]
 exact wpAny_pure q
theorem jb8{M:Model}{A B:Around}{E:Value->Shared->Prop}{s:Shared}{t:Sem PySem.Fin}{Q:Value->Shared->Prop}(h:wpAny M A t (fun fin s'=>∃v,fin=.done (.ret v)∧Q v s') E s):
  wpAny M A t (fun fin s'=>match fin with| .done f=>wants Q E (.ok f) s'| .again c'=>c'.quiet=true∧codeAny M B c' (wants Q E) s') (fun e s'=>wants Q E (.error e) s') s:=
 wpAny_mono h (fun fin s' q__=>jp (fun v e hv=>by subst e;exact hv) q__) fun _ _ h'=>h'
theorem ev_bm(id:Bn){self:AV}{f:Value}{xs:List AV}{vs:List Value}(R:F.Rel loc Z z.g)(tk:TOk z)(hf:VR z.g (.bm id self) f)(hv:VRs z.g xs vs)(hid:id=.dget∨id=.dhas∨id=.shas)(h:wB F.C id (self::xs) Z Ψ):kK F (call f vs) loc Z z Ψ:=by
 refine ZP ?_ hf;rintro b o cv rfl ho hc hd hself
 have hv':VRs z.g (self::xs) (cv::vs):=⟨cv,vs,rfl,hself,hv⟩
 rcases hid with rfl|rfl|rfl
 ·refine V0 (P:=fun l=>o.data=.fields #[.builtin Bn.dget.id,l.headD .none]->kK F (call (.ref b) l.tail) loc Z z Ψ) h hv' (fun x y u a b' c hx hy hc' h=>jx h hx False.elim z1 z2 z4 z4 (fun d h=>jx h hy False.elim z1 (fun k t h hd=> ?_) z4 (fun k t _ _ h hd=> ?_) z1 zt zt) zt zt) hd
  ·refine jp (fun l hl h=> ?_) h
   refine jp (fun m hm hg=> ?_) (R.hr.obj _ _ hl)
   refine KT (fun od es ep hod hex hdd _=> ?_) (id hm)
   obtain ⟨cl,dd,dt,sl⟩:=od
   refine wO ?_ hex;rintro rfl rfl _
   dsimp only at hdd;subst hdd
   refine jF R tk h fun Q E q=>wc ho hc hd (by decide+kernel) PySem.F.entry_dict_get (fun Q' E' hq'=>wF hod hq') (meets_dict_get_default (PySem.intKind F.C.prog F.C.w) _ V7 (vW R hl) c _ _ _ ⟨_,hm.mapOf,q _ _ _ (.same tk (Nat.le_succ _)) ?_⟩)
   exact wM (hg.at _) hc'
  ·refine jp (fun l hl h=> ?_) h
   refine jp (fun m hm hg=> ?_) (R.hr.obj _ _ hl)
   refine KT (fun od es ep hod hex hdd _=> ?_) (id hm)
   obtain ⟨cl,dd,dt,sl⟩:=od
   refine wO ?_ hex;rintro rfl rfl _
   dsimp only at hdd;subst hdd
   refine jF R tk h fun Q E q=>wc ho hc hd (by decide+kernel) PySem.F.entry_dict_get (fun Q' E' hq'=>wF hod hq') (meets_dict_get_default (PySem.strKind F.C.prog F.C.w) _ qv (vW R hl) c _ _ _ ⟨_,hm.mapOf,q _ _ _ (.same tk (Nat.le_succ _)) ?_⟩)
   exact wM (hg.at _) hc'
 ·refine ww (P:=fun l=>o.data=.fields #[.builtin Bn.dhas.id,l.headD .none]->kK F (call (.ref b) l.tail) loc Z z Ψ) h hv' (fun x y a b' hx hy h=>jx h hx False.elim z1 z2 z4 z4 (fun d h=>jx h hy False.elim z1 z2 z4 (fun k t _ _ h hd=> ?_) z1 zt zt) zt zt) hd
  ·refine jp (fun l hl h=> ?_) h
   refine jp (fun m hm hg=> ?_) (R.hr.obj _ _ hl)
   refine KT (fun od es ep hod hex hdd _=> ?_) (id hm)
   obtain ⟨cl,dd,dt,sl⟩:=od
   refine wO ?_ hex;rintro rfl rfl _
   dsimp only at hdd;subst hdd
   refine jF R tk h fun Q E q=>wc ho hc hd (by decide+kernel) PySem.F.entry_dict_contains (fun Q' E' hq'=>wR hod hq') (meets_dict_contains (PySem.strKind F.C.prog F.C.w) _ qv (vW R hl) _ _ _ ⟨_,hm.mapOf,q _ _ _ (.same tk (Nat.le_succ _)) ?_⟩)
   rw[zn (hg.at _)];exact wL
 ·refine ww (P:=fun l=>o.data=.fields #[.builtin Bn.shas.id,l.headD .none]->kK F (call (.ref b) l.tail) loc Z z Ψ) h hv' (fun x y a b' hx hy h=>jx h hx False.elim z1 z2 z4 z4 (fun d h=>jx h hy False.elim z1 z2 z4 (fun k t _ _ h hd=> ?_) z1 zt zt) zt zt) hd
  ·refine kC (fun hl h=> ?_) h
   have hS:=R.hr.obj _ _ hl
   refine x4_4 (fun od es ep st hod hex hdd _=> ?_) (id hS)
   obtain ⟨cl,dd,dt,sl⟩:=od
   refine wO ?_ hex;rintro rfl rfl _
   dsimp only at hdd;subst hdd
   refine jF R tk h fun Q E q=>wc ho hc hd (by decide+kernel) entry_set_contains (fun Q' E' hq'=>yd hod hq') (jb8 ?_)
   refine wpAny_bind (wpAny_pure ?_)
   refine wpAny_bind (wpAny_tryCatch ?_)
   refine wpAny_holding ?_
   refine wpAny_bind ((PySem.strKind F.C.prog F.C.w).pyHash qv ?_)
   refine wpAny_bind (wpAny_setFind_of (s:={z.s with toks:=z.s.toks+1}) qv rfl hS fun r hr=> ?_)
   refine wpAny_pure ?_
   exact hr▸(wpAny_pure ⟨_,rfl,q _ _ _ (.same tk (Nat.le_succ _)) wL⟩)
def jcX(id:Bn)(d:Addr)(Z:Sig):Prop:=match id with
 | .dget| .dhas=>(∃l,Z d=some (.dS l))∨∃l,Z d=some (.dI l)
 | .shas=>Z d=some .set0
 |_=>False
def Bn.bmName:Bn->Str
 | .dget=>Str.ofString "get"
 |_=>Str.ofString "__contains__"
theorem ZE(id:Bn){d:Addr}(R:F.Rel loc Z z.g)(tk:TOk z)(hk:jcX id d Z)(h:Ψ (.bm id (.ref d)) Z):kK F (getAttr (.ref d) id.bmName true) loc Z z Ψ:=by
 have fin:∀(Q:Value->Shared->Prop),(∀a h' n T',wK z n T'->Ext z.s.heap h'->VR ⟨h',T'⟩ (.bm id (.ref d)) a->Q a {z.s with heap:=h',toks:=n})->Q (.ref z.s.heap.objs.size) {z.s with heap:=z.s.heap.push {cls:=.type "builtin_function_or_method",data:=.fields #[.builtin id.id,.ref d]},toks:=z.s.toks+1}:=fun Q q=>
  q _ _ _ z.T (.same tk (Nat.le_succ _)) (Ext.push _ _) (by
   exact Exists.intro _ ⟨_,_,rfl,Heap.get?_push_size _ rfl,rfl,rfl,rfl⟩)
 have dic:∀{h':Heap} {K:Type} [DecidableEq K] {knd:KeyKind F.C.prog F.C.w K} {m:List (K×Value)},h'.DictOf knd d m->∃es ep sl,h'.get? d=some {cls:=.type "dict",dict:=none,data:=.dict es ep,slots:=sl}:=fun hm=>by
  refine KT (fun od es ep hod hex hdd _=> ?_) hm
  obtain ⟨cl,dd,dt,sl⟩:=od
  refine wO ?_ hex;rintro rfl rfl _
  dsimp only at hdd;subst hdd
  exact ⟨es,ep,sl,hod⟩
 have dic2:((∃l,Z d=some (.dS l))∨∃l,Z d=some (.dI l))->∃es ep sl,z.s.heap.get? d=some {cls:=.type "dict",dict:=none,data:=.dict es ep,slots:=sl}:=fun hk=>by
  rcases hk with ⟨l,hl⟩|⟨l,hl⟩
  ·refine jp (fun m hm _=> ?_) (R.hr.obj _ _ hl);exact dic hm
  ·refine jp (fun m hm _=> ?_) (R.hr.obj _ _ hl);exact dic hm
 cases id<;>delta jcX at hk<;>try exact hk.elim
 obtain ⟨⟨hp,gs,dr,tk',os⟩,T⟩:=z
 ·refine VG (fun es ep sl hod=> ?_) (dic2 hk)
  exact v9 R tk h fun Q E q=>wV dm_get hod (fin Q q)
 ·refine VG (fun es ep sl hod=> ?_) (dic2 hk)
  exact v9 R tk h fun Q E q=>wV Vw hod (fin Q q)
 ·have hS:=R.hr.obj _ _ hk
  refine x4_4 (fun od es ep st hod hex hdd _=> ?_) hS
  obtain ⟨cl,dd,dt,sl⟩:=od
  refine wO ?_ hex;rintro rfl rfl _
  dsimp only at hdd;subst hdd
  exact v9 R tk h fun Q E q=>yO hod (fin Q q)
end
end
section
inductive Fl where
 |next|brk|cont|ret (v:AV)
noncomputable def FlR(g:Gh):Fl->Flow->Prop
 | .next,f=>f=.next
 | .brk,f=>f=.brk
 | .cont,f=>f=.cont
 | .ret v,f=>∃cv,f=.ret cv∧VR g v cv
def StG{α β:Type}(V:Gh->β->α->Prop)(F:Fm)(t:Sem α)(loc:Loc)(Z:Sig)(z:St)(Φ:β->Loc->Sig->Prop):Prop:=
 ∀(Q:α->Shared->Prop) (E:Value->Shared->Prop),(∀b l' Z' a z',Φ b l' Z'->F.Rel l' Z' z'.g->jJ (F.W Z) Z z Z' z'->TOk z'->V z'.g b a->Q a z'.s)->wpAny F.M F.A t Q E z.s
noncomputable abbrev UnV:Gh->Unit->Unit->Prop:=fun _ _ _=>True
noncomputable abbrev UnT:=StG UnV
noncomputable abbrev FlT:=StG FlR
section
variable {α β γ δ:Type} {V:Gh->β->α->Prop} {U:Gh->δ->γ->Prop} {F:Fm} {loc:Loc} {Z:Sig} {z:St}
theorem StG.bind{f:α->Sem γ}{Φ:β->Loc->Sig->Prop}{Ψ:δ->Loc->Sig->Prop}(h:StG V F m loc Z z Φ)
  (k:∀b lw1 Zw1 a zw1,Φ b lw1 Zw1->F.Rel lw1 Zw1 zw1.g->jJ (F.W Z) Z z Zw1 zw1->TOk zw1->V zw1.g b a->StG U F (f a) lw1 Zw1 zw1 Ψ):StG U F (m>>=f) loc Z z Ψ:=fun Q E q=>
 wpAny_bind (h _ E fun b lw1 Zw1 a zw1 p R x tk v=>k b lw1 Zw1 a zw1 p R x tk v Q E fun d lw2 Zw2 c zw2 p' R' x' tk' v'=>q d lw2 Zw2 c zw2 p' R' (x.trans x') tk' v')
theorem StG.pure{Ψ:β->Loc->Sig->Prop}(R:F.Rel loc Z z.g)(tk:TOk z)(v:V z.g b a)(h:Ψ b loc Z):StG V F (pure a) loc Z z Ψ:=fun Q E q=>
 wpAny_pure (q b loc Z a z h R .refl tk v)
theorem EvG.toSt{Φ:β->Loc->Sig->Prop}(h:EvG V F m loc Z z fun b Z'=>Φ b loc Z'):StG V F m loc Z z Φ:=fun Q E q=>
 h Q E fun b Z' a z' p R x tk v=>q b loc Z' a z' p R x tk v
theorem EvG.bindSt{f:α->Sem γ}{Φ:β->Sig->Prop}{Ψ:δ->Loc->Sig->Prop}(h:EvG V F m loc Z z Φ)
  (k:∀b Zw1 a zw1,Φ b Zw1->F.Rel loc Zw1 zw1.g->jJ (F.W Z) Z z Zw1 zw1->TOk zw1->V zw1.g b a->StG U F (f a) loc Zw1 zw1 Ψ):StG U F (m>>=f) loc Z z Ψ:=fun Q E q=>
 wpAny_bind (h _ E fun b Zw1 a zw1 p R x tk v=>k b Zw1 a zw1 p R x tk v Q E fun d lw2 Zw2 c zw2 p' R' x' tk' v'=>q d lw2 Zw2 c zw2 p' R' (x.trans x') tk' v')
theorem StG.standAt{Ψ:β->Loc->Sig->Prop}(h:StG V F m loc Z z Ψ):StG V F (standAt pos>>=fun _=>m) loc Z z Ψ:=fun Q E q=>wpAny_bind (wpAny_standAt (h Q E q))
theorem StG.holding{Ψ:β->Loc->Sig->Prop}(h:StG V F m loc Z z Ψ):StG V F (holding vs m) loc Z z Ψ:=fun Q E q=>wpAny_holding (h Q E q)
theorem StG.of_eq(e:m=m'){Ψ:β->Loc->Sig->Prop}(h:StG V F m' loc Z z Ψ):StG V F m loc Z z Ψ:=e▸h
structure FnOk(F:Fm):Prop where
 kind:F.env.scope.kind=.function
 nd:F.N.Nodup
theorem FnOk.hp(k:FnOk F):(F.env.scope.kind==.class||(F.env.scope.kind==.module&&F.env.locals !=F.env.globals))=false:=by rw[k.kind];rfl
theorem yY{Φ:Unit->Loc->Sig->Prop}(k:FnOk F)(R:F.Rel loc Z z.g)(tk:TOk z)(hN:F.N[i]? =some n)(hl:F.env.kindOf n=some .local)(hv:VR z.g v cv)(h:Φ () (upd loc i v) Z):UnT F (storeName F.env n cv) loc Z z Φ:=fun Q E q=>by
 refine jp (fun m hn hm=> ?_) R.ns
 refine wpAny_storeName_local hl hn (fun h' hn' hs'=> ?_) k.hp
 haveI kp:Kp (F.W Z) z.s.heap h':=fun b o hb e=>(hs'.2 b fun e'=>hb (.inl e')).trans e
 have im:Imm z.g ⟨h',z.T⟩:=R.imm kp (.refl _)
 refine q () _ Z () ⟨{z.s with heap:=h',toks:=z.s.toks+1},z.T⟩ h ⟨⟨fun a o e=> ?_,fun a o e=> ?_,R.hr.off,R.hr.tk⟩,⟨_,hn',fun j y u hj hu=> ?_⟩,R.offS,R.offK⟩ ⟨kp,fun b o e=> ?_,fun a d e=>absurd e d,rfl,Nat.le_succ _,_root_.id,.refl _⟩ (tk.le (Nat.le_succ _) rfl) trivial
 ·exact (hs'.2 a (by rintro rfl;exact kH R.offK e)).trans (R.hr.top a o e)
 ·exact (R.hr.obj a o e).imm im fun ob e'=>(hs'.2 a (by rintro rfl;have:=R.offS;rw[e]at this;contradiction)).trans e'
 ·by_cases hji:j=i
  ·subst hji
   rw[jc]at hu;cases hu
   rw[hN]at hj;cases hj
   exact .inl ⟨hl,cv,if_pos rfl,hv.imm im⟩
  ·rw[ji hji]at hu
   rcases hm j y u hj hu with ⟨h1,cu,h2,h3⟩|h1
   ·refine .inl ⟨h1,cu,?_,h3.imm im⟩
    show (if y=n then some cv else m y)=some cu
    rw[if_neg,h2]
    rintro rfl
    exact hji ((List.getElem?_inj (List.getElem?_eq_some_iff.mp hj).1 k.nd).mp (hj.trans hN.symm))
   ·exact .inr h1
 ·by_cases hb:b=F.env.locals
  ·refine yU (fun o' _ _ ho' _=> ?_) hn';subst hb
   rw[ho'];simp
  ·show h'.get? _≠none
   rw[hs'.2 b hb,e];simp
theorem jaz{Φ:Unit->Loc->Sig->Prop}(k:FnOk F)(R:F.Rel loc Z z.g)(tk:TOk z)(hN:F.N[i]? =some n)(hl:F.env.kindOf n=some .cell)(hloc:loc i=some (.ref c))(hc:Z c=some (.cell v0))(hv:VR z.g v cv)(h:Φ () loc (upd Z c (.cell (some v)))):UnT F (storeName F.env n cv) loc Z z Φ:=
 EvG.toSt (v8 R tk (a:=c) (o:=.cell (some v)) (by delta dom;rw[hc];simp) h fun Q E q=>by
  refine jp (fun m hn hm=> ?_) R.ns
  rcases hm i n _ hN hloc with ⟨h1,_⟩|⟨_,c',e,h2⟩
  ·cases hl.symm.trans h1
  cases h2
  refine qb (fun o r ho hdt _=> ?_) (R.hr.obj _ _ hc)
  delta storeName
  rw[hl,k.kind]
  refine wpAny_bind (wpAny_cellOf e ?_)
  refine wpAny_bind (wpAny_load ho ?_)
  rw[hdt]
  refine wpAny_update ho (q () _ z.s.toks z.T (.same tk (Nat.le_refl _)) (Heap.SameBut.update ..) fun im=>⟨⟨_,some cv,Heap.get?_update_self _ ho rfl,rfl,cv,rfl,hv.imm im⟩,trivial⟩))
theorem VRs.set:∀{l:List AV} {vs:List Value} {j:Nat} {x:AV} {v:Value},VRs g l vs->VR g x v->VRs g (l.set j x) (vs.set j v):=by
 intro v__
 induction v__ with
 |nil=>
  intro vs j x v h _
  subst h;rfl
 |cons a l ih=>
  intro vs j x v h hx
  refine qb ?_ h;rintro u r rfl p q
  cases j with
  |zero=>exact ⟨v,r,rfl,hx,q⟩
  |succ j=>exact ⟨u,_,rfl,p,ih q hx⟩
def wn(o k v:AV)(Z:Sig)(Φ:Sig->Prop):Prop:=on o (r:=fun a=>on k (i:=fun i=>(∃l,Z a=some (.list l)∧0≤i∧i<l.length∧i<2^62∧Φ (upd Z a (.list (l.set i.toNat v))))∨(∃l,Z a=some (.dI l)∧l.length≤1000∧Φ (upd Z a (.dI (zF l i v))))) (s:=fun s=>∃l,Z a=some (.dS l)∧l.length≤1000∧Φ (upd Z a (.dS (zF l s v)))))
theorem Xf{Φ:Unit->Sig->Prop}(R:F.Rel loc Z z.g)(tk:TOk z)(ho:VR z.g o ov)(hk:VR z.g k kv)(hv:VR z.g v cv)(h:wn o k v Z (Φ ())):EvG UnV F (setItem ov kv cv) loc Z z Φ:=by
 refine jx h ho False.elim z1 z2 z4 z4 (fun a h=>jx h hk False.elim z1 (fun i t h=> ?_) z4 (fun s t _ _ h=> ?_) z1 zt zt) zt zt
 ·rcases h with ⟨l,hl,h0,h1,h2,h⟩|⟨l,hl,hle,h⟩
  ·refine ky (fun ws n e1 v1=> ?_) (R.hr.obj _ _ hl)
   have hlen:=v1.length;simp only[Array.length_toList]at hlen
   refine v8 R tk (by delta dom;rw[hl];simp) h fun Q E q=> ?_
   haveI hT:z.s.TypeIs (.ref a) "list" :=⟨_,e1,rfl⟩
   delta setItem
   try with_reducible refine wpAny_holding ?_
   first|refine wpAny_bind (wpAny_pure ?_)|skip
   refine wpAny_bind (wpAny_sequenceKey hT rfl ?_)
   refine wpAny_bind (wpAny_callSpecial?_slot (name:=Str.ofString "__setitem__") hT PySem.F.slot_list_setitem
    (wpAny_call_entry PySem.F.slot_list_setitem hT PySem.F.entry_list_setitem ?_ (PySem.F.args_list_setitem_3 _ _ _)))
   show wpAny _ _ (Builtin.List.listSubscript? (.int i t)>>=_) _ _ z.s
   refine wpAny_bind (wpAny_listSubscript_int (fitsIndex_of h0 (by lia)) ?_)
   refine kg ?_ (Int.eq_ofNat_of_zero_le h0);rintro j rfl
   refine wpAny_bind (wpAny_bind (wpAny_seqItemAt e1 rfl (wpAny_pure ?_)))
   rw[(Array.getElem?_eq_getElem (by lia))]
   refine wpAny_bind (wpAny_setSeqItemAt e1 rfl ?_)
   have hset:∀im:Imm z.g ⟨z.s.heap.update a (Obj.mapSeq (·.setIfInBounds j cv)),z.T⟩,OR F.C.prog F.C.w ⟨z.s.heap.update a (Obj.mapSeq (·.setIfInBounds j cv)),z.T⟩ (.list (l.set (j:Int).toNat v)) a:=fun im=>by
    refine ⟨ws.setIfInBounds j cv,_,Heap.get?_update_self _ e1 rfl,?_⟩
    rw[Array.toList_setIfInBounds]
    exact ((v1.set hv).imm im)
   have hQ:=q () _ z.s.toks z.T (.same tk (Nat.le_refl _)) (Heap.SameBut.update ..) fun im=>⟨hset im,trivial⟩
   first
    |exact wpAny_bind (wpAny_pure (wpAny_pure ⟨.none,rfl,wpAny_pure hQ⟩))
    |exact wpAny_pure ⟨.none,rfl,wpAny_pure hQ⟩
  ·refine jp (fun m hm hg=> ?_) (R.hr.obj _ _ hl)
   have hml:=hg.length
   refine v8 R tk (by delta dom;rw[hl];simp) h fun Q E q=> ?_
   delta setItem
   try with_reducible refine wpAny_holding ?_
   first|refine wpAny_bind (wpAny_pure ?_)|skip
   refine wpAny_bind (wpAny_sequenceKey hm.typeIs (by decide) ?_)
   refine wpAny_bind (wpAny_callSpecial?_slot (name:=Str.ofString "__setitem__") hm.typeIs PySem.F.slot_dict_setitem
    (call_meetsIn PySem.F.slot_dict_setitem hm.typeIs PySem.F.entry_dict_setitem (PySem.F.args_dict_setitem_3 _ _ _) (meets_dict_setitem_pairs (PySem.intKind F.C.prog F.C.w) _ V7 cv) ⟨m,hm,by have:=jH;lia,fun h' hm' hs'=> ?_⟩))
   exact wpAny_pure (q () h' _ z.T (.same tk (Nat.le_succ _)) hs' fun im=>⟨⟨_,hm',(hg.imm im).put (hv.imm im)⟩,trivial⟩)
 ·refine jX (fun l hl hle h=> ?_) h
  refine jp (fun m hm hg=> ?_) (R.hr.obj _ _ hl)
  have hml:=hg.length
  refine v8 R tk (by delta dom;rw[hl];simp) h fun Q E q=> ?_
  delta setItem
  try with_reducible refine wpAny_holding ?_
  first|refine wpAny_bind (wpAny_pure ?_)|skip
  refine wpAny_bind (wpAny_sequenceKey hm.typeIs (by decide) ?_)
  refine wpAny_bind (wpAny_callSpecial?_slot (name:=Str.ofString "__setitem__") hm.typeIs PySem.F.slot_dict_setitem
   (call_meetsIn PySem.F.slot_dict_setitem hm.typeIs PySem.F.entry_dict_setitem (PySem.F.args_dict_setitem_3 _ _ _) (meets_dict_setitem_pairs (PySem.strKind F.C.prog F.C.w) _ qv cv) ⟨m,hm,by have:=jH;lia,fun h' hm' hs'=> ?_⟩))
  exact wpAny_pure (q () h' _ z.T (.same tk (Nat.le_succ _)) hs' fun im=>⟨⟨_,hm',(hg.imm im).put (hv.imm im)⟩,trivial⟩)
end
end
section
noncomputable abbrev WE:=Loc->Sig->K1->Prop
noncomputable abbrev WL:=Loc->Sig->(List AV->Sig->Prop)->Prop
noncomputable abbrev WT:=Loc->Sig->(Bool->Sig->Prop)->Prop
def Sp(F:Fm)(e:PySem.Expr)(W:WE):Prop:=∀loc Z z Ψ,F.Rel loc Z z.g->TOk z->W loc Z Ψ->kK F (eval e F.env) loc Z z Ψ
def SpL(F:Fm)(pos:Pos)(es:List PySem.Expr)(W:WL):Prop:=((backTo pos (starEach es F.env)).any (·.1)=false∧(backTo pos (starEach es F.env)=[]->∀loc Z Φ,W loc Z Φ->Φ [] Z))∧∀loc Z z Φ,F.Rel loc Z z.g->TOk z->W loc Z Φ->EvL F (spliced (backTo pos (starEach es F.env))) loc Z z Φ
def SpT(F:Fm)(e:PySem.Expr)(W:WT):Prop:=∀loc Z z Φ,F.Rel loc Z z.g->TOk z->W loc Z Φ->TrAt F (isTrue e F.env (eval e F.env)) loc Z z Φ
def jC(C:Cx)(lv:Nat)(f:AV)(xs:List AV)(Z:Sig)(Ψ:K1):Prop:=
 ∀(A:Around) (z:St) (fv:Value) (vs:List Value) (R:Result->Shared->Prop),A.handled=none->A.depth+lv≤500->A.units+10*lv≤1000->qa C Z z.g->TOk z->VR z.g f fv->VRs z.g xs vs->
  (∀av Z' cv z',Ψ av Z'->qa C Z' z'.g->jJ (dom Z) Z z Z' z'->TOk z'->VR z'.g av cv->R (.ok (.ret cv)) z'.s)->codeAny (model C.prog C.w) A (.call fv ⟨vs,[]⟩) R z.s
def CallS(C:Cx)(lv:Nat)(f:AV)(xs:List AV)(Z:Sig)(Ψ:K1):Prop:=
 ∀(F:Fm) (loc:Loc) (z:St) (fv:Value) (vs:List Value),F.C=C->F.lv=lv->F.Rel loc Z z.g->TOk z->VR z.g f fv->VRs z.g xs vs->kK F (call fv vs) loc Z z Ψ
def zP(C:Cx)(lv:Nat)(f:AV)(xs:List AV)(Z:Sig)(Ψ:K1):Prop:=match f with
 | .bi id=>wB C id xs Z Ψ
 | .bm id self=>(id=.dget∨id=.dhas∨id=.shas)∧wB C id (self::xs) Z Ψ
 | .ref a=>a∈FNS∧jC C lv (.ref a) xs Z Ψ
 | .ty n=>CallS C lv (.ty n) xs Z Ψ
 |_=>False
structure FnW(F:Fm)(KS:List NameKind)(GT:List (Str×AV)):Prop extends FnOk F where
 kinds:∀(i:Nat) (n:Str) (k:NameKind),F.N[i]? =some n->KS[i]? =some k->F.env.kindOf n=some k
 dbg:∀n∈F.N,(n==("__debug__" :Str))=false∧(n==("__classdict__" :Str))=false
 glb:∀p∈GT,F.env.kindOf p.1=some .globalImplicit∧(p.1==("__debug__" :Str))=false∧∃v,w9 F.C.K F.env.globals F.env.builtins p.1=some v∧∀g,VR g p.2 v
section
variable {F:Fm} {KS:List NameKind} {GT:List (Str×AV)}
theorem sp_var(k:FnW F KS GT)(i:Nat)(hN:F.N[i]? =some n)(hK:KS[i]? =some NameKind.local):Sp F (.Name n pos) fun loc Z Ψ=>∃x,loc i=some x∧Ψ x Z:=fun loc Z z Ψ R tk q__=>jp (fun x hx h=>
 e_var R tk hN hx k.kind (k.kinds i n _ hN hK) (k.dbg n (List.mem_of_getElem? hN)).1 h) q__
theorem sp_cel(k:FnW F KS GT)(i:Nat)(hN:F.N[i]? =some n)(hK:KS[i]? =some kd)(hk:kd=.cell∨kd=.free):Sp F (.Name n pos) fun loc Z Ψ=>∃c x,loc i=some (.ref c)∧Z c=some (.cell (some x))∧Ψ x Z:=fun loc Z z Ψ R tk=>qb fun c x hc hx h=>by
 have h2:=k.dbg n (List.mem_of_getElem? hN)
 exact e_cel R tk hN hc k.kind (by rcases hk with rfl|rfl<;>simp[(k.kinds i n _ hN hK)]) h2.1 h2.2 hx h
theorem sp_glb(k:FnW F KS GT)(i:Nat)(hG:GT[i]? =some (n,x)):Sp F (.Name n pos) fun _ Z Ψ=>Ψ x Z:=fun loc Z z Ψ R tk h=>by
 obtain ⟨h1,h2,v,h3,h4⟩:=k.glb _ (List.mem_of_getElem? hG)
 exact e_glob R tk h3 (h4 _) k.kind h1 h2 h
theorem sp_int:Sp F (.Constant (.int i) k pos) fun _ Z Ψ=>Ψ (.int i) Z:=fun _ _ _ _ R tk h=>e_int R tk h
theorem sp_flt:Sp F (.Constant (.float b) k pos) fun _ Z Ψ=>Ψ (.flt b) Z:=fun _ _ _ _ R tk h=>e_flt R tk h
theorem sp_str:Sp F (.Constant (.str b) k pos) fun _ Z Ψ=>Ψ (.str b) Z:=fun _ _ _ _ R tk h=>e_str R tk h
theorem sp_none:Sp F (.Constant .none k pos) fun _ Z Ψ=>Ψ .none Z:=fun _ _ _ _ R tk h=>e_none R tk h
theorem sp_bool:Sp F (.Constant (.bool b) k pos) fun _ Z Ψ=>Ψ (.bool b) Z:=fun _ _ _ _ R tk h=>Xh R tk h
theorem sp_dead:Sp F e fun _ _ _=>False:=fun _ _ _ _ _ _ h=>h.elim
theorem VRs.pair(p:VR g x a)(q:VR g y b):VRs g [x,y] [a,b]:=by exact ⟨_,_,rfl,p,_,_,rfl,q,rfl⟩
theorem sp_bin(hl:Sp F l Wl)(hr:Sp F r Wr):Sp F (.BinOp l op r pos) fun loc Z Ψ=>Wl loc Z fun x Zw1=>Wr loc Zw1 fun y Zw2=>wY op x y Zw2 Ψ:=fun loc Z z Ψ R tk h Q E q=>
 wpAny_BinOp (hl _ _ _ _ R tk h _ E fun x Zw1 a zw1 p Rw1 sw1 tkw1 vw1=>hr _ _ _ _ Rw1 tkw1 p _ E fun y Zw2 b zw2 pw2 Rw2 sw2 tkw2 vw2=>
  ev_bin1 op Rw2 tkw2 (vw1.imm (sw2.imm Rw1)) vw2 pw2 Q E fun av Z' cv z' p' R' s' tk' v'=>q av Z' cv z' p' R' (sw1.trans (sw2.trans s')) tk' v')
theorem sp_cmp(hl:Sp F l Wl)(hr:Sp F r Wr)(hm:behindInMarks op r=false):Sp F (.Compare l [op] [r] pos) fun loc Z Ψ=>Wl loc Z fun x Zw1=>Wr loc Zw1 fun y Zw2=>vG op x y Zw2 Ψ:=fun loc Z z Ψ R tk h Q E q=>
 wpAny_Compare1 (hl _ _ _ _ R tk h _ E fun x Zw1 a zw1 p Rw1 sw1 tkw1 vw1=>hr _ _ _ _ Rw1 tkw1 p _ E fun y Zw2 b zw2 pw2 Rw2 sw2 tkw2 vw2=>
  zL op Rw2 tkw2 (vw1.imm (sw2.imm Rw1)) vw2 pw2 Q E fun av Z' cv z' p' R' s' tk' v'=>q av Z' cv z' p' R' (sw1.trans (sw2.trans s')) tk' v') hm
def wNeg(x:AV)(Z:Sig)(Ψ:K1):Prop:=on x (i:=fun i=>Ψ (.int (-i)) Z)
theorem sp_neg(he:Sp F e W):Sp F (.UnaryOp .USub e pos) fun loc Z Ψ=>W loc Z fun x Zw1=>wNeg x Zw1 Ψ:=fun loc Z z Ψ R tk h Q E q=>
 wpAny_UnaryOp (he _ _ _ _ R tk h _ E fun x Zw1 a zw1 p Rw1 sw1 tkw1 vw1=>jx p vw1 False.elim z1 (fun i t p=>PyProof.Rows.neg_int (q _ Zw1 _ ⟨{zw1.s with toks:=zw1.s.toks+1},zw1.T⟩ p (Rw1.ext (Ext.refl _) (.refl _)) (sw1.trans (.ext (Ext.refl _) rfl (Nat.le_succ _) id (.refl _))) (tkw1.le (Nat.le_succ _) rfl) kQ)) z4 z4 z1 zt zt)
theorem sp_ife(ht:SpT F t Wt)(hb:Sp F b Wb)(ho:Sp F o Wo):Sp F (.IfExp t b o pos) fun loc Z Ψ=>Wt loc Z fun c Zw1=>(c=true->Wb loc Zw1 Ψ)∧(c=false->Wo loc Zw1 Ψ):=fun loc Z z Ψ R tk h Q E q=>
 wpAny_IfExp (ht _ _ _ _ R tk h _ E fun c Zw1 a zw1 p Rw1 sw1 tkw1 vw1=>by
  subst vw1
  cases a with
  |true=>exact hb _ _ _ _ Rw1 tkw1 (p.1 rfl) Q E fun av Z' cv z' p' R' s' tk' v'=>q av Z' cv z' p' R' (sw1.trans s') tk' v'
  |false=>exact ho _ _ _ _ Rw1 tkw1 (p.2 rfl) Q E fun av Z' cv z' p' R' s' tk' v'=>q av Z' cv z' p' R' (sw1.trans s') tk' v')
theorem yo:SpL F pos [] fun _ Z Φ=>Φ [] Z:=⟨⟨rfl,fun _ _ _ _ h=>h⟩,fun _ _ _ _ R tk h=>jcr R tk h⟩
theorem UI{e:PySem.Expr}(hs:∀x p,e≠.Starred x p)(pos:Pos)(rest:List PySem.Expr)(env:Env):backTo pos (starEach (e::rest) env)=(false,eval e env)::backTo pos (starEach rest env):=by
 cases e with
 |Starred x p=>exact absurd rfl (hs _ _)
 |_=>rfl
theorem wq(hs:∀x p,e≠.Starred x p)(he:Sp F e We)(hr:SpL F pos rest Wr):SpL F pos (e::rest) fun loc Z Φ=>We loc Z fun x Zw1=>Wr loc Zw1 fun xs Zw2=>Φ (x::xs) Zw2:=by
 have e1:=UI hs pos rest F.env
 refine ⟨⟨?_,fun e=>by cases e1.symm.trans e⟩,fun loc Z z Φ R tk h=> ?_⟩
 ·simp only[e1,List.any_cons,hr.1.1];rfl
 ·rw[e1]
  exact el_cons R (he _ _ _ _ R tk h) fun x Zw1 zw1 p Rw1 tkw1=>hr.2 _ _ _ _ Rw1 tkw1 p
theorem sp_tup(h:SpL F pos es W):Sp F (.Tuple es k pos) fun loc Z Ψ=>W loc Z fun xs Zw1=>xs.length≤1000∧Ψ (.tup xs) Zw1:=fun loc Z z Ψ R tk hw=>by
 exact EvG.standAt (EvG.bind (h.2 _ _ _ _ R tk hw) fun xs Zw1 vs zw1 p Rw1 sw1 tkw1 vw1=>Xg Rw1 tkw1 vw1 p.1 p.2)
theorem sp_lst(h:SpL F pos es W):Sp F (.List es pos) fun loc Z Ψ=>W loc Z fun xs Zw1=>xs.length≤1000∧∀a,Zw1 a=none->Ψ (.ref a) (upd Zw1 a (.list xs)):=fun loc Z z Ψ R tk hw=>by
 exact EvG.standAt (EvG.bind (h.2 _ _ _ _ R tk hw) fun xs Zw1 vs zw1 p Rw1 sw1 tkw1 vw1=>ZF Rw1 tkw1 vw1 p.1 p.2)
theorem sp_dctS:Sp F (.Dict [] [] pos) fun loc Z Ψ=>∀a,Z a=none->Ψ (.ref a) (upd Z a (.dS [])):=fun loc Z z Ψ R tk h=>jcs R tk (.inl rfl) h
theorem sp_dctI:Sp F (.Dict [] [] pos) fun loc Z Ψ=>∀a,Z a=none->Ψ (.ref a) (upd Z a (.dI [])):=fun loc Z z Ψ R tk h=>jcs R tk (.inr rfl) h
theorem sp_sub(hv:Sp F v Wv)(hi:Sp F i Wi):Sp F (.Subscript v i pos) fun loc Z Ψ=>Wv loc Z fun x Zw1=>Wi loc Zw1 fun y Zw2=>yf x y Zw2 Ψ:=fun loc Z z Ψ R tk h Q E q=>
 Subscript_ (hv _ _ _ _ R tk h _ E fun x Zw1 a zw1 p Rw1 sw1 tkw1 vw1=>hi _ _ _ _ Rw1 tkw1 p _ E fun y Zw2 b zw2 pw2 Rw2 sw2 tkw2 vw2=>by
  have vx:=vw1.imm (sw2.imm Rw1)
  refine ky (fun T id hT hl=> ?_) (gt_item Rw2 vx vw2 pw2)
  exact jce hT hl (jcf Rw2 tkw2 vx vw2 pw2) Q E fun av Z' cv z' p' R' s' tk' v'=>q av Z' cv z' p' R' (sw1.trans (sw2.trans s')) tk' v')
end
end
section
section
variable {F:Fm} {KS:List NameKind} {GT:List (Str×AV)}
def SpO(F:Fm)(o:Option PySem.Expr)(W:WE):Prop:=∀loc Z z Ψ,F.Rel loc Z z.g->TOk z->W loc Z Ψ->kK F (valueOrNone (evalOpt o F.env)) loc Z z Ψ
theorem jaN:SpO F none fun _ Z Ψ=>Ψ .none Z:=fun loc Z z Ψ R tk h=>EvG.pure R tk vT h
theorem jaM(he:Sp F e W):SpO F (some e) W:=fun loc Z z Ψ R tk h=>he _ _ _ _ R tk h
theorem OG{Θ:Option Int->Prop}(hx:VR g x a)(h:zN x Θ):∃o,IsPart a o∧Θ o:=
 jx h hx (fun h=>⟨_,.none,h⟩) z1 (fun _ _ h=>⟨_,.int _ _,h⟩) z4 z4 z1 zt zt
theorem sp_slc{v:PySem.Expr}{lo hi:Option PySem.Expr}{p pos:Pos}{Wv Wl Wh:WE}(hv:Sp F v Wv)(hlo:SpO F lo Wl)(hhi:SpO F hi Wh):
  Sp F (.Subscript v (.Slice lo hi none p) pos) fun loc Z Ψ=>Wv loc Z fun x Zw1=>Wl loc Zw1 fun l Zw2=>Wh loc Zw2 fun h Zw3=>zN l fun lo=>zN h fun hi=>zM F.C x lo hi Zw3 Ψ:=fun loc Z z Ψ R tk h Q E q=>
 Subscript_ (hv _ _ _ _ R tk h _ E fun x Zw1 a zw1 pw1 Rw1 sw1 tkw1 vw1=>by
  refine wpAny_bind (hlo _ _ _ _ Rw1 tkw1 pw1 _ E fun l Zw2 lv zw2 pw2 Rw2 sw2 tkw2 vw2=>wpAny_bind (wpAny_holding (hhi _ _ _ _ Rw2 tkw2 pw2 _ E fun u Zw3 uv z3 pw3 Rw3 s3 tk3 vw3=>wpAny_bind (wpAny_holding ?_))))
  refine wpAny_pure ?_
  refine wpAny_newObj_type ?_ (by have:=jH;show (3:Nat)≤sizeLine+2;lia)
  let zw4:St:=⟨{z3.s with heap:=z3.s.heap.push {cls:=.type "slice",data:=.fields [lv,uv,.none].toArray}},z3.T⟩
  have xw4:Ext z3.s.heap zw4.s.heap:=Ext.push _ _
  have R4:F.Rel loc Zw3 zw4.g:=Rw3.ext xw4 (.refl _)
  have s4:jJ (F.W Zw3) Zw3 z3 Zw3 zw4:=.ext xw4 rfl (Nat.le_refl _) id (.refl _)
  refine jp (fun ow1 iw1 ww1=> ?_) (OG (vw2.imm (s3.imm Rw2)) pw3)
  refine jp (fun ow2 iw2 ww2=> ?_) (OG vw3 ww1)
  have vx:=((vw1.imm (sw2.imm Rw1)).imm (s3.imm Rw2)).imm (s4.imm Rw3)
  refine ky (fun T id hT hl=> ?_) (jb5 R4 vx ww2)
  exact jce hT hl (ZD R4 (tk3.le (Nat.le_refl _) rfl) vx ⟨_,Heap.get?_push_size _ rfl,rfl,rfl⟩ iw1 iw2 ww2) Q E fun av Z' cv z' p' R' s' tk' v'=>q av Z' cv z' p' R' (sw1.trans (sw2.trans (s3.trans (s4.trans s')))) tk' v')
theorem sp_fld(i:Nat)(hn:FN[i]? =some n)(hno:∀f a k p,o≠.Call f a k p)(ho:Sp F o Wo):
  Sp F (.Attribute o n pos) fun loc Z Ψ=>Wo loc Z fun x Zw1=>∃ad d f v,x=.ref ad∧Zw1 ad=some (.inst SMA d)∧Zw1 d=some (.ns f)∧f i=some v∧Ψ v Zw1:=fun loc Z z Ψ R tk h=>by
 rw[arm_eval_Attribute,qB hno]
 refine EvG.bind (ho _ _ _ _ R tk h) fun x Zw1 a zw1 p Rw1 sw1 tkw1 vw1=>EvG.standAt ?_
 refine UN ?_ p;rintro ad d f v rfl h1 h2 h3 h4
 subst vw1
 refine EvG.bind (Φ:=fun u τ=>Ψ u τ) (EvG.holding (jcg Rw1 tkw1 h1 h2 hn h3 h4)) fun u Zw2 b zw2 pw2 Rw2 sw2 tkw2 vw2=>fun Q E q=>wpAny_bind (wpAny_letTemporaryGo (wpAny_pure (q u Zw2 b zw2 pw2 Rw2 .refl tkw2 vw2)))
theorem sp_bma(id:Bn)(hn:id.bmName=n)(hno:∀f a k p,o≠.Call f a k p)(ho:Sp F o Wo):
  Sp F (.Attribute o n pos) fun loc Z Ψ=>Wo loc Z fun x Zw1=>∃d,x=.ref d∧jcX id d Zw1∧Ψ (.bm id (.ref d)) Zw1:=fun loc Z z Ψ R tk h=>by
 subst hn
 rw[arm_eval_Attribute,qB hno]
 refine EvG.bind (ho _ _ _ _ R tk h) fun x Zw1 a zw1 p Rw1 sw1 tkw1 vw1=>EvG.standAt ?_
 refine jX ?_ p;rintro d rfl h1 h2
 subst vw1
 refine EvG.bind (Φ:=fun u τ=>Ψ u τ) (EvG.holding (ZE id Rw1 tkw1 h1 h2)) fun u Zw2 b zw2 pw2 Rw2 sw2 tkw2 vw2=>fun Q E q=>wpAny_bind (wpAny_letTemporaryGo (wpAny_pure (q u Zw2 b zw2 pw2 Rw2 .refl tkw2 vw2)))
theorem YE(R:F.Rel loc Z z.g)(tk:TOk z)(hf:VR z.g f fv)(hv:VRs z.g xs vs)(h:zP F.C F.lv f xs Z Ψ):kK F (call fv vs) loc Z z Ψ:=by
 cases f with
 |bi id=>subst hf;exact ev_B _ R tk hv h
 |bm id self=>exact ev_bm _ R tk hf hv h.1 h.2
 |ty n=>exact h F loc z fv vs rfl rfl R tk hf hv
 |ref a=>
  intro Q E q
  refine wpAny_call (h.2 F.A z fv vs _ F.hh F.hd F.hu R.hr tk hf hv fun av Z' cv z' p H s' tk' v'=> ?_)
  have s2:jJ (F.W Z) Z z Z' z':=s'.widen fun b hb=>.inr hb
  refine q av Z' cv z' p ?_ s2 tk' v'
  refine jp (fun m hn hm=> ?_) R.ns
  refine kg (fun oL hoL=> ?_) (by refine yU (fun o _ _ ho _=> ?_) hn;exact ⟨o,ho⟩)
  refine ⟨H,⟨m,hn.at' fun o e=>s'.kp _ _ (fun hd=>hd R.offS) e,fun i y v e l=>(hm i y v e l).imm (s2.imm R)⟩,?_,R.offK⟩
  cases e:Z' F.env.locals with
  |none=>rfl
  |some o=>
   have:=s'.new F.env.locals (by delta dom;rw[e];simp) R.offS
   cases hoL.symm.trans this
 |_=>exact False.elim h
theorem Ur{f:AV}{fv:Value}{z:St}(hf:VR z.g f fv)(h:(∃id,f=.bi id)∨(∃id s,f=.bm id s)∨(∃n,f=.ty n)∨∃a,f=.ref a∧a∈FNS):∀z':St,Imm z.g z'.g->F.C.K.In z'.s.heap->qL F.M fv z'.s.heap:=by
 intro z' im X'
 rcases h with ⟨id,rfl⟩|⟨id,s,rfl⟩|⟨n,rfl⟩|⟨a,rfl,ht⟩
 ·subst hf;exact qj
 ·have:=hf.imm im
  refine ZP ?_ this;rintro b o cv rfl ho hc hd _
  exact keep_bm ho hc hd
 ·subst hf;exact ze
 ·subst hf
  refine jp (fun k hk hl=> ?_) (looks_keep (M:=F.M) (F.C.fns a ht) X')
  exact ⟨k,by rcases hk with h|h<;>simp[h],hl⟩
def qA(f:AV):Prop:=match f with
 | .bi _| .bm _ _| .ty _=>True
 | .ref a=>a∈FNS
 |_=>False
theorem qA.cases(h:qA f):(∃id,f=.bi id)∨(∃id s,f=.bm id s)∨(∃n,f=.ty n)∨∃a,f=.ref a∧a∈FNS:=by
 cases f with
 |bi=>exact .inl ⟨_,rfl⟩
 |bm=>exact .inr (.inl ⟨_,_,rfl⟩)
 |ty=>exact .inr (.inr (.inl ⟨_,rfl⟩))
 |ref=>exact .inr (.inr (.inr ⟨_,rfl,h⟩))
 |_=>exact False.elim h
theorem sp_call{x:Str}{np pos:Pos}{args:List PySem.Expr}{Wf:WE}{Wa:WL}(hf:Sp F (.Name x np) Wf)(ha:SpL F pos args Wa):
  Sp F (.Call (.Name x np) args [] pos) fun loc Z Ψ=>Wf loc Z fun f Zw1=>qA f∧Wa loc Zw1 fun xs Zw2=>zP F.C F.lv f xs Zw2 Ψ:=fun loc Z z Ψ R tk h Q E q=>
 wpAny_Call_ofName (hf _ _ _ _ R tk h _ E fun f Zw1 fv zw1 p Rw1 sw1 tkw1 vw1=>by
  refine qq (first:=[]) Rw1 ha.1.1 (Ur vw1 p.1.cases) tkw1 (fun e=>ha.1.2 e _ _ _ p.2) (ha.2 _ _ _ _ Rw1 tkw1 p.2) (fun xs Zw2 vs zw2 pw2 Rw2 imw2 tkw2 vw2=>YE Rw2 tkw2 (vw1.imm imw2) vw2 pw2) Q E fun av Z' cv z' p' R' s' tk' v'=>q av Z' cv z' p' R' (sw1.trans s') tk' v')
theorem jaU(id:Bn)(hn:id.meth=n)(hno:∀f a k p,o≠.Call f a k p)(hl:args.length<25)(hline:(apos.endLine==pos.line)=true)(ho:Sp F o Wo)(ha:SpL F pos args Wa):
  Sp F (.Call (.Attribute o n apos) args [] pos) fun loc Z Ψ=>Wo loc Z fun x Zw1=>MOk id x Zw1∧Wa loc Zw1 fun xs Zw2=>wB F.C id (x::xs) Zw2 Ψ:=fun loc Z z Ψ R tk h=>by
 subst hn
 refine Kx R hno hl ha.1.1 hline (ho _ _ _ _ R tk h) fun x Zw1 a zw1 p Rw1 tkw1 vw1=>⟨_,_,jbz id Rw1 vw1 p.1,?_⟩
 refine qq (first:=[a]) Rw1 ha.1.1 (fun _ _ _=>qj) tkw1 (fun e=>ha.1.2 e _ _ _ p.2) (ha.2 _ _ _ _ Rw1 tkw1 p.2) fun xs Zw2 vs zw2 pw2 Rw2 imw2 tkw2 vw2=> ?_
 exact ev_B id Rw2 tkw2 (by exact ⟨_,_,rfl,vw1.imm imw2,vw2⟩) pw2
theorem MTS_fns:∀p∈MTS,p.2∈FNS∧p.1∉FN:=by decide+kernel
theorem jaT{o:PySem.Expr}{n:Str}{apos pos:Pos}{args:List PySem.Expr}{Wo:WE}{Wa:WL}(i:Nat){fa:Addr}(hn:MTS[i]? =some (n,fa))(hno:∀f a k p,o≠.Call f a k p)(hl:args.length<25)(hline:(apos.endLine==pos.line)=true)(ho:Sp F o Wo)(ha:SpL F pos args Wa):
  Sp F (.Call (.Attribute o n apos) args [] pos) fun loc Z Ψ=>Wo loc Z fun x Zw1=>∃ad d f,x=.ref ad∧Zw1 ad=some (.inst SMA d)∧Zw1 d=some (.ns f)∧Wa loc Zw1 fun xs Zw2=>jC F.C F.lv (.ref fa) (x::xs) Zw2 Ψ:=fun loc Z z Ψ R tk h=>by
 have hm:=List.mem_of_getElem? hn
 refine kC (fun hf hi=> ?_) (F.C.mts _ hm)
 refine kC (fun h1 h2=> ?_) (MTS_fns _ hm)
 refine Kx R hno hl ha.1.1 hline (ho _ _ _ _ R tk h) fun x Zw1 a zw1 p Rw1 tkw1 vw1=> ?_
 refine KT ?_ p;rintro ad d f rfl q1 q2 p
 subst vw1
 refine ⟨_,_,meth_I Rw1 q1 q2 h2 hf hi,?_⟩
 refine qq (first:=[.ref ad]) Rw1 ha.1.1 (Ur (f:=.ref fa) (z:=zw1) (by rfl) (.inr (.inr (.inr ⟨fa,rfl,h1⟩)))) tkw1 (fun e=>ha.1.2 e _ _ _ p) (ha.2 _ _ _ _ Rw1 tkw1 p) fun xs Zw2 vs zw2 pw2 Rw2 imw2 tkw2 vw2=> ?_
 exact YE (f:=.ref fa) Rw2 tkw2 (by rfl) (by exact ⟨_,_,rfl,by rfl,vw2⟩) ⟨h1,pw2⟩
theorem spt_not(h:SpT F e W):SpT F (.UnaryOp .Not e pos) fun loc Z Φ=>W loc Z fun b Zw1=>Φ (!b) Zw1:=fun loc Z z Φ R tk hw Q E q=>
 wpAny_isTrue_Not (h _ _ _ _ R tk hw _ E fun b Zw1 a zw1 p Rw1 sw1 tkw1 vw1=>q (!b) Zw1 (!a) zw1 p Rw1 sw1 tkw1 (by have e:a=b:=vw1;rw[e]))
theorem spt_cmp(hl:Sp F l Wl)(hr:Sp F r Wr)(hm:behindInMarks op r=false):SpT F (.Compare l [op] [r] pos) fun loc Z Φ=>Wl loc Z fun x Zw1=>Wr loc Zw1 fun y Zw2=>vG op x y Zw2 fun c Zw3=>∃b,c=.bool b∧Φ b Zw3:=fun loc Z z Φ R tk h Q E q=>
 wpAny_isTrue_Compare1 (hl _ _ _ _ R tk h _ E fun x Zw1 a zw1 p Rw1 sw1 tkw1 vw1=>hr _ _ _ _ Rw1 tkw1 p _ E fun y Zw2 b zw2 pw2 Rw2 sw2 tkw2 vw2=>
  zL op Rw2 tkw2 (vw1.imm (sw2.imm Rw1)) vw2 pw2 _ E fun av Z' cv z' p' R' s' tk' v'=>by
   refine jp ?_ p';rintro b rfl p'
   subst v'
   exact wpAny_truthy_bool (q b Z' b z' p' R' (sw1.trans (sw2.trans s')) tk' rfl)) hm
theorem Y1(hl:Sp F l Wl)(hm:Sp F m Wm)(hr:Sp F r Wr)(hk:lastMarks [ow1,ow2] [m,r]=false):
  SpT F (.Compare l [ow1,ow2] [m,r] pos) fun loc Z Φ=>Wl loc Z fun x Zw1=>Wm loc Zw1 fun y Zw2=>vG ow1 x y Zw2 fun c Zw3=>∃b,c=.bool b∧(b=false->Φ false Zw3)∧(b=true->Wr loc Zw3 fun u Zw4=>vG ow2 y u Zw4 fun c Z5=>∃b,c=.bool b∧Φ b Z5):=fun loc Z z Φ R tk h Q E q=>
 isTrue_chain (hl _ _ _ _ R tk h _ E fun x Zw1 a zw1 p Rw1 sw1 tkw1 vw1=>test_link (hm _ _ _ _ Rw1 tkw1 p _ E fun y Zw2 b zw2 pw2 Rw2 sw2 tkw2 vw2=>
  zL ow1 Rw2 tkw2 (vw1.imm (sw2.imm Rw1)) vw2 pw2 _ E fun av Zw3 cv z3 pw3 Rw3 s3 tk3 vw3=>by
   obtain ⟨b',rfl,pf,pt⟩:=pw3
   subst vw3
   refine wpAny_truthy_bool ?_
   cases b' with
   |false=>exact q false Zw3 false z3 (pf rfl) Rw3 (sw1.trans (sw2.trans s3)) tk3 rfl
   |true=>
    refine test_last (hr _ _ _ _ Rw3 tk3 (pt rfl) _ E fun u Zw4 d zw4 pw4 R4 s4 tk4 v4=>zL ow2 R4 tk4 ((vw2.imm (s3.imm Rw2)).imm (s4.imm Rw3)) v4 pw4 _ E fun av Z' cv z' p' R' s' tk' v'=> ?_)
    obtain ⟨b,rfl,p'⟩:=p'
    subst v'
    exact wpAny_truthy_bool (q b Z' b z' p' R' (sw1.trans (sw2.trans (s3.trans (s4.trans s')))) tk' rfl))) hk
theorem spt_val(he:Sp F e W)(hp:∀w,isTrue e F.env w=(do let v←w;standAt e.pos;holding [v] (truthy v))):SpT F e fun loc Z Φ=>W loc Z fun x Zw1=>OQ x Zw1 fun b=>Φ b Zw1:=fun loc Z z Φ R tk h Q E q=>
 isTrue_plain (he _ _ _ _ R tk h _ E fun x Zw1 a zw1 p Rw1 sw1 tkw1 vw1=>YZ Rw1 tkw1 vw1 p Q E fun b Z' c z' p' R' s' tk' v'=>q b Z' c z' p' R' (sw1.trans s') tk' v') (hp _)
theorem jaE:SpT F (.BoolOp .And [] pos) fun _ Z Φ=>Φ true Z:=fun loc Z z Φ R tk h Q E q=>isTrue_and_nil (q true Z true z h R .refl tk rfl)
theorem spt_and(hx:SpT F x Wx)(hr:SpT F (.BoolOp .And rest pos) Wr):SpT F (.BoolOp .And (x::rest) pos) fun loc Z Φ=>Wx loc Z fun b Zw1=>(b=false->Φ false Zw1)∧(b=true->Wr loc Zw1 Φ):=fun loc Z z Φ R tk h Q E q=>
 isTrue_and (hx _ _ _ _ R tk h _ E fun b Zw1 a zw1 p Rw1 sw1 tkw1 vw1=>by
  subst vw1
  cases a with
  |false=>exact q false Zw1 false zw1 (p.1 rfl) Rw1 sw1 tkw1 rfl
  |true=>
   exact hr _ _ _ _ Rw1 tkw1 (p.2 rfl) Q E fun b Z' c z' p' R' s' tk' v'=>q b Z' c z' p' R' (sw1.trans s') tk' v')
end
end
section
noncomputable abbrev WA:=AV->Loc->Sig->(Loc->Sig->Prop)->Prop
noncomputable abbrev WAL:=List AV->Loc->Sig->(Loc->Sig->Prop)->Prop
noncomputable abbrev WS:=Loc->Sig->(Fl->Loc->Sig->Prop)->Prop
def SpA(F:Fm)(t:PySem.Expr)(W:WA):Prop:=∀v cv loc Z z Φ,F.Rel loc Z z.g->TOk z->VR z.g v cv->W v loc Z Φ->UnT F (assign t F.env cv) loc Z z fun _=>Φ
def SpS(F:Fm)(s:Stmt)(W:WS):Prop:=∀loc Z z Φ,F.Rel loc Z z.g->TOk z->W loc Z Φ->FlT F (exec s F.env) loc Z z Φ
def SpB(F:Fm)(b:List Stmt)(W:WS):Prop:=∀loc Z z Φ,F.Rel loc Z z.g->TOk z->W loc Z Φ->FlT F (execs b F.env) loc Z z Φ
structure Oo(F:Fm)(ts:List PySem.Expr)(W:WAL):Prop where
 len:(assignEach ts F.env).length=ts.length
 star:(assignEach ts F.env).findIdx? (·.1)=none
 h:∀xs vs loc Z z Φ,F.Rel loc Z z.g->TOk z->VRs z.g xs vs->W xs loc Z Φ->UnT F (assignInOrder ((assignEach ts F.env).map (·.2)) vs) loc Z z fun _=>Φ
section
variable {F:Fm} {KS:List NameKind} {GT:List (Str×AV)}
theorem StG.bindName{Φ:Unit->Loc->Sig->Prop}(h:UnT F (storeName F.env n cv) loc Z z Φ):UnT F (bindName F.env n cv) loc Z z Φ:=fun Q E q=>wpAny_bindName (h Q E q)
theorem wH(n:Str)(pos:Pos)(env:Env)(v:Value):assign (.Name n pos) env v=(do standAt pos;bindName env n v):=rfl
theorem Yc(k:FnW F KS GT)(i:Nat)(hN:F.N[i]? =some n)(hK:KS[i]? =some NameKind.local):SpA F (.Name n pos) fun v loc Z Φ=>Φ (upd loc i v) Z:=fun v cv loc Z z Φ R tk hv h=>
 StG.of_eq (wH ..) (.standAt (.bindName (yY k.toFnOk R tk hN (k.kinds i n _ hN hK) hv h)))
theorem spa_cel(k:FnW F KS GT)(i:Nat)(hN:F.N[i]? =some n)(hK:KS[i]? =some NameKind.cell):SpA F (.Name n pos) fun v loc Z Φ=>∃c v0,loc i=some (.ref c)∧Z c=some (.cell v0)∧Φ loc (upd Z c (.cell (some v))):=fun v cv loc Z z Φ R tk hv q__=>qb (fun c v0 h1 h2 h=>
 StG.of_eq (wH ..) (.standAt (.bindName (jaz k.toFnOk R tk hN (k.kinds i n _ hN hK) h1 h2 hv h)))) q__
theorem yj{Φ:Unit->Loc->Sig->Prop}(R:F.Rel loc Z z.g)(tk:TOk z)(h:Φ () loc Z):UnT F (release vs kp) loc Z z Φ:=fun Q E q=>wpAny_release (q () loc Z () z h R .refl tk trivial)
theorem spa_fld(i:Nat)(hn:FN[i]? =some n)(ho:Sp F o Wo):
  SpA F (.Attribute o n pos) fun v loc Z Φ=>Wo loc Z fun x Zw1=>∃ad d f,x=.ref ad∧Zw1 ad=some (.inst SMA d)∧Zw1 d=some (.ns f)∧Φ loc (upd Zw1 d (.ns (upd f i v))):=fun v cv loc Z z Φ R tk hv h=>by
 refine StG.of_eq (arm_assign_Attribute ..) ?_
 refine EvG.bindSt (EvG.holding (ho _ _ _ _ R tk h)) fun x Zw1 a zw1 p Rw1 sw1 tkw1 vw1=>StG.standAt ?_
 refine KT ?_ p;rintro ad d f rfl h1 h2 p
 subst vw1
 refine EvG.bindSt (Φ:=fun _ τ=>Φ loc τ) (EvG.holding (Vs Rw1 tkw1 h1 h2 hn (hv.imm (sw1.imm R)) p)) fun _ Zw2 _ zw2 pw2 Rw2 sw2 tkw2 _=>yj Rw2 tkw2 pw2
theorem spa_itm(ho:Sp F o Wo)(hk:Sp F k Wk):
  SpA F (.Subscript o k pos) fun v loc Z Φ=>Wo loc Z fun x Zw1=>Wk loc Zw1 fun y Zw2=>wn x y v Zw2 (Φ loc):=fun v cv loc Z z Φ R tk hv h=>by
 refine StG.of_eq (arm_assign_Subscript ..) ?_
 refine EvG.bindSt (EvG.holding (ho _ _ _ _ R tk h)) fun x Zw1 a zw1 p Rw1 sw1 tkw1 vw1=> ?_
 refine EvG.bindSt (EvG.holding (hk _ _ _ _ Rw1 tkw1 p)) fun y Zw2 b zw2 pw2 Rw2 sw2 tkw2 vw2=>StG.standAt ?_
 refine EvG.bindSt (Φ:=fun _ τ=>Φ loc τ) (EvG.holding (Xf Rw2 tkw2 (vw1.imm (sw2.imm Rw1)) vw2 ((hv.imm (sw1.imm R)).imm (sw2.imm Rw1)) pw2)) fun _ Zw3 _ z3 pw3 Rw3 s3 tk3 _=>yj Rw3 tk3 pw3
theorem jaS:Oo F [] fun xs loc Z Φ=>Φ loc Z:=⟨rfl,rfl,fun xs vs loc Z z Φ R tk hv h=>StG.of_eq rfl (StG.pure (a:=()) (b:=()) R tk trivial h)⟩
theorem YO{t:PySem.Expr}(hs:∀x p,t≠.Starred x p)(r:List PySem.Expr)(env:Env):assignEach (t::r) env=(false,assign t env)::assignEach r env:=by
 cases t<;>first|rfl|exact absurd rfl (hs _ _)
theorem Y5(hs:∀x p,t≠.Starred x p)(ht:SpA F t Wt)(hr:Oo F ts Wr):Oo F (t::ts) fun xs loc Z Φ=>∃x r,xs=x::r∧Wt x loc Z fun lw1 Zw1=>Wr r lw1 Zw1 Φ:=by
 have e1:=YO hs ts F.env
 refine ⟨by rw[e1,List.length_cons,hr.len];rfl,by rw[e1,List.findIdx?_cons,hr.star];rfl,fun xs vs loc Z z Φ R tk hv=>ky fun x r e h=> ?_⟩
 subst e
 refine qb ?_ hv;rintro v vr rfl p q
 exact e1▸(StG.bind (StG.holding (ht _ _ _ _ _ _ R tk p h)) fun _ lw1 Zw1 _ zw1 pw1 Rw1 sw1 tkw1 _=>hr.h _ _ _ _ _ _ Rw1 tkw1 (q.imm (sw1.imm R)) pw1)
theorem OI(R:F.Rel loc Z z.g)(tk:TOk z)(hv:VR z.g v cv)(e:v=.tup xs):EvL F (unpackItems cv xs.length none) loc Z z fun ys Z'=>ys=xs∧Z'=Z:=by
 subst e
 refine KU ?_ hv;rintro a vs n rfl ha hvs
 intro Q E q
 rw[←(by have:=hvs.length;simpa using this:vs.size=xs.length)]
 refine wpAny_unpackItems_tuple F.hh ⟨_,ha,rfl,n,rfl⟩ fun h' hx=> ?_
 haveI hx':Ext z.s.heap h':=fun b o e=>hx b o (fun eq=>by subst eq;rw[jB]at e;contradiction) e
 exact q xs Z vs.toList ⟨{z.s with heap:=h'},z.T⟩ ⟨rfl,rfl⟩ (R.ext hx' (.refl _)) (.ext hx' rfl (Nat.le_refl _) id (.refl _)) (tk.le (Nat.le_refl _) rfl) (hvs.imm (h:=z.g) (Ext.imm (h:=z.g) (h':=⟨h',z.T⟩) hx' (.refl _)))
theorem spa_tup(h:Oo F ts W):SpA F (.Tuple ts k pos) fun v loc Z Φ=>∃xs,v=.tup xs∧xs.length=ts.length∧W xs loc Z Φ:=fun v cv loc Z z Φ R tk hv=>jX fun xs e hl hw=>by
 refine StG.of_eq (arm_assign_Tuple ..) (StG.standAt ?_)
 delta unpack
 simp only[h.len,h.star,←hl]
 exact EvG.bindSt (EvG.holding (OI R tk hv e)) fun ys Zw1 vs zw1 p Rw1 sw1 tkw1 vw1=>by
  obtain ⟨rfl,rfl⟩:=p
  exact h.h _ _ _ _ _ _ Rw1 tkw1 vw1 hw
theorem spb_nil:SpB F [] fun loc Z Φ=>Φ .next loc Z:=fun loc Z z Φ R tk h Q E q=>wpAny_execs_nil (q .next loc Z .next z h R .refl tk rfl)
theorem jaJ:SpS F s fun _ _ _=>False:=fun _ _ _ _ _ _ h=>h.elim
theorem jaR:SpB F s fun _ _ _=>False:=fun _ _ _ _ _ _ h=>h.elim
theorem jaH:SpS F (.Pass pos) fun loc Z Φ=>Φ .next loc Z:=fun loc Z z Φ R tk h Q E q=>wpAny_Pass (q .next loc Z .next z h R .refl tk rfl)
theorem sps_brk:SpS F (.Break pos) fun loc Z Φ=>Φ .brk loc Z:=fun loc Z z Φ R tk h Q E q=>wpAny_Break (q .brk loc Z .brk z h R .refl tk rfl)
theorem jaK:SpS F (.Continue pos) fun loc Z Φ=>Φ .cont loc Z:=fun loc Z z Φ R tk h Q E q=>wpAny_Continue (q .cont loc Z .cont z h R .refl tk rfl)
theorem sps_ret(he:Sp F e W):SpS F (.Return (some e) pos) fun loc Z Φ=>W loc Z fun v Zw1=>Φ (.ret v) loc Zw1:=fun loc Z z Φ R tk h Q E q=>
 wpAny_Return_some (he _ _ _ _ R tk h _ E fun v Zw1 cv zw1 p Rw1 sw1 tkw1 vw1=>q (.ret v) loc Zw1 (.ret cv) zw1 p Rw1 sw1 tkw1 ⟨cv,rfl,vw1⟩)
theorem jaG:SpS F (.Return none pos) fun loc Z Φ=>Φ (.ret .none) loc Z:=fun loc Z z Φ R tk h Q E q=>by
 exact wpAny_bind (wpAny_standAt (wpAny_pure (q (.ret .none) loc Z (.ret .none) z h R .refl tk ⟨_,rfl,vT⟩)))
theorem jaI(k:FnW F KS GT)(he:Sp F e W)(hs:swapsWith e none pos.line F.env=pure false):SpS F (.Expr e pos) fun loc Z Φ=>W loc Z fun _ Zw1=>Φ .next loc Zw1:=fun loc Z z Φ R tk h Q E q=>
 wpAny_Expr_any (he _ _ _ _ R tk h _ E fun v Zw1 cv zw1 p Rw1 sw1 tkw1 vw1=>q .next loc Zw1 .next zw1 p Rw1 sw1 tkw1 rfl) (by delta interactive;rw[k.kind];rfl) hs
theorem sps_if(ht:SpT F t Wt)(hb:SpB F b Wb)(ho:SpB F o Wo):SpS F (.If t b o pos) fun loc Z Φ=>Wt loc Z fun c Zw1=>(c=true->Wb loc Zw1 Φ)∧(c=false->Wo loc Zw1 Φ):=fun loc Z z Φ R tk h Q E q=>
 wpAny_If (ht _ _ _ _ R tk h _ E fun c Zw1 a zw1 p Rw1 sw1 tkw1 vw1=>by
  subst vw1
  cases a with
  |true=>exact hb _ _ _ _ Rw1 tkw1 (p.1 rfl) Q E fun fl l' Z' f z' p' R' s' tk' v'=>q fl l' Z' f z' p' R' (sw1.trans s') tk' v'
  |false=>exact ho _ _ _ _ Rw1 tkw1 (p.2 rfl) Q E fun fl l' Z' f z' p' R' s' tk' v'=>q fl l' Z' f z' p' R' (sw1.trans s') tk' v')
end
end
section
def SpM(F:Fm)(ts:List PySem.Expr)(W:WA):Prop:=∀v cv loc Z z Φ,F.Rel loc Z z.g->TOk z->VR z.g v cv->W v loc Z Φ->UnT F (assignAll cv ((assignEach ts F.env).map (·.2))) loc Z z fun _=>Φ
section
variable {F:Fm} {KS:List NameKind} {GT:List (Str×AV)}
theorem spm_one(hs:∀x p,t≠.Starred x p)(ht:SpA F t W):SpM F [t] W:=fun v cv loc Z z Φ R tk hv h=>(YO hs [] F.env).symm▸(ht _ _ _ _ _ _ R tk hv h)
theorem jaO(hs:∀x p,t≠.Starred x p)(ht:SpA F t Wt)(hr:SpM F (u::ts) Wr):SpM F (t::u::ts) fun v loc Z Φ=>Wt v loc Z fun lw1 Zw1=>Wr v lw1 Zw1 Φ:=fun v cv loc Z z Φ R tk hv h=>by
 have e2:∃q r,assignEach (u::ts) F.env=q::r:=by
  by_cases h:∃x p,u=.Starred x p
  ·obtain ⟨x,p,rfl⟩:=h;exact ⟨_,_,rfl⟩
  ·exact ⟨_,_,YO (fun x p e=>h ⟨x,p,e⟩) _ _⟩
 refine x2_1 (fun q r e2=> ?_) e2
 have hr':=fun lw1 Zw1 zw1 (Rw1:F.Rel lw1 Zw1 zw1.g) tkw1 (hv':VR zw1.g v cv) (p:Wr v lw1 Zw1 Φ)=>hr v cv lw1 Zw1 zw1 Φ Rw1 tkw1 hv' p
 rw[e2]at hr'
 exact YO hs (u::ts) F.env▸e2▸(StG.bind (StG.holding (ht _ _ _ _ _ _ R tk hv h)) fun _ lw1 Zw1 _ zw1 pw1 Rw1 sw1 tkw1 _=>hr' _ _ _ Rw1 tkw1 (hv.imm (sw1.imm R)) pw1)
theorem VS(he:Sp F e We)(ht:SpM F ts Wt)(h1:swapsWithSole ts e pos.line F.env=pure false)(h2:swappedStores ts e F.env=pure none):
  SpS F (.Assign ts e pos) fun loc Z Φ=>We loc Z fun v Zw1=>Wt v loc Zw1 (Φ .next):=fun loc Z z Φ R tk h Q E q=>
 wpAny_Assign_stores (he _ _ _ _ R tk h _ E fun v Zw1 cv zw1 p Rw1 sw1 tkw1 vw1=>ht v cv loc Zw1 zw1 _ Rw1 tkw1 vw1 p _ E fun _ lw2 Zw2 _ zw2 pw2 Rw2 sw2 tkw2 _=>q .next lw2 Zw2 .next zw2 pw2 Rw2 (sw1.trans sw2) tkw2 rfl) h1 h2
noncomputable def wSt:List Nat->List AV->Loc->Loc
 |i::is,x::xs,loc=>wSt is xs (upd loc i x)
 |_,_,loc=>loc
theorem sto_all(k:FnW F KS GT):∀(is:List Nat) (ns:List Str) (xs:List AV) (vs:List Value) (loc:Loc) (Z:Sig) (z:St) (Φ:Loc->Sig->Prop),is.map (F.N[·]?)=ns.map some->(is.map (KS[·]?)).all (·==some NameKind.local)=true->F.Rel loc Z z.g->TOk z->VRs z.g xs vs->Φ (wSt is xs loc) Z->
  UnT F (assignInOrder (ns.map fun n=>bindName F.env n) vs) loc Z z fun _=>Φ:=fun is=>by
  induction is with
  |nil=>
   intro ns xs vs loc Z z Φ e _ R tk hv h
   cases ns with
   |nil=>exact StG.pure (a:=()) (b:=()) R tk trivial h
   |cons=>cases e
  |cons i is ih=>
   intro ns xs vs loc Z z Φ e hk R tk hv h
   cases ns with
   |nil=>cases e
   |cons n ns=>
    cases xs with
    |nil=>
     subst hv
     exact StG.of_eq (show _=pure () by rfl) (StG.pure (a:=()) (b:=()) R tk trivial h)
    |cons x xs=>
     refine qb ?_ hv;rintro v vr rfl p q
     simp only[List.map_cons,List.cons.injEq]at e
     rw[List.map_cons,List.all_cons,Bool.and_eq_true,beq_iff_eq]at hk
     refine StG.bind (Φ:=fun _ l τ=>l=upd loc i x∧τ=Z) (StG.holding (.bindName (yY k.toFnOk R tk e.1 (k.kinds i n _ e.1 hk.1) p ⟨rfl,rfl⟩))) fun _ lw1 Zw1 _ zw1 pw1 Rw1 sw1 tkw1 _=> ?_
     refine kC ?_ pw1;rintro rfl rfl
     exact ih ns xs vr _ _ _ _ e.2 hk.2 Rw1 tkw1 (q.imm (sw1.imm R)) h
theorem VRs.reverse:∀{l:List AV} {vs:List Value},VRs g l vs->VRs g l.reverse vs.reverse:=by
 intro v__
 induction v__ with
 |nil=>
  intro _ x
  subst x;rfl
 |cons a l ih=>
  intro _ x
  refine qb ?_ x;rintro v r rfl p q
  simp only[List.reverse_cons,List.reverse_cons]
  exact (ih q).append (.cons p rfl)
theorem jaF(k:FnW F KS GT)(is:List Nat)(he:Sp F (.Tuple vs kw2 pw2) We)(h1:swapsWithSole [.Tuple ts kw1 pw1] (.Tuple vs kw2 pw2) pos.line F.env=pure false)(h2:swappedStores [.Tuple ts kw1 pw1] (.Tuple vs kw2 pw2) F.env=pure (some names))
  (hN:is.map (F.N[·]?)=names.map some) (hK:(is.map (KS[·]?)).all (·==some NameKind.local)=true):
  SpS F (.Assign [.Tuple ts kw1 pw1] (.Tuple vs kw2 pw2) pos) fun loc Z Φ=>We loc Z fun v Zw1=>∃xs,v=.tup xs∧xs.length=names.length∧Φ .next (wSt is.reverse xs.reverse loc) Zw1:=fun loc Z z Φ R tk h Q E q=>
 Assign_Tuple_swapped (names:=names) (he _ _ _ _ R tk h _ E fun v Zw1 cv zw1 p Rw1 sw1 tkw1 vw1=>by
  refine jX (fun xs e hl p=> ?_) p
  rw[←hl]
  refine OI Rw1 tkw1 vw1 e _ E fun ys Zw2 ws zw2 pw2 Rw2 sw2 tkw2 vw2=> ?_
  refine kC ?_ pw2;rintro rfl rfl
  refine sto_all k is.reverse names.reverse ys.reverse ws.reverse loc Zw2 zw2 (Φ .next) (by simp only[List.map_reverse,hN,List.map_reverse]) (by rw[List.map_reverse,List.all_reverse];exact hK) Rw2 tkw2 vw2.reverse p _ E fun _ l3 Zw3 _ z3 pw3 Rw3 s3 tk3 _=> ?_
  exact q .next l3 Zw3 .next z3 pw3 Rw3 (sw1.trans (sw2.trans s3)) tk3 rfl) h1 h2
end
end
section
theorem O7:seqSlot? (.type "list") (dunderI "add")=pure (some (.builtin "list.__iadd__")):=by
 kernel_rfl
theorem Vr:fillsInplaceSlot (.type "list") "add" (Operator.Add==.Add)=pure false:=by
 kernel_rfl
theorem Vq:fillsNumberSlot (.type "list") "add" =pure false:=by kernel_rfl
def Ow(x y:AV)(Z:Sig)(Ψ:K1):Prop:=on x (i:=fun a=>on y (i:=fun b=>Ψ (.int (a+b)) Z)) (r:=fun a=>on y (r:=fun b=>∃l m,Z a=some (.list l)∧Z b=some (.list m)∧l.length+m.length≤1000∧Ψ (.ref a) (upd Z a (.list (l++m)))))
section
variable {F:Fm} {KS:List NameKind} {GT:List (Str×AV)}
theorem ev_iadd(R:F.Rel loc Z z.g)(tk:TOk z)(hx:VR z.g x a)(hy:VR z.g y b)(h:Ow x y Z Ψ):kK F (inplaceOp .Add a b) loc Z z Ψ:=by
 refine jx h hx False.elim z1 (fun i t h=>jx h hy False.elim z1 (fun j u h=>jF R tk h fun Q E q=>PyProof.Rows.iadd_int (q _ _ _ (.same tk (Nat.le_succ _)) kQ)) z4 z4 z1 zt zt) z4 z4 (fun ad h=>jx h hy False.elim z1 z2 z4 z4 (fun bd h=> ?_) zt zt) zt zt
 ·skip
  refine ZQ (fun l m hl hm hle h=> ?_) h
  refine ky (fun ws n e1 v1=> ?_) (R.hr.obj _ _ hl)
  refine ky (fun us n' e2 v2=> ?_) (R.hr.obj _ _ hm)
  have h1:=v1.length;have h2:=v2.length
  simp only[Array.length_toList]at h1 h2
  have hb:=jH
  refine v8 R tk (by delta dom;rw[hl];simp) h fun Q E q=> ?_
  refine wpAny_holding ?_
  refine wpAny_bind (wpAny_typeOf ⟨_,e1,rfl⟩ (wpAny_bind (wpAny_of_eq Vr ?_)))
  refine wpAny_bind (wpAny_binaryOp1_none (nm:= "add") ⟨_,e1,rfl⟩ ⟨_,e2,rfl⟩ Vq ?_)
  refine wpAny_bind (wpAny_of_eq O7 ?_)
  refine wpAny_bind (wpAny_rule ?_)
  have hlong:¬(!ws.isEmpty&&Builtin.List.listTooLong (ws.size+us.size))=true:=by
   delta Builtin.List.listTooLong
   intro _;lia
  refine call_meets PySem.F.slot_list_iadd ⟨_,e1,rfl⟩ PySem.F.entry_list_iadd (PySem.F.args_list_iadd_2 _ _) (AutoSeq1.list___iadd___list_list_0 ad ws n bd us n' hlong (by lia) (by lia)) ⟨e1,e2,?_⟩
  refine q _ _ z.s.toks z.T (.same tk (Nat.le_refl _)) (Heap.SameBut.update ..) fun im=>⟨?_,qD⟩
  refine ⟨ws++us,_,Heap.get?_update_self _ e1 rfl,?_⟩
  rw[Array.toList_append]
  exact (v1.imm im).append (v2.imm im)
theorem ev_load(k:FnW F KS GT)(R:F.Rel loc Z z.g)(tk:TOk z)(hN:F.N[i]? =some n)(hK:KS[i]? =some NameKind.local)(hv:loc i=some x)(h:Ψ x Z):kK F (loadName F.env n) loc Z z Ψ:=by
 refine jp (fun m hn hm=> ?_) R.ns
 have hl:=k.kinds i n _ hN hK
 rcases hm i n x hN hv with ⟨_,cv,e,v⟩|⟨h1|h1,_⟩
 ·exact jF R tk h fun Q E q=>wpAny_loadName_local k.kind hl hn e (q _ _ _ (.same tk (Nat.le_refl _)) v)
 ·cases hl.symm.trans h1
 ·cases hl.symm.trans h1
theorem sps_aug(k:FnW F KS GT)(i:Nat)(hN:F.N[i]? =some n)(hK:KS[i]? =some NameKind.local)(he:Sp F e We):
  SpS F (.AugAssign (.Name n p) .Add e pos) fun loc Z Φ=>∃x,loc i=some x∧We loc Z fun y Zw1=>Ow x y Zw1 fun r Zw2=>Φ .next (upd loc i r) Zw2:=fun loc Z z Φ R tk q__ Q E q=>jp (fun x hx h=>
 wpAny_AugAssign_Name (ev_load (Ψ:=fun u τ=>u=x∧We loc τ fun y Zw1=>Ow x y Zw1 fun r Zw2=>Φ .next (upd loc i r) Zw2) k R tk hN hK hx ⟨rfl,h⟩ _ E fun u Zw1 a zw1 pw1 Rw1 sw1 tkw1 vw1=>by
  obtain ⟨rfl,pw1⟩:=pw1
  refine he _ _ _ _ Rw1 tkw1 pw1 _ E fun y Zw2 b zw2 pw2 Rw2 sw2 tkw2 vw2=> ?_
  refine ev_iadd Rw2 tkw2 (vw1.imm (sw2.imm Rw1)) vw2 pw2 _ E fun r Zw3 c z3 pw3 Rw3 s3 tk3 vw3=> ?_
  exact yY (Φ:=fun _=>Φ .next) k.toFnOk Rw3 tk3 hN (k.kinds i n _ hN hK) vw3 pw3 _ E fun _ lw4 Zw4 _ zw4 pw4 R4 s4 tk4 _=>q .next lw4 Zw4 .next zw4 pw4 R4 (sw1.trans (sw2.trans (s3.trans s4))) tk4 rfl)) q__
end
end
section
def KN(ps:List Addr)(h h':Heap):Prop:=∀b o,b∉ps->h.get? b=some o->h'.get? b=some o
structure ON(C:Cx)(A:Around)(tg:PySem.Expr)(ps:List Addr)(I:Addr)(xs:List AV)(D:Sig->Prop)(St':Nat->Heap->Prop):Prop where
 frame:∀i h h',St' i h->(∀b∈ps,∀o,h.get? b=some o->h'.get? b=some o)->St' i h'
 priv:∀i h,St' i h->∀p∈ps,∃o,h.get? p=some o∧¬Frz o
 item:∀(i:Nat) (x:AV) (Z:Sig) (z:St),xs[i]? =some x->qa C Z z.g->D Z->St' i z.s.heap->TOk z->∀(Q:Value->Shared->Prop) (E:Value->Shared->Prop),
  (∀v h' n T',wK z n T'->KN ps z.s.heap h'->St' (i+1) h'->VR ⟨h',T'⟩ x v->Q v {z.s with heap:=h',toks:=n})->
  wpAny (model C.prog C.w) A (pyNext (.ref I)) (fun r sw1=>∃v,r=some v∧wpAny (model C.prog C.w) A (letOwnedTupleGo tg (.ref I) v) (fun _ sw2=>Q v sw2) E sw1) E z.s
 done:∀(Z:Sig) (z:St),qa C Z z.g->D Z->St' xs.length z.s.heap->TOk z->∀(Q:Option Value->Shared->Prop) (E:Value->Shared->Prop),
  (∀h',KN ps z.s.heap h'->Q none {z.s with heap:=h'})->wpAny (model C.prog C.w) A (pyNext (.ref I)) Q E z.s
 self:∀(i:Nat) (s:Shared) (Q:Value->Shared->Prop) (E:Value->Shared->Prop),St' i s.heap->Q (.ref I) s->wpAny (model C.prog C.w) A (pyIter (.ref I)) Q E s
theorem qa.priv(R:qa C Z h)(x:KN ps h.h h'.h)(t:qK h.T h'.T)(hp:∀p∈ps,Z p=none∧C.K.lookup p=none∧∀o,h.h.get? p=some o->¬Frz o):qa C Z h'∧Imm h h':=by
 have im:Imm h h':=⟨fun a o e f=>x a o (fun hm=>(hp a hm).2.2 o e f) e,t⟩
 refine ⟨⟨fun a o e=>x a o (fun hm=>by rw[(hp a hm).2.1]at e;contradiction) (R.top a o e),fun a o e=>(R.obj a o e).imm im fun ob e'=>x a ob (fun hm=>by rw[(hp a hm).1]at e;contradiction) e',R.off,R.tk.trans t⟩,im⟩
theorem Rel.priv(R:Rel C env N loc Z h)(x:KN ps h.h h'.h)(t:qK h.T h'.T)(hp:∀p∈ps,Z p=none∧C.K.lookup p=none∧∀o,h.h.get? p=some o->¬Frz o)(hL:env.locals∉ps):Rel C env N loc Z h'∧Imm h h':=by
 refine kC (fun H im=> ?_) (R.hr.priv x t hp)
 refine jp (fun m hn hm=> ?_) R.ns
 exact ⟨⟨H,⟨m,hn.at' fun o e=>x _ o hL e,fun i y v e l=>(hm i y v e l).imm im⟩,R.offS,R.offK⟩,im⟩
theorem jJ.priv{W:Addr->Prop}{T':Tok->Option TC}(x:jJ W Z z Z' z')(y:KN ps z'.s.heap h')(t:wK z' n T')(hf:∀p∈ps,z.s.heap.get? p=none):jJ W Z z Z' ⟨{z'.s with heap:=h',toks:=n},T'⟩:=by
 refine ⟨fun b o hb e=>y b o (fun hm=>by rw[hf b hm]at e;contradiction) (x.kp b o hb e),fun b o e=> ?_,x.new,x.os,Nat.le_trans x.toks t.le,x.gens,x.T.trans t.ext⟩
 cases e':z'.s.heap.get? b with
 |none=>exact absurd e' (x.live b o e)
 |some o'=>
  rw[y b o' (fun hm=>by rw[hf b hm]at e;contradiction) e'];simp
def kq(J:Nat->Loc->Sig->Prop)(Φ:Fl->Loc->Sig->Prop)(n:Nat)(fl:Fl)(l:Loc)(o:Sig):Prop:=match fl with
 | .next| .cont=>∃m l' τ,m<n∧J m l' τ∧KM l' l∧j3 τ o
 | .brk=>Φ .next l o
 | .ret v=>Φ (.ret v) l o
def kc(J:Nat->Loc->Sig->Prop)(Φ:Fl->Loc->Sig->Prop)(i:Nat)(fl:Fl)(l:Loc)(o:Sig):Prop:=match fl with
 | .next| .cont=>∃l' τ,J (i+1) l' τ∧KM l' l∧j3 τ o
 | .brk=>Φ .next l o
 | .ret v=>Φ (.ret v) l o
noncomputable abbrev WI:=Loc->Sig->(List AV->(Sig->Prop)->Sig->Prop)->Prop
def SpI(F:Fm)(tg iter:PySem.Expr)(W:WI):Prop:=∀loc Z z Φ,F.Rel loc Z z.g->TOk z->W loc Z Φ->∀(Q:Value->Shared->Prop) (E:Value->Shared->Prop),
 (∀xs D Z' I ps St' z',Φ xs D Z'->F.Rel loc Z' z'.g->jJ (F.W Z) Z z Z' z'->TOk z'->ON F.C F.A tg ps I xs D St'->St' 0 z'.s.heap->(∀p∈ps,Z' p=none∧z.s.heap.get? p=none)->Q (.ref I) z'.s)->
 wpAny F.M F.A (eval iter F.env) (fun x sw1=>wpAny F.M F.A (pyIter x) Q E sw1) E z.s
section
variable {F:Fm} {KS:List NameKind} {GT:List (Str×AV)}
theorem Y2(ht:SpT F t Wt)(hb:SpB F b Wb):
  SpS F (.While t b [] pos) fun loc Z Φ=>∃(J:Nat->Loc->Sig->Prop) (n:Nat),J n loc Z∧∀n l o,J n l o->Wt l o fun c o'=>(c=false->Φ .next l o')∧(c=true->Wb l o' (kq J Φ n)):=fun loc Z z Φ R tk q__ Q E q=>by
 refine ky (fun J n h0 turn=> ?_) q__
 refine wpAny_While ?_
 let I:Nat->Shared->Prop:=fun n s'=>∃l o z',s'=z'.s∧J n l o∧F.Rel l o z'.g∧jJ (F.W Z) Z z o z'∧TOk z'
 refine codeAny_whileLoop I (fun n s' hI=> ?_) n ⟨loc,Z,z,rfl,h0,R,.refl,tk⟩
 refine ZP ?_ hI;rintro l o z' rfl hJ R' s' tk'
 refine ht _ _ _ _ R' tk' (turn n l o hJ) _ _ fun c ow1 a zw1 p Rw1 sw1 tkw1 vw1=> ?_
 subst vw1
 have sw2:=s'.trans sw1
 cases a with
 |false=>
  exact wpAny_execs_nil (q .next l ow1 .next zw1 (p.1 rfl) Rw1 sw2 tkw1 rfl)
 |true=>
  refine hb _ _ _ _ Rw1 tkw1 (p.2 rfl) _ _ fun fl lw2 ow2 f zw2 pw2 Rw2 s3 tkw2 vw2=> ?_
  have s4:=sw2.trans s3
  have more:(∃m l' τ,m<n∧J m l' τ∧KM l' lw2∧j3 τ ow2)->∃m,m<n∧I m zw2.s:=by
   rintro hX;refine KT (fun m l' τ hm hJ' q1 q2=> ?_) hX
   exact ⟨m,hm,l',τ,zw2,rfl,hJ',Rw2.forget q2 q1,s4.forget q2.dom,tkw2⟩
  cases fl with
  |next=>subst vw2;exact more pw2
  |cont=>subst vw2;exact more pw2
  |brk=>subst vw2;exact q .next lw2 ow2 .next zw2 pw2 Rw2 s4 tkw2 rfl
  |ret v=>refine jp ?_ vw2;rintro cv rfl hv;exact q (.ret v) lw2 ow2 (.ret cv) zw2 pw2 Rw2 s4 tkw2 ⟨cv,rfl,hv⟩
theorem sps_for(hi:SpI F t iter Wi)(ht:SpA F t Wt)(hb:SpB F b Wb)(hs:∀x,foldedSetIterable iter F.env x=pure x):
  SpS F (.For t iter b [] pos) fun loc Z Φ=>Wi loc Z fun xs D Zw1=>∃J:Nat->Loc->Sig->Prop,J 0 loc Zw1∧∀i l o,J i l o->i≤xs.length->D o∧(∀x,xs[i]? =some x->Wt x l o fun lw1 ow1=>Wb lw1 ow1 (kc J Φ i))∧(i=xs.length->Φ .next l o):=fun loc Z z Φ R tk h Q E q=>by
 refine wpAny_For (hi _ _ _ _ R tk h _ E fun xs D Zw1 It ps St' zw1 p Rw1 sw1 tkw1 src st0 hps=> ?_) hs
 refine jp (fun J h0 turn=> ?_) p
 have hL:F.env.locals∉ps:=fun hm=>by
  refine jp ?_ R.ns;rintro m hX;refine yU (fun o _ _ ho _=> ?_) hX;rintro _
  have:=(hps _ hm).2
  exact kH this ho
 let I:Nat->Shared->Prop:=fun n s'=>∃i l o z',s'=z'.s∧n=xs.length+1-i∧i≤xs.length∧J i l o∧F.Rel l o z'.g∧jJ (F.W Z) Z z o z'∧TOk z'∧St' i z'.s.heap∧∀p∈ps,o p=none
 refine codeAny_forLoop_any I (fun n s' hI=> ?_) (xs.length+1) ⟨0,loc,Zw1,zw1,rfl,rfl,Nat.zero_le _,h0,Rw1,sw1,tkw1,st0,fun p hp=>(hps p hp).1⟩
 refine x4_9 ?_ hI;rintro i l o z' rfl rfl hle hJ R' s' tk' st' ho
 refine wO (fun hD hit hend=> ?_) (turn i l o hJ hle)
 have hpr:∀p∈ps,o p=none∧F.C.K.lookup p=none∧∀ob,z'.s.heap.get? p=some ob->¬Frz ob:=fun p hp=>⟨ho p hp,(fun p hp=>(R.hr.fresh (hps p hp).2).2) p hp,fun ob e=>by
  refine jp (fun o' e' nf=> ?_) (src.priv i _ st' p hp)
  cases e.symm.trans e';exact nf⟩
 by_cases hlt:i<xs.length
 ·obtain ⟨x,hx⟩:∃x,xs[i]? =some x:=⟨xs[i],List.getElem?_eq_getElem hlt⟩
  refine wpAny_mono (src.item i x o z' hx R'.hr hD st' tk' ?Q' _ ?h) (fun r sw1 hr=> ?fin) fun _ _ e=>e
  case fin=>refine jp ?_ hr;rintro v rfl hw;exact hw
  intro v h' k T' tn pe st'' hv
  have Rw2:=(R'.priv (h':=⟨h',T'⟩) pe tn.ext hpr hL).1
  have tkw2:TOk ⟨{z'.s with heap:=h',toks:=k},T'⟩:=tn.tok tk' rfl rfl
  have sw2:=s'.priv pe tn fun p hp=>(hps p hp).2
  refine ht x v l o ⟨_,T'⟩ _ Rw2 tkw2 hv (hit x hx) _ _ fun _ l3 ow3 _ z3 pw3 Rw3 s3 tk3 _=> ?_
  refine hb _ _ _ _ Rw3 tk3 pw3 _ _ fun fl lw4 ow4 f zw4 pw4 R4 s4 tk4 v4=> ?_
  have sAll:=sw2.trans (s3.trans s4)
  have sB:=s3.trans s4
  have st4:St' (i+1) zw4.s.heap:=src.frame _ _ _ st'' fun p hp ob e=>sB.kp p ob (fun hw=>by
   rcases hw with rfl|hw
   ·exact hL hp
   ·exact hw (ho p hp)) e
  have ho4:∀p∈ps,ow4 p=none:=fun p hp=>by
   cases e:ow4 p with
   |none=>rfl
   |some ob=>
    refine jp (fun o' e' _=> ?_) (src.priv _ _ st'' p hp)
    have:=sB.new p (by delta dom;rw[e];simp) (ho p hp)
    haveI e2:(⟨{z'.s with heap:=h',toks:=k},T'⟩:St).s.heap.get? p=some o':=e'
    cases e2.symm.trans this
  have more:(∃l' τ,J (i+1) l' τ∧KM l' lw4∧j3 τ ow4)->∃m,m<xs.length+1-i∧I m zw4.s:=by
   rintro hX;refine qb (fun l' τ hJ' q1 q2=> ?_) hX
   refine ⟨xs.length+1-(i+1),jbx (by assumption),i+1,l',τ,zw4,rfl,rfl,hlt,hJ',R4.forget q2 q1,sAll.forget q2.dom,tk4,st4,fun p hp=> ?_⟩
   cases e:τ p with
   |none=>rfl
   |some ob=>have:=q2 p ob e;rw[ho4 p hp]at this;contradiction
  cases fl with
  |next=>subst v4;exact more pw4
  |cont=>subst v4;exact more pw4
  |brk=>subst v4;exact q .next lw4 ow4 .next zw4 pw4 R4 sAll tk4 rfl
  |ret v=>refine jp ?_ v4;rintro cv rfl hv;exact q (.ret v) lw4 ow4 (.ret cv) zw4 pw4 R4 sAll tk4 ⟨cv,rfl,hv⟩
 ·have hi:i=xs.length:=Nat.le_antisymm hle (Nat.not_lt.mp (by assumption))
  subst hi
  refine src.done o z' R'.hr hD st' tk' _ _ fun h' pe=>wpAny_execs_nil ?_
  exact q .next l o .next ⟨{z'.s with heap:=h'},z'.T⟩ (hend rfl) (R'.priv (h':=⟨h',z'.T⟩) pe (.refl _) hpr hL).1 (s'.priv pe (.same tk' (Nat.le_refl _)) fun p hp=>(hps p hp).2) (tk'.le (Nat.le_refl _) rfl) rfl
end
end
section
noncomputable def U7:List String:=["enumerate","zip","dict_itemiterator","dict_reverseitemiterator","odict_iterator","itertools.zip_longest","itertools.pairwise"]
theorem y9{E:Value->Shared->Prop}{Q:Unit->Shared->Prop}(ho:s.heap.get? I=some o)(hc:o.cls=.type n)(hn:U7.contains n=false)(h:Q () s):wpAny M A (letOwnedTupleGo tg (.ref I) v) Q E s:=by
 have body:wpAny M A (match (Value.ref I,v)with
  |(.ref r,.ref a)=>do
   let o←load r
   match o.cls,o.data with
   | .type n,.fields vs=>
    if ["enumerate","zip","dict_itemiterator","dict_reverseitemiterator","odict_iterator","itertools.zip_longest","itertools.pairwise"].contains n&&vs[0]? ==some (rawInt a)then
     rule "for.unpacks-the-owned-tuple"
     updateField r 0 .none
   |_,_=>pure ()
  |_=>pure ()) Q E s:=by
  cases v<;>try exact wpAny_pure h
  refine wpAny_bind (wpAny_load ho ?_)
  rw[hc]
  cases o.data<;>try exact wpAny_pure h
  show wpAny _ _ (if (U7.contains n&&_)=true then _ else _) _ _ _
  exact hn▸(wpAny_pure h)
 cases tg<;>first|exact wpAny_pure h|exact body
theorem jaC(hh:A.handled=none)(hne:a≠I):ON C A tg [I] I xs (fun Z=>vQ C Z a xs) (fun i h=>h.IsListIter I a i)where
 frame:=fun i h h' q__ k=>jp (fun o ho r=>⟨o,k I (by simp) o ho,r⟩) q__
 priv:=fun i h q__ p hp=>jX (fun o ho hc _=>by
  simp at hp;subst hp
  exact ⟨o,ho,jY hc (by decide) (by decide)⟩) q__
 item:=fun i x Z z hx R hD st tk Q E h=>by
  obtain ⟨vs,n,e1,v1⟩:∃vs n,z.s.heap.get? a=some {cls:=.type "list",data:=.seq vs n}∧VRs z.g xs vs.toList:=by
   refine Or.elim hD (fun hD=> ?_) fun hD=> ?_
   ·refine ky (fun vs n e v=> ?_) (C.roK _ _ hD);exact ⟨vs,n,R.top _ _ e,v _⟩
   ·exact R.obj _ _ hD
  refine jp (fun cv hc hr=> ?_) (v1.at' hx)
  refine wpAny_pyNext_list_item st ⟨_,e1,rfl,n,rfl⟩ (by simpa using hc) fun h' hit' hs'=>⟨cv,rfl,?_⟩
  refine jX (fun o' ho' hc' _=> ?_) (id hit')
  have pe:KN [I] z.s.heap h':=fun b o hb e=>(hs'.2 b (by simpa using hb)).trans e
  refine y9 (s:={z.s with heap:=h'}) ho' hc' rfl (h cv h' z.s.toks z.T (.same tk (Nat.le_refl _)) pe hit' ?_)
  refine jX (fun o ho hci _=> ?_) st
  exact hr.imm (h:=z.g) (h':=⟨h',z.T⟩) ⟨fun b ob e f=>pe b ob (by
   rw[List.mem_singleton];rintro rfl
   cases ho.symm.trans e
   exact jY hci (by decide) (by decide) f) e,.refl _⟩
 done:=fun Z z R hD st tk Q E h=>by
  obtain ⟨vs,n,e1,v1⟩:∃vs n,z.s.heap.get? a=some {cls:=.type "list",data:=.seq vs n}∧VRs z.g xs vs.toList:=by
   refine Or.elim hD (fun hD=> ?_) fun hD=> ?_
   ·refine ky (fun vs n e v=> ?_) (C.roK _ _ hD);exact ⟨vs,n,R.top _ _ e,v _⟩
   ·exact R.obj _ _ hD
  have hl:=v1.length;simp only[Array.length_toList]at hl
  exact wpAny_pyNext_list_end hh st ⟨_,e1,rfl,n,rfl⟩ (by rw[←hl];simp) fun h' hx=>h h' fun b o hb e=>hx b o (by simpa using hb) e
 self:=fun i s Q E st q=>wpAny_pyIter_listiter st q
noncomputable def vw(s:Str):List AV:=s.cps.toList.map fun c=>.str ⟨#[c]⟩
theorem src_str(hh:A.handled=none)(hty:ty= "str_ascii_iterator" ∨ty= "str_iterator"):ON C A tg [I] I (vw s) (fun _=>True) (fun i h=>h.IsStrIter I ty s t i)where
 frame:=fun i h h' q__ k=>jp (fun o ho r=>⟨o,k I (by simp) o ho,r⟩) q__
 priv:=fun i h q__ p hp=>jX (fun o ho hc _=>by
  simp at hp;subst hp
  exact ⟨o,ho,jY hc (by rcases hty with rfl|rfl<;>decide) (by rcases hty with rfl|rfl<;>decide)⟩) q__
 item:=fun i x Z z hx R hD st tk Q E h=>by
  rw[vw,List.getElem?_map,Option.map_eq_some_iff,Array.getElem?_toList]at hx
  refine jp ?_ hx;rintro c hc rfl
  have fin:∀h',h'.IsStrIter I ty s t (i+1)->Heap.SameBut I z.s.heap h'->∃v,some (Value.str ⟨#[c]⟩ z.s.toks)=some v∧wpAny (model C.prog C.w) A (letOwnedTupleGo tg (.ref I) v) (fun _ sw2=>Q v sw2) E {z.s with heap:=h',toks:=z.s.toks+1}:=fun h' hit' hs'=>by
   refine jX (fun o' ho' hc' _=> ?_) (id hit')
   exact ⟨_,rfl,y9 (s:={z.s with heap:=h',toks:=z.s.toks+1}) ho' hc' (by rcases hty with rfl|rfl<;>decide) (h _ h' _ _ (.put tk (Nat.le_refl _) (Nat.lt_succ_self _) _) (fun b o hb e=>(hs'.2 b (by simpa using hb)).trans e) hit' (wZ (Nat.ne_of_gt tk.pos) kR))⟩
  rcases hty with rfl|rfl
  ·exact wpAny_pyNext_ascii_item st hc fin
  ·exact wpAny_pyNext_wide_item st hc fin
 done:=fun Z z R hD st tk Q E h=>by
  haveI hn:s.cps[(vw s).length]? =none:=by simp[vw]
  rcases hty with rfl|rfl
  ·exact wpAny_pyNext_ascii_end hh st hn fun h' hx=>h h' fun b o hb e=>hx b o (by simpa using hb) e
  ·exact wpAny_pyNext_wide_end hh st hn fun h' hx=>h h' fun b o hb e=>hx b o (by simpa using hb) e
 self:=fun i s Q E st q=>by
  rcases hty with rfl|rfl
  ·exact wpAny_pyIter_striter_ascii st q
  ·exact wpAny_pyIter_striter_wide st q
noncomputable def vK(a c:Int)(n:Nat):List AV:=(List.range n).map fun(i:Nat)=>.int (a+i*c)
theorem Oy(hh:A.handled=none):ON C A tg [I] I (vK a c n) (fun _=>True) (fun i h=>IsRangeIter h I (a+(i:Nat)*c) ((n:Int)-(i:Nat)) c)where
 frame:=fun i h h' st k=>k I (by simp) _ st
 priv:=fun i h st p hp=>by
  simp at hp;subst hp
  exact ⟨_,st,jY rfl (by decide) (by decide)⟩
 item:=fun i x Z z hx R hD st tk Q E h=>by
  have hlt:i<n:=by
   have:=(List.getElem?_eq_some_iff.mp hx).1
   simpa[vK]using this
  have hx':x=.int (a+i*c):=by
   simp[vK,hlt]at hx;exact hx.symm
  subst hx'
  refine wpAny_pyNext_range_item st (by lia) fun h' hit' hs'=>⟨_,rfl,y9 (s:={z.s with heap:=h',toks:=z.s.toks+1}) hit' rfl rfl (h _ h' _ z.T (.same tk (Nat.le_succ _)) (fun b o hb e=>(hs'.2 b (by simpa using hb)).trans e) ?_ kQ)⟩
  simp only[(by push_cast;simp only[Int.add_mul,Int.one_mul,Int.add_assoc]:a+((i+1:Nat):Int)*c=a+(i:Int)*c+c),(by push_cast;lia:(n:Int)-((i+1:Nat):Int)=(n:Int)-(i:Int)-1)];exact hit'
 done:=fun Z z R hD st tk Q E h=>by
  have:(vK a c n).length=n:=by simp[vK]
  rw[this]at st
  exact wpAny_pyNext_range_end hh st (by lia) fun h' hx=>h h' fun b o hb e=>hx b o (by simpa using hb) e
 self:=fun i s Q E st q=>wpAny_pyIter_rangeiter st q
section
variable {F:Fm} {KS:List NameKind} {GT:List (Str×AV)}
def zj(C:Cx)(x:AV)(Z:Sig)(Φ:List AV->(Sig->Prop)->Sig->Prop):Prop:=on x (r:=fun a=>∃xs,vQ C Z a xs∧Φ xs (fun τ=>vQ C τ a xs) Z) (s:=fun s=>Φ (vw s) (fun _=>True) Z)
theorem spi_val(he:Sp F e We):SpI F tg e fun loc Z Φ=>We loc Z fun x Zw1=>zj F.C x Zw1 Φ:=fun loc Z z Φ R tk h Q E q=>
 he _ _ _ _ R tk h _ E fun x Zw1 cv zw1 p Rw1 sw1 tkw1 vw1=>by
  haveI old:zw1.s.heap.get? zw1.s.heap.objs.size=none:=jB _
  have old0:z.s.heap.get? zw1.s.heap.objs.size=none:=by
   cases e:z.s.heap.get? zw1.s.heap.objs.size with
   |none=>rfl
   |some o=>exact absurd old (sw1.live _ o e)
  have fr:=(Rw1.hr.fresh (a:=zw1.s.heap.objs.size) old).1
  refine jx p vw1 False.elim z1 z2 z4 (fun s t _ _ p=> ?_) (fun a p=> ?_) zt zt
  rotate_left
  ·skip
   refine jp (fun xs hl p=> ?_) p
   refine ky (fun vs n e1 v1=> ?_) (wN Rw1 hl)
   refine wpAny_pyIter_list ⟨_,e1,rfl,n,rfl⟩ ?_
   let zw2:St:=⟨{zw1.s with heap:=zw1.s.heap.push {cls:=.type "list_iterator",data:=.fields #[.ref a,.int 0 0]}},zw1.T⟩
   refine q xs _ Zw1 _ [zw1.s.heap.objs.size] _ zw2 p (Rw1.ext (Ext.push _ _) (.refl _)) (sw1.trans (.ext (Ext.push _ _) rfl (Nat.le_refl _) id (.refl _))) (tkw1.le (Nat.le_refl _) rfl) (jaC F.hh (fun e=>by rw[←e,e1]at old;contradiction)) ⟨_,Heap.get?_push_size _ rfl,rfl,rfl⟩ fun p hp=> ?_
   simp at hp;subst hp;exact ⟨fr,old0⟩
  ·skip
   have fin:∀ty,(ty= "str_ascii_iterator" ∨ty= "str_iterator")->Q (.ref zw1.s.heap.objs.size) {zw1.s with heap:=zw1.s.heap.push {cls:=.type ty,data:=.fields #[.str s t,.int 0 0]}}:=fun ty hty=>by
    let zw2:St:=⟨{zw1.s with heap:=zw1.s.heap.push {cls:=.type ty,data:=.fields #[.str s t,.int 0 0]}},zw1.T⟩
    refine q _ _ Zw1 _ [zw1.s.heap.objs.size] _ zw2 p (Rw1.ext (Ext.push _ _) (.refl _)) (sw1.trans (.ext (Ext.push _ _) rfl (Nat.le_refl _) id (.refl _))) (tkw1.le (Nat.le_refl _) rfl) (src_str F.hh hty) ⟨_,Heap.get?_push_size _ rfl,rfl,rfl⟩ fun p hp=> ?_
    simp at hp;subst hp;exact ⟨fr,old0⟩
   cases ha:s.cps.all (·<128)
   ·exact wpAny_pyIter_wide ha (fin _ (.inr rfl))
   ·exact wpAny_pyIter_ascii ha (fin _ (.inl rfl))
end
end
section
theorem vh:Slot "range" "__reversed__" "range.__reversed__" :=
 .of (owner:= "range") (n:= "__reversed__") (by kernel_rfl) (by decide+kernel) (by decide+kernel) (by decide+kernel)
  (by first|exact .inl (by decide+kernel)|exact .inr (by decide+kernel)) (by kernel_rfl)
theorem zE:entryFor table "range.__reversed__" =some Builtin.«range.__reversed__» :=entryFor_of_tree (by kernel_rfl)
theorem KJ(a:Value):argsOk "range.__reversed__" ⟨[a],[]⟩:=by delta argsOk;kernel_rfl
theorem zA:isSubtype (.type "range_iterator") (.type "reversed")=pure false:=by kernel_rfl
theorem qN(h: -1000000≤i)(h2:i≤1000000):Builtin.Range.rangeFitsLong i=true:=by
 delta Builtin.Range.rangeFitsLong
 simp;lia
theorem ja0(a b:Int):Builtin.Range.rangeSize a b 1=((b-a).toNat:Int):=by
 delta Builtin.Range.rangeSize
 split<;>split<;>lia
theorem small1(h1: -1000≤a)(h2:a≤1000)(h3: -1000≤b)(h4:b≤1000):Builtin.Range.small a b 1=true:=by
 delta Builtin.Range.small
 rw[ja0,qN (by lia) (by lia),qN (by lia) (by lia),qN (Int.natCast_nonneg _) (by lia),qN (Int.natCast_nonneg _) (by lia)]
 simp
 right
 exact qN (by lia) (by lia)
section
variable {prog:Program} {w:World} {A:Around} {E:Value->Shared->Prop} {s:Shared}
theorem KF{Q:Value->Shared->Prop}(hr:IsRange s.heap r 0 n 1 t u v)(h1:0≤n)(h2:n≤1000)
  (h:Q (.ref s.heap.objs.size) {s with heap:=s.heap.push {cls:=.type "range_iterator",data:=.fields #[rawInt (n-1),rawInt n,rawInt (-1)]}}):wpAny (model prog w) A (call (.builtin "range.__reversed__") [.ref r]) Q E s:=by
 refine wpAny_call_entry vh (⟨_,hr,rfl⟩) zE ?_ (KJ _)
 refine wpAny_bind (wpAny_of_eq (a:=Value.ref r) rfl ?_)
 refine wpAny_bind ?_
 refine wpAny_bind (wpAny_field hr rfl (x:=.int 0 t) rfl (wpAny_bind (wpAny_of_eq (a:=some (0:Int)) rfl ?_)))
 refine wpAny_bind (wpAny_field hr rfl (x:=.int n u) rfl (wpAny_bind (wpAny_of_eq (a:=some n) rfl ?_)))
 refine wpAny_bind (wpAny_field hr rfl (x:=.int 1 v) rfl (wpAny_bind (wpAny_of_eq (a:=some (1:Int)) rfl ?_)))
 refine wpAny_pure ?_
 simp only[(by rw[ja0];lia:Builtin.Range.rangeSize 0 n 1=n),qN (i:=0) (Nat.le_of_lt ‹_›) (by lia),qN (i:=n) (by lia) (by lia),qN (i:=1) (Nat.le_of_lt ‹_›) (by lia),qN (i:= -1) (Nat.le_of_lt ‹_›) (by lia),qN (i:=0-1) (Nat.le_of_lt ‹_›) (by lia)]
 refine wpAny_bind (wpAny_newObj_type (wpAny_pure ⟨_,rfl,?_⟩))
 rw[(by lia:(0:Int)+(n-1)*1=n-1)]
 exact h
theorem Kz{Q₁:Value->Shared->Prop}(hr:IsRange s.heap r 0 n 1 t u v)(h1:0≤n)(h2:n≤1000)
  (h:Q₁ (.ref s.heap.objs.size) {s with heap:=s.heap.push {cls:=.type "range_iterator",data:=.fields #[rawInt (n-1),rawInt n,rawInt (-1)]}}):
  codeAny (model prog w) A (.call (.builtin "reversed.__new__") ⟨[.type "reversed",.ref r],[]⟩) (wants Q₁ E) s:=by
 refine codeAny_of_tree ?_
 refine wpAny_bind (wpAny_of_eq (PySem.F.newCall_reversed_1 _) (wpAny_pure ⟨plainId_quiet PySem.F.plain_reversed_new _,codeAny_builtin PySem.F.entry_reversed_new ?_⟩))
 refine wpAny_bind (wpAny_of_eq (newClass_reversed _) ?_)
 refine wpAny_bind (wpAny_of_eq (a:=()) (by first|rfl|kernel_rfl) ?_)
 refine wpAny_bind (wpAny_of_eq (a:=()) (by first|rfl|kernel_rfl) ?_)
 refine wpAny_bind (wpAny_specialOf (⟨_,hr,rfl⟩) vh.lookup ?_)
 refine wpAny_bind (wpAny_of_eq (vh.bind _) ?_)
 refine wpAny_bind (wpAny_rule ?_)
 refine wpAny_bind (m:=runValue (.call (.builtin "range.__reversed__") ⟨[.ref r],[]⟩)) (show wpAny _ _ (call (.builtin "range.__reversed__") [.ref r]) _ _ _ from KF hr h1 h2 ?_)
 first
 |exact wpAny_pure h
 |exact wpAny_bind (wpAny_pure (wpAny_pure h))
theorem KD{Q:Value->Shared->Prop}(hr:IsRange s.heap r 0 n 1 t u v)(h1:0≤n)(h2:n≤1000)
  (h:Q (.ref s.heap.objs.size) {s with heap:=s.heap.push {cls:=.type "range_iterator",data:=.fields #[rawInt (n-1),rawInt n,rawInt (-1)]}}):wpAny (model prog w) A (call (.type "reversed") [.ref r]) Q E s:=by
 refine callType_other (U:= "range_iterator") (Q₁:=fun obj sw1=>obj=.ref s.heap.objs.size∧sw1={s with heap:=s.heap.push {cls:=.type "range_iterator",data:=.fields #[rawInt (n-1),rawInt n,rawInt (-1)]}}) (by decide+kernel) PySem.F.create_reversed ⟨_,_,PySem.F.mro_reversed⟩ PySem.F.made_reversed zA (PySem.F.typeCall_reversed_1 _) (Kz hr h1 h2 ⟨rfl,rfl⟩) ?_
 rintro obj sw1 ⟨rfl,rfl⟩
 exact ⟨⟨_,Heap.get?_push_size _ rfl,rfl⟩,h⟩
end
section
variable {F:Fm} {KS:List NameKind} {GT:List (Str×AV)}
theorem Vu{β:Type}{V:Gh->β->Value->Prop}{Ψ:β->Sig->Prop}{Θ:List AV->Sig->Prop}(R:F.Rel loc Z z.g)(hp:trees.any (·.1)=false)
  (hk:∀z':St,Imm z.g z'.g->F.C.K.In z'.s.heap->qL F.M f z'.s.heap) (tk:TOk z) (h0:trees=[]->Θ [] Z) (ha:EvL F (spliced trees) loc Z z Θ)
  (k:∀xs Zw1 vs zw1,Θ xs Zw1->F.Rel loc Zw1 zw1.g->Imm z.g zw1.g->TOk zw1->VRs zw1.g xs vs->EvG V F (call f (first++vs) []) loc Zw1 zw1 Ψ):EvG V F (callWith pos f first trees []) loc Z z Ψ:=fun Q E q=>by
 refine callWith_of (P:=qL F.M f) (by rw[hp];rfl) (fun h hh=>hh) ?_
 have body:wpAny F.M F.A (spliced trees) (fun vs sw1=>qL F.M f sw1.heap∧wpAny F.M F.A (call f (first++vs) []) Q E sw1) E z.s:=
  ha _ E fun xs Zw1 vs zw1 p Rw1 st tk v=>⟨hk zw1 (st.imm R) Rw1.hr.top,k xs Zw1 vs zw1 p Rw1 (st.imm R) tk v Q E fun av Zw2 cv zw2 pw2 Rw2 stw2 tkw2 vw2=>q av Zw2 cv zw2 pw2 Rw2 (st.trans stw2) tkw2 vw2⟩
 cases trees with
 |nil=>exact evalArgs_nil3 ⟨hk z (.refl _) R.hr.top,k [] Z [] z (h0 rfl) R (.refl _) tk (by rfl) Q E q⟩
 |cons t rest=>
  obtain ⟨st,t⟩:=t
  have h1:st=false:=by rw[List.any_cons,Bool.or_eq_false_iff]at hp;exact hp.1
  subst h1
  exact Calls.evalArgs_plain body
def SpG{β:Type}(V:Gh->β->Value->Prop)(F:Fm)(e:PySem.Expr)(W:Loc->Sig->(β->Sig->Prop)->Prop):Prop:=∀loc Z z Ψ,F.Rel loc Z z.g->TOk z->W loc Z Ψ->EvG V F (eval e F.env) loc Z z Ψ
theorem UV{β:Type}{V:Gh->β->Value->Prop}{Wc:AV->List AV->Sig->(β->Sig->Prop)->Prop}(hf:Sp F (.Name x np) Wf)(ha:SpL F pos args Wa)
  (hc:∀f xs fv vs loc Z z Ψ,F.Rel loc Z z.g->TOk z->VR z.g f fv->VRs z.g xs vs->Wc f xs Z Ψ->EvG V F (call fv vs) loc Z z Ψ):
  SpG V F (.Call (.Name x np) args [] pos) fun loc Z Ψ=>Wf loc Z fun f Zw1=>qA f∧Wa loc Zw1 fun xs Zw2=>Wc f xs Zw2 Ψ:=fun loc Z z Ψ R tk h Q E q=>
 wpAny_Call_ofName (hf _ _ _ _ R tk h _ E fun f Zw1 fv zw1 p Rw1 sw1 tkw1 vw1=>by
  refine Vu (V:=V) (first:=[]) Rw1 ha.1.1 (Ur vw1 p.1.cases) tkw1 (fun e=>ha.1.2 e _ _ _ p.2) (ha.2 _ _ _ _ Rw1 tkw1 p.2) (fun xs Zw2 vs zw2 pw2 Rw2 imw2 tkw2 vw2=>hc f xs fv vs loc Zw2 zw2 Ψ Rw2 tkw2 (vw1.imm imw2) vw2 pw2) Q E fun av Z' cv z' p' R' s' tk' v'=>q av Z' cv z' p' R' (sw1.trans s') tk' v')
def RgV:Gh->Int×Int->Value->Prop:=fun g p v=>∃r t u w,v=.ref r∧IsRange g.h r p.1 p.2 1 t u w
def wX(f:AV)(xs:List AV)(Z:Sig)(Φ:Int×Int->Sig->Prop):Prop:=f=.ty "range" ∧match xs with
 |[x]=>on x (i:=fun n=>Φ (0,n) Z)
 |[x,y]=>on x (i:=fun a=>on y (i:=fun b=>Φ (a,b) Z))
 |_=>False
theorem Vt{Φ:Int×Int->Sig->Prop}(R:F.Rel loc Z z.g)(tk:TOk z)(hf:VR z.g f fv)(hv:VRs z.g xs vs)(h:wX f xs Z Φ):EvG RgV F (call fv vs) loc Z z Φ:=by
 refine kC ?_ h;rintro rfl h
 subst hf
 rcases xs with _|⟨x,_|⟨y,_|⟨u,xs⟩⟩⟩
 ·exact False.elim h
 ·refine jp ?_ hv.one;rintro a rfl ha
  exact jx h ha False.elim z1 (fun n t h=>v9 R tk h fun Q E q=>call_range_1 (q _ _ _ z.T (.same tk (by lia)) (Ext.push _ _) ⟨_,_,_,_,rfl,Heap.get?_push_size _ rfl⟩)) z4 z4 z1 zt zt
 ·refine qb ?_ hv.two;rintro a b rfl ha hb
  exact Kn h ha hb fun n m t u h=>v9 R tk h fun Q E q=>call_range_2 (q _ _ _ z.T (.same tk (Nat.le_succ _)) (Ext.push _ _) ⟨_,_,_,_,rfl,Heap.get?_push_size _ rfl⟩)
 ·exact False.elim h
theorem Y4(hf:Sp F (.Name x np) Wf)(ha:SpL F pos args Wa):
  SpI F tg (.Call (.Name x np) args [] pos) fun loc Z Φ=>Wf loc Z fun f Zw1=>qA f∧Wa loc Zw1 fun xs Zw2=>wX f xs Zw2 fun p Zw3=> -1000≤p.1∧p.1≤1000∧-1000≤p.2∧p.2≤1000∧Φ (vK p.1 1 (p.2-p.1).toNat) (fun _=>True) Zw3:=fun loc Z z Φ R tk h Q E q=>
 UV (V:=RgV) hf ha (Wc:=fun f xs Z Ψ=>wX f xs Z Ψ) (fun f xs fv vs loc Z z Ψ R tk h1 h2 h3=>Vt R tk h1 h2 h3) loc Z z _ R tk h _ E fun p Zw1 cv zw1 hp Rw1 sw1 tkw1 vw1=>by
  refine ZN ?_ vw1;rintro r t u w rfl hr
  refine x0_5 (fun a1 a2 b1 b2 hp=> ?_) hp
  haveI old:zw1.s.heap.get? zw1.s.heap.objs.size=none:=jB _
  have old0:z.s.heap.get? zw1.s.heap.objs.size=none:=by
   cases e:z.s.heap.get? zw1.s.heap.objs.size with
   |none=>rfl
   |some o=>exact absurd old (sw1.live _ o e)
  refine wpAny_pyIter_range hr (small1 a1 a2 b1 b2) ?_
  rw[ja0]
  let zw2:St:=⟨{zw1.s with heap:=zw1.s.heap.push {cls:=.type "range_iterator",data:=.fields #[rawInt p.1,rawInt ((p.2-p.1).toNat:Int),rawInt 1]}},zw1.T⟩
  refine q _ _ Zw1 _ [zw1.s.heap.objs.size] _ zw2 hp (Rw1.ext (Ext.push _ _) (.refl _)) (sw1.trans (.ext (Ext.push _ _) rfl (Nat.le_refl _) id (.refl _))) (tkw1.le (Nat.le_refl _) rfl) (Oy F.hh) (by
   simp only[(by simp:p.1+((0:Nat):Int)*1=p.1),(by simp:((p.2-p.1).toNat:Int)-((0:Nat):Int)=((p.2-p.1).toNat:Int))];exact Heap.get?_push_size _ rfl) fun p hp=> ?_
  simp at hp;subst hp;exact ⟨((Rw1.hr.fresh (a:=zw1.s.heap.objs.size) old).1),old0⟩
end
end
section
section
variable {F:Fm} {KS:List NameKind} {GT:List (Str×AV)}
theorem VT(hg:Sp F (.Name y np') Wg)(hf:Sp F (.Name x np) Wf)(ha:SpL F pos args Wa):
  SpI F tg (.Call (.Name y np') [.Call (.Name x np) args [] pos] [] pos') fun loc Z Φ=>Wg loc Z fun g Z0=>g=.ty "reversed" ∧Wf loc Z0 fun f Zw1=>qA f∧Wa loc Zw1 fun xs Zw2=>wX f xs Zw2 fun p Zw3=>p.1=0∧0≤p.2∧p.2≤1000∧Φ (vK (p.2-1) (-1) p.2.toNat) (fun _=>True) Zw3:=fun loc Z z Φ R tk h Q E q=>
 wpAny_Call_ofName (hg _ _ _ _ R tk h _ E fun g Z0 gv z₀ pw0 Rw0 sw0 tkw0 v0=>by
  obtain ⟨rfl,pw0⟩:=pw0
  subst v0
  let V:Gh->Int->Value->Prop:=fun g n v=>∃r,v=.ref r∧g.h.get? r=some {cls:=.type "range_iterator",data:=.fields #[rawInt (n-1),rawInt n,rawInt (-1)]}
  refine callWith_of (P:=qL F.M (.type "reversed")) rfl (fun h hh=>hh) ?_
  refine Calls.evalArgs_plain (Calls.spliced_cons (UV (V:=RgV) hf ha (Wc:=fun f xs Z Ψ=>wX f xs Z Ψ) (fun f xs fv vs loc Z z Ψ R tk h1 h2 h3=>Vt R tk h1 h2 h3) loc Z0 z₀ _ Rw0 tkw0 pw0 _ E fun p Zw1 cv zw1 hp Rw1 sw1 tkw1 vw1=> ?_))
  refine wpAny_pure ⟨ze,?_⟩
  refine ZN ?_ vw1;rintro r t u w rfl hr
  obtain ⟨e0,b1,b2,hp⟩:=hp
  rw[e0]at hr
  haveI old:zw1.s.heap.get? zw1.s.heap.objs.size=none:=jB _
  have sA:=sw0.trans sw1
  have old0:z.s.heap.get? zw1.s.heap.objs.size=none:=by
   cases e:z.s.heap.get? zw1.s.heap.objs.size with
   |none=>rfl
   |some o=>exact absurd old (sA.live _ o e)
  refine KD hr b1 b2 ?_
  let zw2:St:=⟨{zw1.s with heap:=zw1.s.heap.push {cls:=.type "range_iterator",data:=.fields #[rawInt (p.2-1),rawInt p.2,rawInt (-1)]}},zw1.T⟩
  haveI hit:IsRangeIter zw2.s.heap zw1.s.heap.objs.size (p.2-1) p.2 (-1):=Heap.get?_push_size _ rfl
  refine wpAny_pyIter_rangeiter (s:=zw2.s) hit ?_
  refine q _ _ Zw1 _ [zw1.s.heap.objs.size] _ zw2 hp (Rw1.ext (Ext.push _ _) (.refl _)) (sA.trans (.ext (Ext.push _ _) rfl (Nat.le_refl _) id (.refl _))) (tkw1.le (Nat.le_refl _) rfl) (Oy F.hh) (by
   simp only[(by simp:p.2-1+((0:Nat):Int)*(-1)=p.2-1),(by lia:(p.2.toNat:Int)-((0:Nat):Int)=p.2)];exact hit) fun p hp=> ?_
  simp at hp;subst hp;exact ⟨((Rw1.hr.fresh (a:=zw1.s.heap.objs.size) old).1),old0⟩)
end
section
variable {prog:Program} {w:World} {A:Around} {E:Value->Shared->Prop} {s:Shared}
theorem yz{Q:Value->Shared->Prop}(hit:s.heap.IsStrIter it "str_ascii_iterator" x t i)(hx:x.cps[i]? =some c)
  (hQ:∀h',h'.IsStrIter it "str_ascii_iterator" x t (i+1)->Heap.SameBut it s.heap h'->Q (.str ⟨#[c]⟩ s.toks) {s with heap:=h',toks:=s.toks+1}):wpAny (model prog w) A (Builtin.SmallTypes.nextOf (.ref it)) Q E s:=by
 refine jX (fun o ho hc hd=> ?_) (id hit)
 refine wpAny_bind (wpAny_callSpecial?_slot (name:=Str.ofString "__next__") hit.typeIs PySem.F.slot_str_ascii_iterator_next
  (wpAny_call_entry PySem.F.slot_str_ascii_iterator_next hit.typeIs PySem.F.entry_str_ascii_iterator_next ?_ (PySem.F.args_str_ascii_iterator_next_1 _)))
 show wpAny _ _ (field (.ref it) 0>>=_) _ _ s
 refine wpAny_bind (wpAny_field ho hd (x:=.str x t) rfl ?_)
 show wpAny _ _ (field (.ref it) 1>>=_) _ _ s
 refine wpAny_bind (wpAny_field ho hd (x:=.int i 0) rfl ?_)
 simp only[Int.toNat_natCast,hx]
 refine wpAny_bind (wpAny_setField ho hd (Nat.le_refl _) (wpAny_bind (wpAny_mkStr (wpAny_pure ⟨_,rfl,wpAny_pure (hQ _ ?_ (Heap.SameBut.update ..))⟩) (by show 1≤sizeLine;decide))))
 exact ⟨_,Heap.get?_update_self _ ho (Obj.isFreed_of_fields (Obj.data_mapFields hd _)),(Obj.cls_mapFields ..).trans hc,by
  rw[Obj.data_mapFields hd];simp[rawInt]⟩
theorem zc{Q:Value->Shared->Prop}(hh:A.handled=none)(hit:s.heap.IsStrIter it "str_ascii_iterator" x t i)(hx:x.cps[i]? =none)
  (hE:∀h' e,Heap.ExtBut it s.heap h'->(∃o,h'.get? e=some o∧o.cls=.type "StopIteration")->E (.ref e) {s with heap:=h'}):wpAny (model prog w) A (Builtin.SmallTypes.nextOf (.ref it)) Q E s:=by
 refine jX (fun o ho hc hd=> ?_) (id hit)
 refine wpAny_bind (wpAny_callSpecial?_slot (name:=Str.ofString "__next__") hit.typeIs PySem.F.slot_str_ascii_iterator_next
  (wpAny_call_entry PySem.F.slot_str_ascii_iterator_next hit.typeIs PySem.F.entry_str_ascii_iterator_next ?_ (PySem.F.args_str_ascii_iterator_next_1 _)))
 show wpAny _ _ (field (.ref it) 0>>=_) _ _ s
 refine wpAny_bind (wpAny_field ho hd (x:=.str x t) rfl ?_)
 show wpAny _ _ (field (.ref it) 1>>=_) _ _ s
 refine wpAny_bind (wpAny_field ho hd (x:=.int i 0) rfl ?_)
 simp only[Int.toNat_natCast,hx]
 refine wpAny_bind (wpAny_rule (wpAny_bind (wpAny_setField ho hd (Nat.le_add_right _ _) (wpAny_bind (wpAny_letGo ?_)))))
 refine wpAny_bind ?_
 refine wpAny_bind (wpAny_newObj_type ?_ (by size_fits))
 refine wpAny_bind (m:=firstArgMember _ _) (wpAny_of_eq (a:=Value.none) (by first|rfl|(rfl)) ?_)
 refine wpAny_newObj_type ?_ (by size_fits)
 refine wpAny_bind (wpAny_handled ?_)
 rw[show A.in1.handled=none from hh]
 refine wpAny_bind (wpAny_pure (wpAny_throw ?_))
 exact hE _ _ (((Heap.SameBut.update ..).extBut.push _).push _) ⟨_,Heap.get?_push_size _ rfl,rfl⟩
theorem jbk{Q:Bool->Shared->Prop}{b0:Bool}(h:∀b,Q b s):wpAny (model prog w) A (pure b0) Q E s:=wpAny_pure (h _)
theorem jcn{R:Result->Shared->Prop}(H:∀(A:Around) (E:Value->Shared->Prop) (s:Shared) (Q:Value->Shared->Prop),Q (.ref s.heap.objs.size) {s with heap:=s.heap.push o}->wpAny (model prog w) A (pyIter v) Q E s)
  (h:R (.ok (.ret (.ref (s.heap.push o).objs.size)))
    {s with heap:=(s.heap.push o).push {cls:=.type "enumerate",data:=.fields #[.none,.bool false,.ref s.heap.objs.size,rawInt 0,.none,.none]}}):
  wpAny (model prog w) A.in1 (Builtin.«enumerate.__new__» ⟨[.type "enumerate",v],[]⟩) (fun fin s'=>match fin with| .done f=>R (.ok f) s'| .again c'=>c'.quiet=true∧codeAny (model prog w) A c' R s') (fun e s'=>R (.error e) s') s:=by
 obtain ⟨hp,g,d,tk,os⟩:=s
 have hsub:=sub_enumerate
 wp_walk
 refine wpAny_stack_any fun st=>jbk fun b=> ?_
 cases b
 ·wp_walk using H
  exact h
 ·wp_walk using H
  exact h
theorem Oj{Q:Value->Shared->Prop}(ha:x.cps.all (·<128)=true)
  (h:∀h',IsEnum h' (s.heap.objs.size+1) s.heap.objs.size 0 .none->h'.IsStrIter s.heap.objs.size "str_ascii_iterator" x t 0->Ext s.heap h'->Q (.ref (s.heap.objs.size+1)) {s with heap:=h'}):
  wpAny (model prog w) A (call (.type "enumerate") [.str x t]) Q E s:=by
 let o:Obj:={cls:=.type "str_ascii_iterator",data:=.fields #[.str x t,.int 0 0]}
 have mt:Meets (Builtin.«enumerate.__new__» ⟨[.type "enumerate",.str x t],[]⟩) (fun _ R s=>R (.ok (.ret (.ref (s.heap.push o).objs.size)))
    {s with heap:=(s.heap.push o).push {cls:=.type "enumerate",data:=.fields #[.none,.bool false,.ref s.heap.objs.size,rawInt 0,.none,.none]}}):=
  fun prog w A R s h=>jcn (fun A E s Q q=>wpAny_pyIter_ascii ha q) h
 refine callType_new PySem.F.called_enumerate rfl (PySem.F.typeCall_enumerate_1 _) (PySem.F.newCall_enumerate_1 _) (fun obj=>PySem.F.args_object_init_2 obj _) PySem.F.entry_enumerate_new mt ?_
 haveI hz:(s.heap.push o).objs.size=s.heap.objs.size+1:=Heap.size_push ..
 rw[hz]
 have he:IsEnum ((s.heap.push o).push {cls:=.type "enumerate",data:=.fields #[.none,.bool false,.ref s.heap.objs.size,rawInt 0,.none,.none]}) (s.heap.objs.size+1) s.heap.objs.size 0 .none:=by
  have:=Heap.get?_push_size (s.heap.push o) (o:={cls:=.type "enumerate",data:=.fields #[.none,.bool false,.ref s.heap.objs.size,rawInt 0,.none,.none]}) rfl
  rw[hz]at this;exact this
 exact ⟨⟨_,he,rfl⟩,h _ he ⟨_,Heap.get?_push_of_some _ (Heap.get?_push_size _ rfl),rfl,rfl⟩ fun b o x=>Heap.get?_push_of_some _ (Heap.get?_push_of_some _ x)⟩
theorem Oh{e it:Addr}{i c:Nat}{x:Str}{t:Tok}{old:Value}{Q:Value->Shared->Prop}
  (he:IsEnum s.heap e it i old) (hit:s.heap.IsStrIter it "str_ascii_iterator" x t i) (hx:x.cps[i]? =some c) (hne:e≠it)
  (hQ:∀h',IsEnumOut h' e it ((i:Int)+1) (.str ⟨#[c]⟩ s.toks) s.heap.objs.size->h'.IsStrIter it "str_ascii_iterator" x t (i+1)->
   h'.get? s.heap.objs.size=some {cls:=.type "tuple",data:=.seq #[.int i (s.toks+1),.str ⟨#[c]⟩ s.toks]}->
   (∀b o,b≠e->b≠it->s.heap.get? b=some o->h'.get? b=some o)->Q (.ref s.heap.objs.size) {s with heap:=h',toks:=s.toks+1+1}):
  wpAny (model prog w) A (Builtin.«enumerate.__next__» ⟨[.ref e],[]⟩) (fun fin s'=>∃v,fin=.done (.ret v)∧Q v s') E s:=by
 obtain ⟨hp,g,d,tk,os⟩:=s
 show wpAny _ _ (field (.ref e) 2>>=_) _ _ _
 refine wpAny_bind (wpAny_field he rfl (x:=.ref it) rfl ?_)
 refine wpAny_bind (yz hit hx fun h₁ hit1 hs1=> ?_)
 replace hs1:Heap.SameBut it hp h₁:=hs1
 haveI he1:IsEnum h₁ e it i old:=(hs1.2 e hne).trans he
 generalize hv:Value.str ⟨#[c]⟩ tk=v at*
 refine wpAny_bind (wpAny_field he1 rfl (x:=rawInt i) rfl ?_)
 refine wpAny_bind (wpAny_field he1 rfl (x:=.none) rfl ?_)
 refine wpAny_bind (wpAny_mkInt ?_)
 refine wpAny_bind (wpAny_setField_rec he1 (Nat.le_add_left _ _) fun hw2 he2 hsw2=> ?_)
 replace hsw2:Heap.SameBut e h₁ hw2:=hsw2
 replace he2:IsEnum hw2 e it ((i:Int)+1) old:=he2
 refine wpAny_bind (wpAny_setField_rec he2 (Nat.le_add_right _ _) fun h₃ he3 hsw3=> ?_)
 replace hsw3:Heap.SameBut e hw2 h₃:=hsw3
 replace he3:IsEnum h₃ e it ((i:Int)+1) old:=he3
 show wpAny _ _ (newTuple [.int i (tk+1),v]>>=_) _ _ ⟨h₃,g,d,tk+1+1,os⟩
 refine wpAny_bind (wpAny_newTuple ?_)
 haveI he4:IsEnum (h₃.push {cls:=.type "tuple",data:=.seq #[.int i (tk+1),v]}) e it ((i:Int)+1) old:=Heap.get?_push_of_some _ he3
 generalize hh4:h₃.push {cls:=.type "tuple",data:=.seq #[.int i (tk+1),v]}=h₄ at he4
 have hsz:h₃.objs.size=hp.objs.size:=by simp only[hsw3.1,hsw2.1,hs1.1]
 haveI hel:e<hp.objs.size:=Heap.lt_size he
 haveI ht4:h₄.get? hp.objs.size=some {cls:=.type "tuple",data:=.seq #[.int i (tk+1),v]}:=by simp only[←hh4,←hsz];exact Heap.get?_push_size _ rfl
 have hkw4:∀b o,b≠e->b≠it->hp.get? b=some o->h₄.get? b=some o:=fun b o hbe hbi hb=>by
  rw[←hh4];exact Heap.get?_push_of_some _ (hsw3.extBut b o hbe (hsw2.extBut b o hbe (hs1.extBut b o hbi hb)))
 have hit4:h₄.IsStrIter it "str_ascii_iterator" x t (i+1):=by
  rw[←hh4];refine jp (fun o ho r=> ?_) ((hit1.extBut hsw2.extBut (Ne.symm hne)).extBut hsw3.extBut (Ne.symm hne));exact ⟨o,Heap.get?_push_of_some _ ho,r⟩
 rw[hsz]
 refine wpAny_bind ?_
 refine wpAny_bind (wpAny_field he4 rfl (x:=.none) rfl (wpAny_pure ?_))
 refine wpAny_bind (wpAny_rule ?_)
 refine wpAny_bind (wpAny_field he4 rfl (x:=old) rfl ?_)
 refine wpAny_bind (wpAny_setField_rec he4 (Nat.le_refl _) fun hw5 he5 hs5=> ?_)
 replace hs5:Heap.SameBut e h₄ hw5:=hs5
 replace he5:IsEnum hw5 e it ((i:Int)+1) v:=he5
 show wpAny _ _ (Builtin.SmallTypes.ownedTupleHandOut (.ref e) (.ref hp.objs.size)>>=_) _ _ ⟨hw5,g,d,tk+1+1,os⟩
 refine wpAny_bind ?_
 refine wpAny_bind (wpAny_setField_rec he5 (Nat.le_add_left _ _) fun hw6 he6 hs6=> ?_)
 replace hs6:Heap.SameBut e hw5 hw6:=hs6
 replace he6:IsEnumOut hw6 e it ((i:Int)+1) v hp.objs.size:=he6
 refine wpAny_setField_rec he6 (Nat.le_add_left _ _) fun hw7 he7 hs7=> ?_
 replace hs7:Heap.SameBut e hw6 hw7:=hs7
 replace he7:IsEnumOut hw7 e it ((i:Int)+1) v hp.objs.size:=he7
 refine wpAny_bind (wpAny_letGo (wpAny_pure ⟨_,rfl,hQ hw7 he7 ?_ ?_ ?_⟩))
 ·exact ((hit4.extBut hs5.extBut (Ne.symm hne)).extBut hs6.extBut (Ne.symm hne)).extBut hs7.extBut (Ne.symm hne)
 ·exact hs7.extBut _ _ (Nat.ne_of_gt hel) (hs6.extBut _ _ (Nat.ne_of_gt hel) (hs5.extBut _ _ (Nat.ne_of_gt hel) ht4))
 ·exact fun b o hbe hbi hb=>hs7.extBut b o hbe (hs6.extBut b o hbe (hs5.extBut b o hbe (hkw4 b o hbe hbi hb)))
end
end
section
noncomputable def vp(s:Str):List AV:=(List.range s.length).map fun i=>.tup [.int (i:Nat),.str ⟨#[s.cps[i]?.getD 0]⟩]
theorem jaD(hh:A.handled=none)(hne:e≠it):ON C A (.Tuple ts k p) [e,it] e (vp s) (fun _=>True) (fun i h=>∃old,IsEnum h e it (i:Nat) old∧h.IsStrIter it "str_ascii_iterator" s t i)where
 frame:=fun i h h' q__ kk=>jp (fun old he h__=>jp (fun o ho r=>⟨old,kk e (by simp) _ he,⟨o,kk it (by simp) o ho,r⟩⟩) h__) q__
 priv:=fun i h q__ q hq=>jp (fun old he h__=>jX (fun o ho hc _=>by
  simp at hq
  rcases hq with rfl|rfl
  ·exact ⟨_,he,jY rfl (by decide) (by decide)⟩
  ·exact ⟨o,ho,jY hc (by decide) (by decide)⟩) h__) q__
 item:=fun i x Z z hx R hD q__ tk Q E h=>jp (fun old he hit=>by
  have hlt:i<s.length:=by
   have:=(List.getElem?_eq_some_iff.mp hx).1
   simpa[vp]using this
  have hx':x=.tup [.int (i:Nat),.str ⟨#[s.cps[i]?.getD 0]⟩]:=by
   simp[vp,hlt]at hx;exact hx.symm
  have hc:s.cps[i]? =some (s.cps[i]?.getD 0):=by
   haveI h1:i<s.cps.size:=hlt
   simp[h1]
  subst hx'
  generalize s.cps[i]?.getD 0=c at hc h hx
  haveI hT:z.s.TypeIs (.ref e) "enumerate" :=⟨_,he,rfl⟩
  refine wpAny_bind (wpAny_attempt (wpAny_callSpecial?_slot (name:=Str.ofString "__next__") hT PySem.F.slot_enumerate_next
   (wpAny_call_entry PySem.F.slot_enumerate_next hT PySem.F.entry_enumerate_next (Oh he hit hc hne fun h' heo hit' ht hk=>wpAny_pure ⟨_,rfl,?_⟩) (PySem.F.args_enumerate_next_1 _))))
  refine wpAny_letOwnedTupleGo_enum (s:={z.s with heap:=h',toks:=z.s.toks+1+1}) heo fun hw2 he2 hsw2=> ?_
  replace hsw2:Heap.SameBut e h' hw2:=hsw2
  have hz:z.s.heap.objs.size≠e:=fun q=>by
   have:=jB z.s.heap
   rw[q,he]at this;contradiction
  refine h _ hw2 _ _ (.put tk (Nat.le_refl _) (Nat.le_add_right _ _) _:wK z (z.s.toks+1+1) (Y0 z.T z.s.toks (.s ⟨#[c]⟩))) (fun b o hb ho=>(hsw2.2 b fun q=>hb (by simp[q])).trans (hk b o (fun q=>hb (by simp[q])) (fun q=>hb (by simp[q])) ho)) ⟨_,by push_cast at he2⊢;exact he2,hit'.extBut hsw2.extBut (Ne.symm hne)⟩ ?_
  exact Exists.intro _ ⟨_,0,rfl,(hsw2.2 _ hz).trans ht,.cons kQ (.cons (wZ (Nat.ne_of_gt tk.pos) kR) rfl)⟩) q__
 done:=fun Z z R hD q__ tk Q E h=>jp (fun old he hit=>by
  haveI hT:z.s.TypeIs (.ref e) "enumerate" :=⟨_,he,rfl⟩
  refine wpAny_bind (wpAny_attempt (wpAny_callSpecial?_slot (name:=Str.ofString "__next__") hT PySem.F.slot_enumerate_next
   (wpAny_call_entry PySem.F.slot_enumerate_next hT PySem.F.entry_enumerate_next ?_ (PySem.F.args_enumerate_next_1 _))))
  show wpAny _ _ (field (.ref e) 2>>=_) _ _ _
  refine wpAny_bind (wpAny_field he rfl (x:=.ref it) rfl ?_)
  refine wpAny_bind (zc hh hit (by simp[vp,Str.length]) fun h' x he' hx'=> ?_)
  refine jp (fun o ho hc=> ?_) hx'
  refine wpAny_bind (wpAny_isInstance (T:= "StopIteration") (b:=true) ⟨o,ho,hc⟩ isSubtype_stop ?_)
  exact wpAny_pure (h h' fun b ob hb e'=>he' b ob (fun q=>hb (by simp[q])) e')) q__
 self:=fun i s Q E q__ q=>jp (fun old he _=>wpAny_pyIter_enum he q) q__
section
variable {F:Fm} {KS:List NameKind} {GT:List (Str×AV)}
theorem jaQ(hf:Sp F (.Name x np) Wf)(ha:SpL F pos args Wa):
  SpI F (.Tuple ts k p) (.Call (.Name x np) args [] pos) fun loc Z Φ=>Wf loc Z fun f Zw1=>f=.ty "enumerate" ∧Wa loc Zw1 fun xs Zw2=>∃s,xs=[.str s]∧s.cps.all (·<128)=true∧Φ (vp s) (fun _=>True) Zw2:=fun loc Z z Φ R tk h Q E q=>
 wpAny_Call_ofName (hf _ _ _ _ R tk h _ E fun f Zw1 fv zw1 pw1 Rw1 sw1 tkw1 vw1=>by
  refine kC ?_ pw1;rintro rfl pw1
  subst vw1
  have fin:∀xs Zw2 vs zw2,(∃s,xs=[.str s]∧s.cps.all (·<128)=true∧Φ (vp s) (fun _=>True) Zw2)->F.Rel loc Zw2 zw2.g->jJ (F.W Z) Z z Zw2 zw2->TOk zw2->VRs zw2.g xs vs->wpAny F.M F.A (call (.type "enumerate") ([]++vs) []) (fun x sw1=>wpAny F.M F.A (pyIter x) Q E sw1) E zw2.s:=by
   rintro xs Zw2 vs zw2 hX;refine jX ?_ hX;rintro s rfl has hΦ;rintro Rw2 sw2 tkw2 vw2
   refine jp ?_ vw2.one;rintro a rfl ha'
   refine jX ?_ ha';rintro t rfl _ _
   refine Oj has fun h' he hit hx=> ?_
   haveI old:zw2.s.heap.get? zw2.s.heap.objs.size=none:=jB _
   have old1:zw2.s.heap.get? (zw2.s.heap.objs.size+1)=none:=by
    cases e:zw2.s.heap.get? (zw2.s.heap.objs.size+1)with
    |none=>rfl
    |some o=>exact absurd (Heap.lt_size e) (Nat.not_lt.mpr (Nat.le_succ _))
   have oldz:∀a,zw2.s.heap.get? a=none->z.s.heap.get? a=none:=fun a ha=>by
    cases e:z.s.heap.get? a with
    |none=>rfl
    |some o=>exact absurd ha (sw2.live _ o e)
   let z3:St:=⟨{zw2.s with heap:=h'},zw2.T⟩
   refine wpAny_pyIter_enum (s:=z3.s) he ?_
   refine q _ _ Zw2 _ [zw2.s.heap.objs.size+1,zw2.s.heap.objs.size] _ z3 hΦ (Rw2.ext hx (.refl _)) (sw2.trans (.ext hx rfl (Nat.le_refl _) id (.refl _))) (tkw2.le (Nat.le_refl _) rfl) (jaD F.hh (Nat.succ_ne_self _)) ⟨_,by simpa using he,hit⟩ fun p hp=> ?_
   simp at hp
   rcases hp with rfl|rfl
   ·exact ⟨(Rw2.hr.fresh old1).1,oldz _ old1⟩
   ·exact ⟨(Rw2.hr.fresh old).1,oldz _ old⟩
  refine (callWith_of (M:=F.M) (A:=F.A) (E:=E) (s:=zw1.s) (pos:=pos) (f:=.type "enumerate") (first:=[]) (args:=backTo pos (starEach args F.env)) (keywords:=[]) (P:=qL F.M (.type "enumerate")) (Q:=fun x sw1=>wpAny F.M F.A (pyIter x) Q E sw1) (by rw[ha.1.1];rfl) (fun h hh=>hh)) ?_
  have body:wpAny F.M F.A (spliced (backTo pos (starEach args F.env))) (fun vs sw1=>qL F.M (.type "enumerate") sw1.heap∧wpAny F.M F.A (call (.type "enumerate") ([]++vs) []) (fun x sw1=>wpAny F.M F.A (pyIter x) Q E sw1) E sw1) E zw1.s:=
   ha.2 _ _ _ _ Rw1 tkw1 pw1 _ E fun xs Zw2 vs zw2 pw2 Rw2 sw2 tkw2 vw2=>⟨ze,fin xs Zw2 vs zw2 pw2 Rw2 (sw1.trans sw2) tkw2 vw2⟩
  have hp:=ha.1.1
  cases ht:backTo pos (starEach args F.env)with
  |nil=>
   have:=ha.1.2 ht _ _ _ pw1
   refine jp (fun s h1 _=> ?_) this
   contradiction
  |cons t rest=>
   obtain ⟨st,t⟩:=t
   rw[ht]at hp body
   haveI h1:st=false:=by rw[List.any_cons,Bool.or_eq_false_iff]at hp;exact hp.1
   subst h1
   exact Calls.evalArgs_plain body)
end
end
theorem UE{R:Result->Shared->Prop}(I:Nat->Shared->Prop)
  (turn:∀n s,I n s->wpAny (model prog w) A (pyNext it) (fun r sw1=>match r with
   |none=>R (.ok .next) sw1
   |some v=>wpAny (model prog w) A (letOwnedTupleGo target it v) (fun _ s1'=>wpAny (model prog w) A (assign target env v) (fun _ sw2=>
     wpAny (model prog w) A (forIn ifs true fun c r=>if r=true then do let ok←isTrue c env (eval c env);pure (ForInStep.yield ok)else pure (ForInStep.yield r)) (fun ok s3=>
      if ok=true then wpAny (model prog w) A (eval elt env) (fun x s4=>
       wpAny (model prog w) A (call (.builtin "list.append") [acc,x]) (fun _ s5=>∃m,m<n∧I m s5) (notedBy (model prog w) A env fun e s'=>R (.error e) s') s4) (notedBy (model prog w) A env fun e s'=>R (.error e) s') s3
      else∃m,m<n∧I m s3) (notedBy (model prog w) A env fun e s'=>R (.error e) s') sw2) (notedBy (model prog w) A env fun e s'=>R (.error e) s') s1') (notedBy (model prog w) A env fun e s'=>R (.error e) s') sw1) (notedBy (model prog w) A env fun e s'=>R (.error e) s') s)
  (n:Nat) (h:I n s):
  codeAny (model prog w) A (.compLoop (.ListComp elt [⟨target,iter,ifs,0⟩] scope pos) 0 it acc env) R s:=by
 refine codeAny_loop rfl I (fun n s hI=> ?_) n h
 show wpAny _ A ((compTurn (.ListComp elt [⟨target,iter,ifs,0⟩] scope pos) 0 it acc env).onRaise (fun x=>do noteFrame x env;theTreesLotGoes x)) _ _ s
 refine wpAny_noted ?_
 rw[compTurn_list]
 refine wpAny_bind (wpAny_standAt (wpAny_bind (wpAny_mono (turn n s hI) (fun r sw1 h₁=> ?_) fun _ _ h'=>h')))
 cases r with
 |none=>exact wpAny_pure h₁
 |some v=>
  refine wpAny_bind (wpAny_mono h₁ (fun _ s1' hw1'=> ?_) fun _ _ h'=>h')
  refine wpAny_bind (wpAny_mono hw1' (fun _ sw2 hw2=>wpAny_bind (wpAny_mono hw2 (fun ok s3 h₃=> ?_) fun _ _ h'=>h')) fun _ _ h'=>h')
  cases ok with
  |false=>exact wpAny_pure ⟨rfl,h₃⟩
  |true=>exact wpAny_bind (wpAny_bind (wpAny_mono h₃ (fun x s4 h₄=>wpAny_bind (wpAny_mono h₄ (fun _ s5 hw5=>wpAny_pure (wpAny_pure ⟨rfl,hw5⟩)) fun _ _ h'=>h')) fun _ _ h'=>h'))
noncomputable def vE(env:Env):List (Str×NameKind)->List (Str×Addr)->List (Str×Addr)
 |[],acc=>acc
 |(n,k)::r,acc=>vE env r (if k==.free then (n,(env.cells.lookup n).getD 0)::acc else acc)
theorem UG{env:Env}{n:Str}{k:NameKind}{r:List (Str×NameKind)}{acc:List (Str×Addr)}:vE env ((n,k)::r) acc=vE env r (if k==.free then (n,(env.cells.lookup n).getD 0)::acc else acc):=rfl
theorem KB(h:∀n,(n,NameKind.free)∈scope.names->∃c,env.cells.lookup n=some c):closureFor scope env=pure (vE env scope.names []):=by
 have key:∀(l:List (Str×NameKind)) (acc:List (Str×Addr)),(∀n,(n,NameKind.free)∈l->∃c,env.cells.lookup n=some c)->
   (forIn l acc fun(x:Str×NameKind) (r:List (Str×Addr))=>(if (x.2==NameKind.free)=true then do let c←cellOf env x.1;pure (ForInStep.yield ((x.1,c)::r))else pure (ForInStep.yield r):Sem _))=pure (vE env l acc):=by
  intro l
  induction l with
  |nil=>intro acc _;rfl
  |cons x l ih=>
   obtain ⟨n,k⟩:=x
   intro acc hl
   simp only[List.forIn_cons]
   by_cases hk:(k==NameKind.free)=true
   ·have hk':k=NameKind.free:=by simpa using hk
    subst hk'
    obtain ⟨c,hc⟩:=hl n (List.mem_cons_self)
    simp only[hk,if_true,(by delta cellOf;rw[hc]:cellOf env n=pure c)]
    show (pure (ForInStep.yield ((n,c)::acc))>>=_)=_
    rw[pure_bind]
    dsimp only
    rw[ih _ fun m hm=>hl m (List.mem_cons_of_mem _ hm)]
    rw[UG,if_pos hk,hc];rfl
   ·simp only[hk,if_false]
    show (pure (ForInStep.yield acc)>>=_)=_
    rw[pure_bind]
    dsimp only
    rw[ih _ fun m hm=>hl m (List.mem_cons_of_mem _ hm)]
    rw[UG,if_neg hk]
 have:=key scope.names [] h
 show ((forIn scope.names [] fun(x:Str×NameKind) (r:List (Str×Addr))=>(if (x.2==NameKind.free)=true then do let c←cellOf env x.1;pure (ForInStep.yield ((x.1,c)::r))else pure (ForInStep.yield r):Sem _))>>=fun cs=>pure cs)=_
 rw[this];rfl
theorem Xk(hc:env.cells.lookup n=some c):∀(l:List (Str×NameKind)) (acc:List (Str×Addr)),((n,NameKind.free)∈l∨acc.lookup n=some c)->(acc.lookup n=some c∨acc.lookup n=none)->(vE env l acc).lookup n=some c:=by
 intro v__
 induction v__ with
 |nil=>
  intro acc h _
  refine Or.elim h (fun h=> ?_) fun h=> ?_
  ·contradiction
  ·exact h
 |cons p l ih=>
  obtain ⟨m,k⟩:=p
  intro acc h ha
  rw[UG]
  by_cases hk:(k==NameKind.free)=true
  ·have hk':k=NameKind.free:=by simpa using hk
   rw[if_pos hk]
   have hl:List.lookup n ((m,(env.cells.lookup m).getD 0)::acc)=if n==m then some ((env.cells.lookup m).getD 0)else acc.lookup n:=by simp only[List.lookup_cons];split<;>simp_all
   by_cases hm:n=m
   ·subst hm
    haveI hl':List.lookup n ((n,(env.cells.lookup n).getD 0)::acc)=some c:=by simp only[hl,hc];simp
    exact ih _ (.inr hl') (.inl hl')
   ·have hb:(n==m)=false:=beq_false_of_ne hm
    have hl':List.lookup n ((m,(env.cells.lookup m).getD 0)::acc)=acc.lookup n:=by rw[hl,hb];rfl
    refine ih _ ?_ (hl'▸ha)
    refine Or.elim h (fun h=> ?_) fun h=> ?_
    ·rcases List.mem_cons.mp h with h|h
     ·exact absurd (congrArg Prod.fst h) hm
     ·exact .inl h
    ·exact .inr (hl'.trans h)
  ·rw[if_neg hk]
   refine ih _ ?_ ha
   refine Or.elim h (fun h=> ?_) fun h=> ?_
   ·rcases List.mem_cons.mp h with h|h
    ·have:k=NameKind.free:=(congrArg Prod.snd h).symm
     exact absurd (by simp[this]) hk
    ·exact .inl h
   ·exact .inr h
theorem yv:(relabel scope env).names.lookup x=(scope.names.lookup x).map fun k=>if (k==NameKind.free&&env.scope.kind==.function&&env.kindOf x==some .cell)=true then .cell else k:=by
 delta relabel
 induction scope.names with
 |nil=>rfl
 |cons p l ih=>
  obtain ⟨n,k⟩:=p
  dsimp only at ih⊢
  rw[List.map_cons]
  rw[(fun c=>by cases c<;>rfl:∀c:Bool,(if c=true then (n,NameKind.cell)else (n,k))=(n,if c=true then NameKind.cell else k))]
  rw[List.lookup_cons]
  by_cases hx:x=n
  ·subst hx
   rw[List.lookup_cons,beq_self_eq_true];rfl
  ·have hb:(x==n)=false:=beq_false_of_ne hx
   simp only[List.lookup_cons,hb];exact ih
theorem qa.adopt(R:qa C Z h)(hK:C.K.lookup a=none)(ho:OR C.prog C.w h o a):qa C (upd Z a o) h:=by
 refine ⟨R.top,fun b o' e=> ?_,fun b d=> ?_,R.tk⟩
 ·by_cases hb:b=a
  ·subst hb;cases jc.symm.trans e;exact ho
  ·rw[ji hb]at e;exact R.obj b o' e
 ·by_cases hb:b=a
  ·subst hb;exact hK
  ·exact R.off b (by delta dom at d⊢;rwa [ji hb]at d)
theorem jJ.inner{P P0:Addr->Prop}(x:jJ (fun b=>P0 b∨dom Z b) Z z Zw1 zw1)(y:jJ (fun b=>P b∨dom Zw1 b) Zw1 zw1 Zw2 zw2)(hP:∀b,P b->z.s.heap.get? b=none∨P0 b):jJ (fun b=>P0 b∨dom Z b) Z z Zw2 zw2:=by
 refine ⟨fun b o hb ho=>y.kp b o (fun hf=> ?_) (x.kp b o hb ho),fun b o e=> ?_,fun a d n=> ?_,y.os.trans x.os,Nat.le_trans x.toks y.toks,fun g=>y.gens (x.gens g),x.T.trans y.T⟩
 ·refine Or.elim hf (fun h=> ?_) fun h=> ?_
  ·rcases hP b h with h|h
   ·exact kH h ho
   ·exact hb (.inl h)
  ·by_cases h0:Z b=none
   ·rw[x.new b h h0]at ho;contradiction
   ·exact hb (.inr h0)
 ·cases h:zw1.s.heap.get? b with
  |none=>exact absurd h (x.live b o e)
  |some o'=>exact y.live b o' h
 ·by_cases h1:Zw1 a=none
  ·have:=y.new a d h1
   cases e:z.s.heap.get? a with
   |none=>rfl
   |some o=>exact absurd this (x.live a o e)
  ·exact x.new a h1 n
theorem Rel.back{W:Addr->Prop}(R:Mine.Internal.Rel C env N loc Z z.g)(x:jJ W Z z Z' z')(H:qa C Z' z'.g)(im:Imm z.g z'.g)(hL:¬W env.locals):Mine.Internal.Rel C env N loc Z' z'.g:=by
 refine jp (fun m hn hm=> ?_) R.ns
 obtain ⟨oL,hoL⟩:∃o,z.s.heap.get? env.locals=some o:=by refine yU (fun o _ _ ho _=> ?_) hn;exact ⟨o,ho⟩
 refine ⟨H,⟨m,hn.at' fun o e=>x.kp _ _ hL e,fun i y v e l=>(hm i y v e l).imm im⟩,?_,R.offK⟩
 cases e:Z' env.locals with
 |none=>rfl
 |some o=>
  have:=x.new env.locals (by delta dom;rw[e];simp) R.offS
  cases hoL.symm.trans this
section
noncomputable def cFm(F:Fm)(scope:Scope)(N':List Str)(Cad:Addr):Fm:=
 {C:=F.C,A:=F.A,env:=compEnvC scope (vE F.env scope.names []) Cad F.env,N:=N',lv:=F.lv,hh:=F.hh,hd:=F.hd,hu:=F.hu}
noncomputable def wE(fm:List (Nat×Nat))(loc:Loc):Loc:=fun j=>(fm.lookup j).bind loc
structure KR(F:Fm)(scope:Scope)(N':List Str)(fm:List (Nat×Nat)):Prop where
 kind:scope.kind=.function
 nocell:∀x∈scope.names,x.2≠.cell
 locs:∀x∈scope.names,x.2=.local->scope.names.lookup x.1=some .local
 fmok:∀p∈fm,∃n,N'[p.1]? =some n∧F.N[p.2]? =some n∧(n,NameKind.free)∈scope.names∧scope.names.lookup n=some .free
 free:∀n,(n,NameKind.free)∈scope.names->∃p∈fm,F.N[p.2]? =some n
 out:∀n,(n,NameKind.free)∈scope.names->F.env.kindOf n=some .cell∨F.env.kindOf n=some .free
theorem jJ.priv2{W:Addr->Prop}{T':Tok->Option TC}(x:jJ W Z z Z' z')(y:KN ps z'.s.heap h')(t:wK z' n T')(hf:∀p∈ps,W p)(hl:∀p∈ps,h'.get? p≠none):jJ W Z z Z' ⟨{z'.s with heap:=h',toks:=n},T'⟩:=by
 refine ⟨fun b o hb e=>y b o (fun hm=>hb (hf b hm)) (x.kp b o hb e),fun b o e=> ?_,x.new,x.os,Nat.le_trans x.toks t.le,x.gens,x.T.trans t.ext⟩
 show h'.get? b≠none
 by_cases hb:b∈ps
 ·exact hl b hb
 cases e':z'.s.heap.get? b with
 |none=>exact absurd e' (x.live b o e)
 |some o'=>rw[y b o' hb e'];simp
theorem jJ.innerP{P Q:Addr->Prop}(x:jJ (fun b=>P b∨dom Z0 b) Z0 z₀ Z z)(y:jJ (fun b=>Q b∨dom Z b) Z z Z' z')(h:∀b,Q b->P b):jJ (fun b=>P b∨dom Z0 b) Z0 z₀ Z' z':=
 x.trans (y.widen fun b hb=>hb.elim (fun q=>.inl (h b q)) .inr)
def On(F:Fm)(ifs:List PySem.Expr)(W:WT):Prop:=∀loc Z z Φ,F.Rel loc Z z.g->TOk z->W loc Z Φ->TrAt F (forIn ifs true fun c r=>if r=true then do let ok←isTrue c F.env (eval c F.env);pure (ForInStep.yield ok)else pure (ForInStep.yield r)) loc Z z Φ
section
variable {F:Fm} {KS:List NameKind} {GT:List (Str×AV)}
theorem Y3:On F [] fun _ Z Φ=>Φ true Z:=fun loc Z z Φ R tk h Q E q=>wpAny_tests_nil (q true Z true z h R .refl tk rfl)
theorem jaP(hc:SpT F c W):On F [c] W:=fun loc Z z Φ R tk h Q E q=>wpAny_tests_one (hc _ _ _ _ R tk h Q E q)
theorem jcC(R:F.Rel loc Z h)(hN:F.N[i]? =some n)(hk:F.env.kindOf n=some .cell∨F.env.kindOf n=some .free)(hl:loc i=some (.ref c)):F.env.cells.lookup n=some c:=by
 refine jp (fun m hn hm=> ?_) R.ns
 rcases hm i n _ hN hl with ⟨h1,_⟩|⟨_,c',e,h2⟩
 ·rcases hk with h|h<;>(cases h1.symm.trans h)
 ·cases h2;exact e
theorem OK{D:Sig->Prop}{St':Nat->Heap->Prop}{E:Value->Shared->Prop}{RR:Value->Addr->Result->Shared->Prop}
  {Wt:WA} {Wc:WT} {We:WE} (k:FnOk F) (co:KR F scope N' fm) (src:ON F.C F.A tg ps It xs D St')
  (ht:∀Cad,SpA (cFm F scope N' Cad) tg Wt) (hc:∀Cad,On (cFm F scope N' Cad) ifs Wc) (he:∀Cad,Sp (cFm F scope N' Cad) elt We)
  (R0:F.Rel loc Z z.g) (R:F.Rel loc Zw1 zw1.g) (sw1:jJ (F.W Z) Z z Zw1 zw1) (tk:TOk zw1) (st0:St' 0 zw1.s.heap) (hps:∀p∈ps,Zw1 p=none∧z.s.heap.get? p=none)
  (J:Nat->List AV->Sig->Prop) (hxs:xs.length≤1000) (h0:J 0 [] Zw1)
  (turn:∀i ys o,J i ys o->i≤xs.length->D o∧ys.length≤i∧(∀x,xs[i]? =some x->Wt x (wE fm loc) o fun lw1 ow1=>KM (wE fm loc) lw1∧Wc lw1 ow1 fun b ow2=>(b=true->We lw1 ow2 fun y ow3=>∃τ,J (i+1) (ys++[y]) τ∧j3 τ ow3)∧(b=false->∃τ,J (i+1) ys τ∧j3 τ ow2)))
  (fin:∀(ys:List AV) (o:Sig) (d Cad:Addr) (m:Str->Option Value) (z':St),J xs.length ys o->o d=none->F.Rel loc (upd o d (.list ys)) z'.g->jJ (F.W Z) Z z (upd o d (.list ys)) z'->TOk z'->z'.s.heap.Ns Cad m->(upd o d (.list ys)) Cad=none->F.C.K.lookup Cad=none->Cad≠F.env.locals->z.s.heap.get? Cad=none->RR (.ref d) Cad (.ok .next) z'.s):
  wpAny F.M F.A (newList []) (fun acc s3=>wpAny F.M F.A (newFunctionEnv scope F.env.globals (vE F.env scope.names []) [] F.env.qual none .none (some F.env)) (fun cenv s4=>
   codeAny F.M F.A (.compStart (.ListComp elt [⟨tg,iter,ifs,0⟩] scope pos) 0 (.ref It) acc {cenv with scope:=relabel scope F.env}) (RR acc cenv.locals) s4) E s3) E zw1.s:=by
 refine wpAny_newObj_type (wpAny_newFunctionEnv co.nocell (by intro y hy;simp at hy) (fun h₁ hns1 hsb1=> ?_) co.kind) (by have:=jH;show (#[]:Array Value).size≤sizeLine;simp)
 dsimp only at hns1 hsb1⊢
 generalize hH2:zw1.s.heap.push {cls:=.type "list",dict:=none,data:=.seq ([]:List Value).toArray}=H2 at hns1 hsb1⊢
 have hCs:H2.objs.size=zw1.s.heap.objs.size+1:=by rw[←hH2,Heap.size_push]
 generalize hCa:H2.objs.size=Ca at hns1 hsb1 hCs⊢
 generalize hDa:zw1.s.heap.objs.size=Da at hCs⊢
 have oldD:zw1.s.heap.get? Da=none:=by rw[←hDa];exact jB _
 have oldC:zw1.s.heap.get? Ca=none:=by
  cases e:zw1.s.heap.get? Ca with
  |none=>rfl
  |some o=>have:=Heap.lt_size e;simp only[hCs,hDa]at this;exact absurd this (Nat.not_lt.mpr (Nat.le_succ _))
 have hDC:Da≠Ca:=hCs▸(Nat.succ_ne_self Da).symm
 have xw1:Ext zw1.s.heap h₁:=fun b o e=>hsb1.extBut b o (fun q=>by exact kH oldC (q▸e)) (Heap.get?_push_of_some _ (hH2▸Heap.get?_push_of_some _ e))
 have hacc:h₁.get? Da=some {cls:=.type "list",data:=.seq #[] 0}:=hsb1.extBut _ _ hDC (Heap.get?_push_of_some _ (hH2.symm▸hDa.symm▸(Heap.get?_push_size _ rfl)))
 let zw2:St:=⟨{zw1.s with heap:=h₁},zw1.T⟩
 have oldz:∀a,zw1.s.heap.get? a=none->z.s.heap.get? a=none:=fun a ha=>by
  cases e:z.s.heap.get? a with
  |none=>rfl
  |some o=>exact absurd ha (sw1.live _ o e)
 have fD:=R.hr.fresh (a:=Da) oldD
 have fC:=R.hr.fresh (a:=Ca) oldC
 have aliveP:∀p∈ps,∃o,zw1.s.heap.get? p=some o∧¬Frz o:=src.priv 0 _ st0
 have pD:Da∉ps:=fun h=>by refine jp (fun o e _=> ?_) (aliveP _ h);exact kH oldD e
 obtain ⟨oL,hoL⟩:∃o,z.s.heap.get? F.env.locals=some o:=by refine jp ?_ R0.ns;rintro m ⟨o,_,_,ho,_⟩ _;exact ⟨o,ho⟩
 have Lz1:zw1.s.heap.get? F.env.locals≠none:=sw1.live _ _ hoL
 have LD:F.env.locals≠Da:=fun e=>by rw[e]at Lz1;exact Lz1 oldD
 have LC:F.env.locals≠Ca:=fun e=>by rw[e]at Lz1;exact Lz1 oldC
 have Lp:F.env.locals∉ps:=fun h=>by rw[(hps _ h).2]at hoL;cases hoL
 have hK:∀p∈ps,F.C.K.lookup p=none:=fun p hp=>(R0.hr.fresh (hps p hp).2).2
 let F':=cFm F scope N' Ca
 have Rw2:F'.Rel (wE fm loc) Zw1 zw2.g:=by
  refine ⟨(R.ext xw1 (.refl _):F.Rel loc Zw1 zw2.g).hr,⟨_,hns1,fun j x v hj hv=> ?_⟩,fC.1,fC.2⟩
  unfold wE at hv
  cases hf:fm.lookup j with
  |none=>rw[hf]at hv;cases hv
  |some i=>
   rw[hf]at hv
   obtain ⟨n,q1,q2,q3,q4⟩:=co.fmok (j,i) (by
    have:=List.lookup_eq_some_iff.mp hf
    refine ky (fun l1 l2 e _=> ?_) this
    rw[e];simp)
   cases hj.symm.trans q1
   refine jp (fun m hn hm=> ?_) R.ns
   rcases hm i x v q2 hv with ⟨h1,_⟩|⟨_,c,e1,e2⟩
   ·rcases co.out x q3 with h|h<;>(cases h1.symm.trans h)
   ·refine .inr ⟨?_,c,?_,e2⟩
    ·show (relabel scope F.env).names.lookup x=_∨(relabel scope F.env).names.lookup x=_
     simp only[yv,q4]
     simp only[Option.map_some]
     split<;>simp
    ·exact Xk e1 _ _ (.inl q3) (.inr rfl)
 let P:Addr->Prop:=fun b=>b=Ca∨b=Da∨b∈ps
 have hP:∀b,P b->z.s.heap.get? b=none∨b=F.env.locals:=fun b h=>by
  rcases h with rfl|rfl|h
  ·exact .inl (oldz _ oldC)
  ·exact .inl (oldz _ oldD)
  ·exact .inl (hps b h).2
 have loop:codeAny F.M F.A (.compLoop (.ListComp elt [⟨tg,iter,ifs,0⟩] scope pos) 0 (.ref It) (.ref Da) F'.env) (RR (.ref Da) Ca) zw2.s:=by
  let I:Nat->Shared->Prop:=fun n s'=>∃i ys o z',s'=z'.s∧n=xs.length+1-i∧i≤xs.length∧J i ys o∧F'.Rel (wE fm loc) o z'.g∧jJ (fun b=>P b∨dom Zw1 b) Zw1 zw2 o z'∧TOk z'∧St' i z'.s.heap∧(∀p∈ps,o p=none)∧o Da=none∧∃vs n,z'.s.heap.get? Da=some {cls:=.type "list",data:=.seq vs n}∧VRs z'.g ys vs.toList
  refine UE I (fun n s' hI=> ?_) (xs.length+1) ⟨0,[],Zw1,zw2,rfl,rfl,Nat.zero_le _,h0,Rw2,.refl,tk.le (Nat.le_refl _) rfl,src.frame _ _ _ st0 fun p hp o e=>xw1 p o e,fun p hp=>(hps p hp).1,fD.1,#[],0,hacc,rfl⟩
  obtain ⟨i,ys,o,z',rfl,rfl,hle,hJ,R',s',tk',st',ho,hoD,vs,nn,hDo,hvs⟩:=hI
  refine wO (fun hDD hyl hit=> ?_) (turn i ys o hJ hle)
  have hpr:∀p∈ps,o p=none∧F'.C.K.lookup p=none∧∀ob,z'.s.heap.get? p=some ob->¬Frz ob:=fun p hp=>⟨ho p hp,hK p hp,fun ob e=>by
   refine jp (fun o' e' nf=> ?_) (src.priv i _ st' p hp)
   cases e.symm.trans e';exact nf⟩
  have hCps:F'.env.locals∉ps:=(fun h=>by refine jp (fun o e _=> ?_) (aliveP _ h);exact kH oldC e)
  by_cases hlt:i<xs.length
  ·obtain ⟨x,hx⟩:∃x,xs[i]? =some x:=⟨xs[i],List.getElem?_eq_getElem hlt⟩
   refine wpAny_mono (src.item i x o z' hx R'.hr hDD st' tk' ?Q7 _ ?h7) (fun r sw1 hr=> ?fin7) fun _ _ e=>e
   case fin7=>refine jp ?_ hr;rintro v rfl hw;exact hw
   intro v h' kk T' tn pe st'' hv
   have R3':=R'.priv (h':=⟨h',T'⟩) pe tn.ext hpr hCps
   have tk3:TOk ⟨{z'.s with heap:=h',toks:=kk},T'⟩:=tn.tok tk' rfl rfl
   have alive3:∀p∈ps,h'.get? p≠none:=fun p hp=>by refine jp (fun o' e' _=> ?_) (src.priv _ _ st'' p hp);rw[e'];simp
   have s3:=s'.priv2 pe tn (fun p hp=>.inl (.inr (.inr hp))) alive3
   have hD3:h'.get? Da=some {cls:=.type "list",data:=.seq vs nn}:=pe Da _ pD hDo
   have hvs3:=hvs.imm R3'.2
   refine ht Ca x v (wE fm loc) o ⟨_,T'⟩ _ R3'.1 tk3 hv (hit x hx) _ _ fun _ lw4 ow4 _ zw4 pw4 R4 s4 tk4 _=> ?_
   refine kC (fun hsub pw4=> ?_) pw4
   refine hc Ca _ _ _ _ R4 tk4 pw4 _ _ fun b ow5 a z5 pw5 R5 s5 tk5 v5=> ?_
   haveI hb:a=b:=v5
   subst hb
   have sB:=s4.trans s5
   have keepD:∀{o':Sig} {zz:St},jJ (F'.W o) o ⟨{z'.s with heap:=h',toks:=kk},T'⟩ o' zz->zz.s.heap.get? Da=some {cls:=.type "list",data:=.seq vs nn}∧o' Da=none∧VRs zz.g ys vs.toList∧(∀p∈ps,o' p=none)∧St' (i+1) zz.s.heap:=fun{o' zz} q=>by
    refine ⟨q.kp Da _ (fun hw=> ?_) hD3,?_,hvs3.imm (q.imm R3'.1),fun p hp=> ?_,src.frame _ _ _ st'' fun p hp ob e=>q.kp p ob (fun hw=> ?_) e⟩
    ·refine Or.elim hw (fun h=> ?_) fun h=> ?_
     ·exact hDC h
     ·exact h hoD
    ·cases e:o' Da with
     |none=>rfl
     |some ob=>
      have:=q.new Da (by delta dom;rw[e];simp) hoD
      haveI e2:h'.get? Da=none:=this
      cases hD3.symm.trans e2
    ·cases e:o' p with
     |none=>rfl
     |some ob=>exact absurd (q.new p (by delta dom;rw[e];simp) (ho p hp)) (alive3 p hp)
    ·refine Or.elim hw (fun h=> ?_) fun h=> ?_
     ·exact hCps (h▸hp)
     ·exact h (ho p hp)
   cases a with
   |false=>
    simp only[Bool.false_eq_true,if_false]
    refine jp (fun τ hJ' hs=> ?_) (pw5.2 rfl)
    refine x0_5 (fun kD kO kV kP kS=> ?_) (keepD sB)
    refine ⟨xs.length+1-(i+1),jbx (by assumption),i+1,ys,τ,z5,rfl,rfl,hlt,hJ',R5.forget hs hsub,(s3.innerP sB fun b hb=>.inl hb).forget hs.dom,tk5,kS,fun p hp=> ?_,?_,vs,nn,kD,kV⟩
    ·cases e:τ p with
     |none=>rfl
     |some ob=>have:=hs p ob e;rw[kP p hp]at this;cases this
    ·cases e:τ Da with
     |none=>rfl
     |some ob=>have:=hs Da ob e;exact kH kO this
   |true=>
    refine he Ca _ _ _ _ R5 tk5 (pw5.1 rfl) _ _ fun y ow6 cy z6 p6 R6 s6 tk6 v6=> ?_
    have sC:=sB.trans s6
    refine x0_5 (fun kD kO kV kP kS=> ?_) (keepD sC)
    have hl:=kV.length;simp only[Array.length_toList]at hl
    refine wpAny_list_append_plain ⟨nn,kD⟩ (fun hw7 hp7 hs7=> ?_) (by have:=jH;lia)
    refine jp (fun τ hJ' hs=> ?_) p6
    refine kg (fun n7 ew7=> ?_) hp7
    have pe7:KN [Da] z6.s.heap hw7:=fun b ob hb e=>(hs7.2 b (by simpa using hb)).trans e
    have tn7:wK z6 z6.s.toks z6.T:=.same tk6 (Nat.le_refl _)
    have R7:=R6.priv (h':=⟨hw7,z6.T⟩) pe7 (.refl _) (fun p hp=>by
     simp at hp;subst hp
     exact ⟨kO,fD.2,fun ob e=>by
      have e':z6.s.heap.get? p=some ob:=e
      cases kD.symm.trans e';exact jY rfl (by decide) (by decide)⟩) (by simp;exact fun e=>hDC e.symm)
    refine ⟨xs.length+1-(i+1),jbx (by assumption),i+1,ys++[y],τ,⟨{z6.s with heap:=hw7},z6.T⟩,rfl,rfl,hlt,hJ',R7.1.forget hs hsub,((s3.innerP sC fun b hb=>.inl hb).priv2 pe7 tn7 (fun p hp=>by simp at hp;exact .inl (.inr (.inl hp))) (fun p hp=>by simp at hp;subst hp;rw[ew7];simp)).forget hs.dom,tk6.le (Nat.le_refl _) rfl,src.frame _ _ _ kS fun p hp ob e=>pe7 p ob (by simp;rintro rfl;exact pD hp) e,fun p hp=> ?_,?_,vs.push cy,n7,ew7,?_⟩
    ·cases e:τ p with
     |none=>rfl
     |some ob=>have:=hs p ob e;rw[kP p hp]at this;cases this
    ·cases e:τ Da with
     |none=>rfl
     |some ob=>have:=hs Da ob e;exact kH kO this
    ·rw[Array.toList_push]
     exact (kV.imm R7.2).append (.cons (v6.imm R7.2) rfl)
  ·have hi:i=xs.length:=Nat.le_antisymm hle (Nat.not_lt.mp (by assumption))
   subst hi
   refine src.done o z' R'.hr hDD st' tk' _ _ fun h' pe=> ?_
   have tn:wK z' z'.s.toks z'.T:=.same tk' (Nat.le_refl _)
   let z8:St:=⟨{z'.s with heap:=h'},z'.T⟩
   have R8:=R'.priv (h':=⟨h',z'.T⟩) pe (.refl _) hpr hCps
   have y:jJ (fun b=>P b∨dom Zw1 b) Zw1 zw1 o z':=(jJ.ext (W:=fun b=>P b∨dom Zw1 b) (z':=zw2) xw1 rfl (Nat.le_refl _) id (.refl _)).trans s'
   have sOut:jJ (F.W Z) Z z o z':=jJ.inner (P0:=fun b=>b=F.env.locals) sw1 y hP
   have s8:jJ (F.W Z) Z z (upd o Da (.list ys)) z8:=(sOut.priv pe tn fun p hp=>(hps p hp).2).lay (oldz _ oldD)
   have hL:¬(P F.env.locals∨dom Zw1 F.env.locals):=by
    rintro ((h|h|h)|h)
    ·exact LC h
    ·exact LD h
    ·exact Lp h
    ·exact h R.offS
   have im:Imm zw1.g z'.g:=⟨fun a ob e f=>y.kp a ob (by
    rintro ((rfl|rfl|h)|h)
    ·have e':zw1.s.heap.get? a=some ob:=e
     exact kH oldC e'
    ·have e':zw1.s.heap.get? a=some ob:=e
     exact kH oldD e'
    ·refine jp (fun o' e' nf=> ?_) (aliveP _ h)
     cases e.symm.trans e';exact nf f
    ·exact R.hr.notFrz h e f) e,y.T⟩
   have Rz':F.Rel loc o z'.g:=Rel.back R y R'.hr im hL
   have Rz8:=Rz'.priv (h':=⟨h',z'.T⟩) pe (.refl _) (fun p hp=>⟨ho p hp,hK p hp,(hpr p hp).2.2⟩) Lp
   have hD8:h'.get? Da=some {cls:=.type "list",data:=.seq vs nn}:=pe Da _ pD hDo
   have Rf:F.Rel loc (upd o Da (.list ys)) z8.g:=⟨Rz8.1.hr.adopt fD.2 ⟨vs,nn,hD8,hvs.imm Rz8.2⟩,Rz8.1.ns,by rw[ji LD];exact Rz8.1.offS,Rz8.1.offK⟩
   refine jp (fun m hn _=> ?_) R8.1.ns
   exact fin ys o Da Ca m z8 hJ hoD Rf s8 (tk'.le (Nat.le_refl _) rfl) hn (by rw[ji (Ne.symm hDC)];exact R'.offS) fC.2 (Ne.symm LC) (oldz _ oldC)
 exact codeAny_compStart_list loop (src.self 0 _ _ _ (src.frame _ _ _ st0 fun p hp o e=>xw1 p o e) loop)
end
end
section
section
variable {F:Fm} {KS:List NameKind} {GT:List (Str×AV)}
def qC(fm:List (Nat×Nat))(Wi:WI)(Wt:WA)(Wc:WT)(We:WE):WE:=fun loc Z Ψ=>(∀p∈fm,∃c,loc p.2=some (.ref c))∧Wi loc Z fun xs D Zw1=>xs.length≤1000∧∃J:Nat->List AV->Sig->Prop,J 0 [] Zw1∧
 (∀i ys o,J i ys o->i≤xs.length->D o∧ys.length≤i∧(∀x,xs[i]? =some x->Wt x (wE fm loc) o fun lw1 ow1=>KM (wE fm loc) lw1∧Wc lw1 ow1 fun b ow2=>(b=true->We lw1 ow2 fun y ow3=>∃τ,J (i+1) (ys++[y]) τ∧j3 τ ow3)∧(b=false->∃τ,J (i+1) ys τ∧j3 τ ow2)))∧
 ∀ys o,J xs.length ys o->∀a,o a=none->Ψ (.ref a) (upd o a (.list ys))
theorem jcB(R:F.Rel loc Z h)(co:KR F scope N' fm)(hf:∀p∈fm,∃c,loc p.2=some (.ref c)):closureFor scope F.env=pure (vE F.env scope.names []):=
 KB fun n hn=>by
  refine jp (fun p hp hN=> ?_) (co.free n hn)
  refine kg (fun c hc=> ?_) (hf p hp)
  exact ⟨c,jcC R hN (co.out n hn) hc⟩
theorem YH{C:Cx}{loc:Loc}{Z:Sig}{z:St}{Cad:Addr}{m:Str->Option Value}{h':Heap}(R:F.Rel loc Z z.g)(hn:z.s.heap.Ns Cad m)(hs:Heap.SameBut Cad z.s.heap h')(h1:Z Cad=none)(h2:F.C.K.lookup Cad=none)(h3:Cad≠F.env.locals):F.Rel loc Z ⟨h',z.T⟩∧KN [Cad] z.s.heap h':=by
 have pe:KN [Cad] z.s.heap h':=fun b o hb e=>(hs.2 b (by simpa using hb)).trans e
 refine ⟨(R.priv (h':=⟨h',z.T⟩) pe (.refl _) (fun p hp=> ?_) (by simp;exact Ne.symm h3)).1,pe⟩
 simp at hp;subst hp
 refine ⟨h1,h2,fun o e=> ?_⟩
 refine KU (fun o' es ep ho hd _=> ?_) hn
 cases ho.symm.trans e
 exact qx hd
theorem sp_comp{scope:Scope}{N':List Str}{fm:List (Nat×Nat)}{tg elt iter:PySem.Expr}{ifs:List PySem.Expr}{pos:Pos}{Wi:WI}{Wt:WA}{Wc:WT}{We:WE}(k:FnOk F)(co:KR F scope N' fm)(hi:SpI F tg iter Wi)
  (ht:∀Cad,SpA (cFm F scope N' Cad) tg Wt) (hc:∀Cad,On (cFm F scope N' Cad) ifs Wc) (he:∀Cad,Sp (cFm F scope N' Cad) elt We) (hs:∀x,foldedSetIterable iter F.env x=pure x):
  Sp F (.ListComp elt [⟨tg,iter,ifs,0⟩] scope pos) (qC fm Wi Wt Wc We):=fun loc Z z Ψ R tk q__ Q E q=>by
 refine kC (fun hf h=> ?_) q__
 refine wpAny_comprehension_free (use:=none) rfl hs (jcB R co hf) co.kind co.locs (hi _ _ _ _ R tk h _ E fun xs D Zw1 It ps St' zw1 p Rw1 sw1 tkw1 src st0 hps=> ?_)
 obtain ⟨hxs,J,h0,turn,hend⟩:=p
 refine OK (RR:=fun acc C r s'=>compPost F.M F.A E none Q acc C r s') k co src ht hc he R Rw1 sw1 tkw1 st0 hps J hxs h0 turn ?_
 intro ys o d Cad m z' hJ hd R' s' tk' hn h1 h2 h3 h4
 refine ⟨m,hn,fun h' hs'=> ?_⟩
 refine kC (fun Rw2 pe=> ?_) (YH (C:=F.C) R' hn hs' h1 h2 h3)
 exact q (.ref d) _ (.ref d) ⟨{z'.s with heap:=h'},z'.T⟩ (hend ys o hJ d hd) Rw2 (s'.priv pe (.same tk' (Nat.le_refl _)) (by simpa using h4)) (tk'.le (Nat.le_refl _) rfl) qD
theorem jaL{scope:Scope}{N':List Str}{fm:List (Nat×Nat)}{tg elt iter:PySem.Expr}{ifs:List PySem.Expr}{pos npos spos:Pos}{Wi:WI}{Wt:WA}{Wc:WT}{We:WE}(k:FnW F KS GT)(i:Nat){n:Str}(hN:F.N[i]? =some n)(hK:KS[i]? =some NameKind.local)(co:KR F scope N' fm)(hi:SpI F tg iter Wi)
  (ht:∀Cad,SpA (cFm F scope N' Cad) tg Wt) (hc:∀Cad,On (cFm F scope N' Cad) ifs Wc) (he:∀Cad,Sp (cFm F scope N' Cad) elt We) (hs:∀x,foldedSetIterable iter F.env x=pure x)
  (hsw:swapsWith (.ListComp elt [⟨tg,iter,ifs,0⟩] scope pos) (some (.Name n npos)) spos.line F.env=pure true):
  SpS F (.Assign [.Name n npos] (.ListComp elt [⟨tg,iter,ifs,0⟩] scope pos) spos) fun loc Z Φ=>qC fm Wi Wt Wc We loc Z fun v Zw1=>Φ .next (upd loc i v) Zw1:=fun loc Z z Φ R tk q__ Q E q=>by
 refine kC (fun hf h=> ?_) q__
 rw[exec_Assign_Name_used _ _ _ _ hsw]
 refine wpAny_bind (wpAny_standAt (wpAny_bind ?_))
 refine wpAny_bind (wpAny_mono (wpAny_comprehension_free (use:=some (assign (.Name n npos) F.env)) (Q:=fun _ s'=>Q .next s') rfl hs (jcB R co hf) co.kind co.locs (hi _ _ _ _ R tk h _ E fun xs D Zw1 It ps St' zw1 p Rw1 sw1 tkw1 src st0 hps=> ?_)) (fun _ s' hq=>wpAny_pure (wpAny_pure hq)) fun _ _ e=>e)
 obtain ⟨hxs,J,h0,turn,hend⟩:=p
 refine OK (RR:=fun acc C r s'=>compPost F.M F.A E (some (assign (.Name n npos) F.env)) (fun _ s'=>Q .next s') acc C r s') k.toFnOk co src ht hc he R Rw1 sw1 tkw1 st0 hps J hxs h0 turn ?_
 intro ys o d Cad m z' hJ hd R' s' tk' hn h1 h2 h3 h4
 refine Yc k i hN hK (.ref d) (.ref d) loc _ z' (fun l τ=>l=upd loc i (.ref d)∧τ=upd o d (.list ys)) R' tk' qD ⟨rfl,rfl⟩ _ E fun _ lw1 Zw2 _ zw2 pw2 Rw2 sw2 tkw2 _=> ?_
 obtain ⟨rfl,rfl⟩:=pw2
 have hnw2:zw2.s.heap.Ns Cad m:=hn.at' fun ob e=>sw2.kp _ _ (by
  rintro (h|h)
  ·exact h3 h
  ·exact h h1) e
 refine ⟨m,hnw2,fun h' hs'=> ?_⟩
 refine kC (fun Rw3 pe=> ?_) (YH (C:=F.C) Rw2 hnw2 hs' h1 h2 h3)
 exact q .next _ _ .next ⟨{zw2.s with heap:=h'},zw2.T⟩ (hend ys o hJ d hd) Rw3 ((s'.trans sw2).priv pe (.same tkw2 (Nat.le_refl _)) (by simpa using h4)) (tkw2.le (Nat.le_refl _) rfl) rfl
end
end
noncomputable def KK(xs:List AV):Loc:=fun i=>xs[i]?
noncomputable def vF:List Nat->List Addr->Loc->Loc
 |i::is,c::cs,l=>vF is cs (upd l i (.ref c))
 |_,_,l=>l
noncomputable def qO(xs:List AV):List Nat->List Addr->Sig->Sig
 |i::is,c::cs,Z=>qO xs is cs (upd Z c (.cell xs[i]?))
 |_,_,Z=>Z
theorem wD:∀(l:List (Str×NameKind)) (k:Nat) (acc:List (Str×Addr)),((n,NameKind.cell)∈l∨(acc.lookup n).isSome=true)->((cellsFrom k l acc).lookup n).isSome=true:=by
 intro v__
 induction v__ with
 |nil=>
  intro k acc h
  rcases h with h|h
  ·cases h
  ·exact h
 |cons p l ih=>
  obtain ⟨m,kd⟩:=p
  intro k acc h
  unfold cellsFrom
  by_cases hk:(kd==NameKind.cell)=true
  ·rw[if_pos hk]
   refine ih _ _ ?_
   rcases h with h|h
   ·rcases List.mem_cons.mp h with h|h
    ·right
     have:n=m:=congrArg Prod.fst h
     subst this
     simp[List.lookup_cons]
    ·exact .inl h
   ·right
    rw[List.lookup_cons]
    split<;>simp_all
  ·rw[if_neg hk]
   refine ih _ _ ?_
   rcases h with h|h
   ·rcases List.mem_cons.mp h with h|h
    ·have:NameKind.cell=kd:=congrArg Prod.snd h
     exact absurd (by simp[←this]) hk
    ·exact .inl h
   ·exact .inr h
theorem Yu{P:Prop}[Decidable P]{α β:Type}[DecidableEq α]{x n:α}{v:β}{m:α->Option β}(h:x≠n):(if P then fun y=>if y=n then some v else m y else m) x=m x∧(if P then m else fun y=>if y=n then some v else m y) x=m x:=by
 by_cases e:P
 ·rw[if_pos e,if_pos e];exact ⟨if_neg h,rfl⟩
 ·rw[if_neg e,if_neg e];exact ⟨rfl,if_neg h⟩
theorem VC{kd:Str->Option NameKind}(ns:List Str):∀(vs:List Value) (m:Str->Option Value),x∉ns->bindL kd (ns.zip vs) m x=m x:=by
 induction ns with
 |nil=>exact fun _ _ _=>rfl
 |cons n ns ih=>
  intro vs m h
  cases vs with
  |nil=>rfl
  |cons v vs=>exact (ih vs _ fun q=>h (List.mem_cons_of_mem _ q)).trans (Yu fun e:x=n=>h (e▸List.mem_cons_self)).1
theorem jcH{kd:Str->Option NameKind}(hk:kd x=some .local)(ns:List Str):∀(vs:List Value) (m:Str->Option Value) (i:Nat),ns.Nodup->ns[i]? =some x->vs[i]? =some v->bindL kd (ns.zip vs) m x=some v:=by
 induction ns with
 |nil=>exact fun _ _ _ _ h=>nomatch h
 |cons n ns ih=>
  intro vs m i hn h1 h2
  cases vs with
  |nil=>exact nomatch h2
  |cons u vs=>
   have hn:=List.nodup_cons.mp hn
   cases i with
   |zero=>cases h1;cases h2;exact (VC ns vs _ hn.1).trans (by rw[if_pos hk];exact if_pos rfl)
   |succ i=>exact ih vs _ i hn.2 h1 h2
theorem zv{kd:Str->Option NameKind}(ns:List Str):∀(vs:List Value) (m:Str->Option Value),x∉ns->bindC kd (ns.zip vs) m x=m x:=by
 induction ns with
 |nil=>exact fun _ _ _=>rfl
 |cons n ns ih=>
  intro vs m h
  cases vs with
  |nil=>rfl
  |cons v vs=>exact (ih vs _ fun q=>h (List.mem_cons_of_mem _ q)).trans (Yu fun e:x=n=>h (e▸List.mem_cons_self)).2
theorem jcI{kd:Str->Option NameKind}(hk:kd x=some .cell)(ns:List Str):∀(vs:List Value) (m:Str->Option Value) (i:Nat),ns.Nodup->ns[i]? =some x->vs[i]? =some v->bindC kd (ns.zip vs) m x=some v:=by
 induction ns with
 |nil=>exact fun _ _ _ _ h=>nomatch h
 |cons n ns ih=>
  intro vs m i hn h1 h2
  cases vs with
  |nil=>exact nomatch h2
  |cons u vs=>
   have hn:=List.nodup_cons.mp hn
   cases i with
   |zero=>cases h1;cases h2;exact (zv ns vs _ hn.1).trans (by rw[if_neg (by rw[hk];decide)];exact if_pos rfl)
   |succ i=>exact ih vs _ i hn.2 h1 h2
structure DefOk(C:Cx)(fa:Addr)(fd:FuncData)(body:List Stmt)(N:List Str)(KS:List NameKind)(CI:List Nat)(np:Nat):Prop where
 o:∃o,C.K.lookup fa=some o∧o.data=.func fd
 bd:fd.body=.stmts body
 code:codeIn C.K fd.code fd.qualname=true
 clo:fd.closure=[]
 names:∀(i:Nat) (n:Str) (k:NameKind),N[i]? =some n->KS[i]? =some k->fd.scope.names.lookup n=some k
 nd:N.Nodup
 len:N.length=KS.length
 ci:∀i∈CI,KS[i]? =some NameKind.cell
 cnd:CI.Nodup
 mem:∀i∈CI,∃n,N[i]? =some n∧(n,NameKind.cell)∈fd.scope.names
 par:∀i<np,KS[i]? =some NameKind.local∨i∈CI
 np:np≤N.length
 hco:fd.scope.isCoroutine=false
 hgen:fd.scope.isGenerator=false
 hk:fd.scope.kind=.function
theorem KC{is:List Nat}:∀{cs:List Addr} {l:Loc} {i:Nat},i∉is->vF is cs l i=l i:=by
 induction is with
 |nil=>exact fun _=>rfl
 |cons j is ih=>
  intro cs l i h
  cases cs with
  |nil=>rfl
  |cons c cs=>exact (ih fun q=>h (List.mem_cons_of_mem _ q)).trans (ji fun e:i=j=>h (e▸List.mem_cons_self))
theorem VA{f:Nat->Addr}{is:List Nat}:∀{l:Loc} {i:Nat},is.Nodup->i∈is->vF is (is.map f) l i=some (.ref (f i)):=by
 induction is with
 |nil=>exact fun _ h=>nomatch h
 |cons j is ih=>
  intro l i hn h
  have hn:=List.nodup_cons.mp hn
  rcases List.mem_cons.mp h with rfl|h
  ·exact (KC hn.1).trans jc
  ·exact ih hn.2 h
theorem UH{f:Nat->Addr}{is:List Nat}:∀{Z:Sig},qa C Z g->(∀i∈is,C.K.lookup (f i)=none)->(∀i∈is,OR C.prog C.w g (.cell xs[i]?) (f i))->qa C (qO xs is (is.map f) Z) g:=by
 induction is with
 |nil=>exact fun R _ _=>R
 |cons i is ih=>exact fun R h1 h2=>ih (R.adopt (h1 i List.mem_cons_self) (h2 i List.mem_cons_self)) (fun j hj=>h1 j (List.mem_cons_of_mem _ hj)) fun j hj=>h2 j (List.mem_cons_of_mem _ hj)
theorem zu{f:Nat->Addr}{is:List Nat}:∀{Z:Sig},dom (qO xs is (is.map f) Z) a->dom Z a∨∃i∈is,a=f i:=by
 induction is with
 |nil=>exact fun h=>.inl h
 |cons i is ih=>
  intro Z h
  rcases ih h with h|⟨j,hj,e⟩
  ·by_cases ha:a=f i
   ·exact .inr ⟨i,List.mem_cons_self,ha⟩
   ·exact .inl (by delta dom at h⊢;rwa [ji ha]at h)
  ·exact .inr ⟨j,List.mem_cons_of_mem _ hj,e⟩
theorem ZJ(D:DefOk C fa fd body N KS CI np)(hnp:ys.length=np)
  (hb:∀(z:St) (vs:List Value),qa C Z z.g->TOk z->VRs z.g xs vs->∃us,VRs z.g ys us∧BindsTo z.s fd ⟨vs,[]⟩ ((N.take np).zip us))
  (body:∀(F:Fm) (cs:List Addr) (z:St),F.C=C->F.lv=lv->F.N=N->(∀(i:Nat) (n:Str) (k:NameKind),N[i]? =some n->KS[i]? =some k->F.env.kindOf n=some k)->F.env.scope=fd.scope->F.env.globals=fd.globals->F.env.builtins=fd.builtins->F.env.code=fd.code->cs.length=CI.length->cs.Nodup->(∀c∈cs,Z c=none)->
   F.Rel (vF CI cs (KK ys)) (qO ys CI cs Z) z.g->TOk z->FlT F (execs body F.env) (vF CI cs (KK ys)) (qO ys CI cs Z) z fun fl _ o=>match fl with| .ret v=>Ψ v o| .next=>Ψ .none o|_=>False):
  jC C (lv+1) (.ref fa) xs Z Ψ:=by
 intro A z fv vs R hh hd hu HR tk hf hv q
 subst hf
 refine jp (fun us hus hbind=> ?_) (hb z vs HR tk hv)
 refine jp (fun o ho hdata=> ?_) D.o
 let L:=z.s.heap.objs.size
 let cl:=cellsFrom (L+1) fd.scope.names []
 refine codeAny_call_function (by have:(500:Nat)<recursionLimit:=(by decide);lia) (HR.top _ _ ho) hdata D.hco D.hgen D.bd (codeRec_of HR.top D.code) (hbind _ _ _ _ ?_)
 rw[D.clo]
 have hkind:∀x∈(N.take np).zip us,fd.scope.names.lookup x.1=some .local∨(fd.scope.names.lookup x.1=some .cell∧(cl.lookup x.1).isSome=true):=fun x hx=>by
  have h1:=(List.of_mem_zip (a:=x.1) (b:=x.2) hx).1
  refine kg (fun i hi=> ?_) (List.getElem?_of_mem h1)
  have hlt:i<np:=by
   have:=(List.getElem?_eq_some_iff.mp hi).1
   rw[List.length_take]at this;lia
  have hN:N[i]? =some x.1:=by rw[List.getElem?_take_of_lt hlt]at hi;exact hi
  rcases D.par i hlt with h|h
  ·exact .inl (D.names i _ _ hN h)
  ·refine jp (fun n h2 h3=> ?_) (D.mem i h)
   cases hN.symm.trans h2
   exact .inr ⟨D.names i _ _ hN (D.ci i h),wD _ _ _ (.inl h3)⟩
 refine wpAny_with_toks (Nat.le_refl z.s.toks) (wpAny_newFunctionEnv_cells D.hk hkind fun env he s' x htk=> ?_)
 subst he
 refine ⟨(C.nol _ HR.top).keeps x.toInCall.keep,codeAny_func ?_⟩
 obtain ⟨⟨⟨h',tk',rfl⟩,hns,hkeep,_⟩,hcell,hapart,habove⟩:=x
 let env:=callEnvC fd L fa
 let F:Fm:={C:=C,A:=A.deeper env,env:=env,N:=N,lv:=lv,hh:=hh,hd:=by show A.depth+1+lv≤500;lia,hu:=by show A.units+3+10*lv≤1000;lia}
 let zw1:St:=⟨{z.s with heap:=h',toks:=tk'},z.T⟩
 let ca:Nat->Addr:=fun i=>((N[i]?).bind fun n=>cl.lookup n).getD 0
 have hca:∀i∈CI,∃n,N[i]? =some n∧cl.lookup n=some (ca i):=fun i hi=>by
  refine jp (fun n h1 h2=> ?_) (D.mem i hi)
  refine kg (fun c hc=> ?_) (Option.isSome_iff_exists.mp (wD (n:=n) fd.scope.names (L+1) [] (.inl h2)))
  refine ⟨n,h1,?_⟩
  have:ca i=c:=by show ((N[i]?).bind _).getD 0=c;rw[h1,Option.bind_some,hc];rfl
  rw[this];exact hc
 have hcF:∀i∈CI,z.s.heap.get? (ca i)=none:=fun i hi=>by
  refine jp (fun n h1 h2=> ?_) (hca i hi)
  haveI hlt:L<ca i:=habove n _ (mem_of_lookup h2)
  cases e:z.s.heap.get? (ca i)with
  |none=>rfl
  |some ob=>exact absurd (Heap.lt_size e) (Nat.not_lt.mpr (Nat.le_of_lt hlt))
 haveI hLn:z.s.heap.get? L=none:=jB _
 have hcnd:(CI.map ca).Nodup:=by
  rw[List.nodup_iff_pairwise_ne,List.pairwise_map]
  refine List.Pairwise.imp_of_mem ?_ (List.nodup_iff_pairwise_ne.mp D.cnd)
  intro i j hi hj hij e
  refine jp (fun n h1 h2=> ?_) (hca i hi)
  refine jp (fun m h3 h4=> ?_) (hca j hj)
  rw[←e]at h4
  have:=name_of_addr hapart (mem_of_lookup h2) (mem_of_lookup h4)
  subst this
  exact hij ((List.getElem?_inj (List.getElem?_eq_some_iff.mp h1).1 D.nd).mp (h1.trans h3.symm))
 haveI hnd:(N.take np).Nodup:=D.nd.sublist (List.take_sublist _ _)
 haveI hNt:∀i n,i<np->N[i]? =some n->(N.take np)[i]? =some n:=fun i n hi h=>by rw[List.getElem?_take_of_lt hi];exact h
 have hout:∀i n,¬i<np->N[i]? =some n->n∉N.take np:=fun i n hi h hm=>by
  refine kg (fun j hj=> ?_) (List.getElem?_of_mem hm)
  have hjlt:j<np:=by
   have:=(List.getElem?_eq_some_iff.mp hj).1
   rw[List.length_take]at this;lia
  rw[List.getElem?_take_of_lt hjlt]at hj
  have:=(List.getElem?_inj (List.getElem?_eq_some_iff.mp h).1 D.nd).mp (h.trans hj.symm)
  lia
 have hus1:=hus.imm (Ext.imm hkeep (.refl _):Imm z.g zw1.g)
 have hOR:∀i∈CI,OR C.prog C.w zw1.g (.cell ys[i]?) (ca i):=fun i hi=>by
  refine jp (fun n h1 h2=> ?_) (hca i hi)
  refine jp (fun oc hoc hdc=> ?_) (hcell n _ h2)
  refine ⟨oc,_,hoc,hdc,?_⟩
  have hkd:env.kindOf n=some .cell:=D.names i n _ h1 (D.ci i hi)
  by_cases hlt:i<np
  ·obtain ⟨y,hy⟩:∃y,ys[i]? =some y:=⟨ys[i]'(by lia),List.getElem?_eq_getElem _⟩
   refine jp (fun u hu hv=> ?_) (hus1.at' hy)
   rw[hy]
   exact ⟨u,jcI (kd:=env.kindOf) hkd (N.take np) us _ i hnd (hNt i n hlt h1) hu,hv⟩
  ·have:ys[i]? =none:=List.getElem?_eq_none (by lia)
   rw[this]
   exact zv (kd:=env.kindOf) _ _ _ (hout i n hlt h1)
 have hfresh:∀c∈CI.map ca,Z c=none:=fun c hc=>by
  refine jp ?_ (List.mem_map.mp hc);rintro i hi rfl
  exact (HR.fresh (hcF i hi)).1
 have Rw1:F.Rel (vF CI (CI.map ca) (KK ys)) (qO ys CI (CI.map ca) Z) zw1.g:=by
  refine ⟨(UH (HR.ext hkeep (.refl _)) (fun i hi=>(HR.fresh (hcF i hi)).2) hOR),⟨_,hns,fun i x v hN hl=> ?_⟩,?_,(HR.fresh hLn).2⟩
  ·have hN':N[i]? =some x:=hN
   by_cases hi:i∈CI
   ·rw[VA D.cnd hi]at hl
    cases hl
    refine jp (fun n h1 h2=> ?_) (hca i hi)
    cases hN'.symm.trans h1
    exact .inr ⟨.inl (D.names i x _ hN' (D.ci i hi)),_,h2,rfl⟩
   ·rw[KC hi]at hl
    have hl':ys[i]? =some v:=hl
    have hlt:i<np:=by
     have:=(List.getElem?_eq_some_iff.mp hl').1;lia
    refine jp (fun u hu hv=> ?_) (hus1.at' hl')
    have hkd:env.kindOf x=some .local:=by
     rcases D.par i hlt with h|h
     ·exact D.names i x _ hN' h
     ·exact absurd h hi
    exact .inl ⟨hkd,u,jcH hkd (N.take np) us _ i hnd (hNt i x hlt hN') hu,hv⟩
  ·cases e:qO ys CI (CI.map ca) Z env.locals with
   |none=>rfl
   |some ob=>
    rcases zu (a:=env.locals) (by delta dom;rw[e];simp)with h|⟨i,hi,h⟩
    ·exact absurd (HR.fresh hLn).1 h
    ·refine jp (fun n h1 h2=> ?_) (hca i hi)
     exact absurd h (Nat.ne_of_lt (habove n _ (mem_of_lookup h2)))
 have sw1:jJ (fun b=>False∨dom Z b) Z z (qO ys CI (CI.map ca) Z) zw1:=⟨fun b ob _ e=>hkeep b ob e,fun b ob e=>by
   rw[hkeep b ob e];simp,fun a hda hn=>by
   rcases zu hda with h|⟨i,hi,rfl⟩
   ·exact absurd hn h
   ·exact hcF i hi,rfl,htk,_root_.id,.refl _⟩
 refine (body F (CI.map ca) zw1 rfl rfl rfl (fun i n k h1 h2=>D.names i n k h1 h2) rfl rfl rfl rfl (by simp) hcnd hfresh Rw1 (tk.le htk rfl)) _ _ fun fl l' Z' f z' p R' s' tk'' v'=> ?_
 have sAll:jJ (dom Z) Z z Z' z':=(jJ.inner (P0:=fun _=>False) (P:=fun b=>b=L) sw1 s' (fun b hb=>.inl (hb▸hLn))).widen fun b hb=>hb.elim False.elim _root_.id
 cases fl with
 |next=>cases v';exact q .none Z' .none z' p R'.hr sAll tk'' vT
 |brk=>exact p.elim
 |cont=>exact p.elim
 |ret v=>refine jp ?_ v';rintro cv rfl hv;exact q v Z' cv z' p R'.hr sAll tk'' hv
noncomputable def jD(i:Nat):Stmt:=match PySem.Challenge.pw_kl0399_01.main.body[i]? with|some s=>s|none=>.Pass ⟨0,0,0,0⟩
noncomputable def jL(i j:Nat):Stmt:=match jD i with| .ClassDef _ _ _ b _ _ _ _ _ _ _=>(match b[j]? with|some s=>s|none=>.Pass ⟨0,0,0,0⟩)|s=>s
noncomputable def jR:Stmt->List Stmt| .FunctionDef _ _ b _ _ _ _ _ _ _=>b|_=>[]
noncomputable def qw:Stmt->Scope| .FunctionDef _ _ _ _ _ _ s _ _ _=>s|_=>default
noncomputable def k6:Stmt->Arguments| .FunctionDef _ a _ _ _ _ _ _ _ _=>a|_=>default
def jcT(C:Cx)(fa:Addr)(st:Stmt)(dV:Value):Prop:=
 ∃o fd,C.K.lookup fa=some o∧o.data=.func fd∧fd.body=.stmts (jR st)∧fd.scope=qw st∧fd.params=k6 st∧fd.defaults=dV∧fd.kwdefaults=.none∧fd.globals=3∧fd.builtins=0∧fd.closure=[]∧codeIn C.K fd.code fd.qualname=true∧fd.code=.ref (fa-1)
noncomputable def GTA:List (Str×AV):=[(Str.ofString "len",.bi .len),(Str.ofString "min",.bi .min),(Str.ofString "sum",.bi .sum),(Str.ofString "sorted",.bi .sorted),(Str.ofString "range",.ty "range"),(Str.ofString "enumerate",.ty "enumerate"),(Str.ofString "reversed",.ty "reversed"),(Str.ofString "set",.ty "set"),(Str.ofString "list",.ty "list"),(Str.ofString "map",.ty "map"),
 (Str.ofString "Match",.ref 163),(Str.ofString "_calculate_ratio",.ref 173),(Str.ofString "SequenceMatcher",.ref 270),(Str.ofString "nlargest",.ref 280),(Str.ofString "get_close_matches",.ref 286),(Str.ofString "heappop",.ref 293),(Str.ofString "heapreplace",.ref 300),(Str.ofString "heapreplace_heapq2",.ref 300),(Str.ofString "heapify",.ref 307),(Str.ofString "heapify_heapq2",.ref 307),(Str.ofString "_siftdown",.ref 314),(Str.ofString "_siftup",.ref 321),
 (Str.ofString "_law_word",.ref 326),(Str.ofString "_law_kept",.ref 333),(Str.ofString "_law_points",.ref 338),(Str.ofString "_law_told",.ref 345),(Str.ofString "tuple",.ty "tuple")]
noncomputable def k8(gi:List Nat):List (Str×AV):=gi.filterMap (GTA[·]?)
noncomputable def jV(st:Stmt)(N:List Str)(KS:List NameKind)(CI:List Nat)(gi:List Nat)(np:Nat):Bool:=
 (N.zip KS).all (fun p=>(qw st).names.lookup p.1==some p.2)&&decide N.Nodup&&(N.length==KS.length)&&CI.all (fun i=>KS[i]? ==some NameKind.cell&&((N[i]?).any fun n=>decide ((n,NameKind.cell)∈(qw st).names)))&&decide CI.Nodup
 &&(List.range np).all (fun i=>KS[i]? ==some NameKind.local||CI.contains i)&&decide (np≤N.length)&& !(qw st).isCoroutine&& !(qw st).isGenerator&&(qw st).kind==.function
 &&N.all (fun n=> !(n==("__debug__" :Str))&& !(n==("__classdict__" :Str)))&&gi.all (fun i=>(GTA[i]?).all fun p=>(qw st).names.lookup p.1==some NameKind.globalImplicit&& !(p.1==("__debug__" :Str)))
theorem Xs{α β:Type}{l:List α}{m:List β}{i:Nat}{a:α}{b:β}(h1:l[i]? =some a)(h2:m[i]? =some b):(a,b)∈l.zip m:=
 List.mem_of_getElem? (List.getElem?_zip_eq_some.mpr ⟨h1,h2⟩)
theorem Ud{α:Type}{p:α->Bool}:∀{o:Option α},o.any p=true->∃a,o=some a∧p a=true
 |some a,h=>⟨a,rfl,h⟩
theorem jcv{C:Cx}{fa:Addr}{st:Stmt}{dV:Value}{N:List Str}{KS:List NameKind}{CI gi:List Nat}{np:Nat}(h:jcT C fa st dV)(c:jV st N KS CI gi np=true):
  ∃fd,DefOk C fa fd (jR st) N KS CI np∧fd.scope=qw st∧fd.params=k6 st∧fd.defaults=dV∧fd.kwdefaults=.none∧fd.globals=3∧fd.builtins=0∧fd.code=.ref (fa-1):=by
 refine x2_12 (fun o fd h1 h2 h3 h4 h5 h6 h7 h8 h9 h10 h11 h12=> ?_) h
 delta jV at c
 simp only[Bool.and_eq_true,decide_eq_true_eq,beq_iff_eq,Bool.not_eq_true']at c
 refine kC ?_ c;rintro ⟨⟨⟨⟨⟨⟨⟨⟨⟨⟨c1,c2⟩,c3⟩,c4⟩,c5⟩,c6⟩,c7⟩,c8⟩,c9⟩,c10⟩,c11⟩ c12
 have c4':∀i∈CI,KS[i]? =some NameKind.cell∧∃n,N[i]? =some n∧(n,NameKind.cell)∈(qw st).names:=fun i hi=>by
  have:=List.all_eq_true.mp c4 i hi
  simp only[Bool.and_eq_true,beq_iff_eq]at this
  refine ⟨this.1,?_⟩
  obtain ⟨n,hn,h⟩:=Ud this.2
  exact ⟨n,hn,of_decide_eq_true h⟩
 refine ⟨fd,⟨⟨o,h1,h2⟩,h3,h11,h10,fun i n k hn hk=> ?_,c2,c3,fun i hi=>(c4' i hi).1,c5,fun i hi=> ?_,fun i hi=> ?_,c7,by rw[h4];exact c8,by rw[h4];exact c9,by rw[h4];exact c10⟩,h4,h5,h6,h7,h8,h9,h12⟩
 ·have:=List.all_eq_true.mp c1 _ (Xs hn hk)
  rw[h4];exact beq_iff_eq.mp this
 ·refine jp (fun n q1 q2=> ?_) ((c4' i hi).2)
  exact ⟨n,q1,by rw[h4];exact q2⟩
 ·have:=List.all_eq_true.mp c6 i (List.mem_range.mpr hi)
  rw[Bool.or_eq_true,beq_iff_eq,List.contains_iff_mem]at this
  exact this
section
def jd(i:Nat):WE:=fun loc Z Ψ=>∃x,loc i=some x∧Ψ x Z
def k9(i:Nat):WE:=fun loc Z Ψ=>∃c x,loc i=some (.ref c)∧Z c=some (.cell (some x))∧Ψ x Z
def jm(x:AV):WE:=fun _ Z Ψ=>Ψ x Z
def Yi:WE:=fun _ _ _=>False
def jQ(op:Operator)(Wl Wr:WE):WE:=fun loc Z Ψ=>Wl loc Z fun x Zw1=>Wr loc Zw1 fun y Zw2=>wY op x y Zw2 Ψ
def qCmp(op:CmpOp)(Wl Wr:WE):WE:=fun loc Z Ψ=>Wl loc Z fun x Zw1=>Wr loc Zw1 fun y Zw2=>vG op x y Zw2 Ψ
def VY(W:WE):WE:=fun loc Z Ψ=>W loc Z fun x Zw1=>wNeg x Zw1 Ψ
def qIfe(Wt:WT)(Wb Wo:WE):WE:=fun loc Z Ψ=>Wt loc Z fun c Zw1=>(c=true->Wb loc Zw1 Ψ)∧(c=false->Wo loc Zw1 Ψ)
def jq:WL:=fun _ Z Φ=>Φ [] Z
def jg(We:WE)(Wr:WL):WL:=fun loc Z Φ=>We loc Z fun x Zw1=>Wr loc Zw1 fun xs Zw2=>Φ (x::xs) Zw2
def qo(W:WL):WE:=fun loc Z Ψ=>W loc Z fun xs Zw1=>xs.length≤1000∧Ψ (.tup xs) Zw1
def vV(W:WL):WE:=fun loc Z Ψ=>W loc Z fun xs Zw1=>xs.length≤1000∧∀a,Zw1 a=none->Ψ (.ref a) (upd Zw1 a (.list xs))
def U3(o:AO):WE:=fun loc Z Ψ=>∀a,Z a=none->Ψ (.ref a) (upd Z a o)
def kl(Wv Wi:WE):WE:=fun loc Z Ψ=>Wv loc Z fun x Zw1=>Wi loc Zw1 fun y Zw2=>yf x y Zw2 Ψ
def y6(C:Cx)(Wv Wl Wh:WE):WE:=fun loc Z Ψ=>Wv loc Z fun x Zw1=>Wl loc Zw1 fun l Zw2=>Wh loc Zw2 fun h Zw3=>zN l fun lo=>zN h fun hi=>zM C x lo hi Zw3 Ψ
def qQ(i:Nat)(Wo:WE):WE:=fun loc Z Ψ=>Wo loc Z fun x Zw1=>∃ad d f v,x=.ref ad∧Zw1 ad=some (.inst SMA d)∧Zw1 d=some (.ns f)∧f i=some v∧Ψ v Zw1
def jbj(id:Bn)(Wo:WE):WE:=fun loc Z Ψ=>Wo loc Z fun x Zw1=>∃d,x=.ref d∧jcX id d Zw1∧Ψ (.bm id (.ref d)) Zw1
def jy(C:Cx)(lv:Nat)(Wf:WE)(Wa:WL):WE:=fun loc Z Ψ=>Wf loc Z fun f Zw1=>qA f∧Wa loc Zw1 fun xs Zw2=>zP C lv f xs Zw2 Ψ
def kh(C:Cx)(id:Bn)(Wo:WE)(Wa:WL):WE:=fun loc Z Ψ=>Wo loc Z fun x Zw1=>MOk id x Zw1∧Wa loc Zw1 fun xs Zw2=>wB C id (x::xs) Zw2 Ψ
def kG(C:Cx)(lv:Nat)(fa:Addr)(Wo:WE)(Wa:WL):WE:=fun loc Z Ψ=>Wo loc Z fun x Zw1=>∃ad d f,x=.ref ad∧Zw1 ad=some (.inst SMA d)∧Zw1 d=some (.ns f)∧Wa loc Zw1 fun xs Zw2=>jC C lv (.ref fa) (x::xs) Zw2 Ψ
def VL(W:WT):WT:=fun loc Z Φ=>W loc Z fun b Zw1=>Φ (!b) Zw1
def j4(op:CmpOp)(Wl Wr:WE):WT:=fun loc Z Φ=>Wl loc Z fun x Zw1=>Wr loc Zw1 fun y Zw2=>vG op x y Zw2 fun c Zw3=>∃b,c=.bool b∧Φ b Zw3
def jav(ow1 ow2:CmpOp)(Wl Wm Wr:WE):WT:=fun loc Z Φ=>Wl loc Z fun x Zw1=>Wm loc Zw1 fun y Zw2=>vG ow1 x y Zw2 fun c Zw3=>∃b,c=.bool b∧(b=false->Φ false Zw3)∧(b=true->Wr loc Zw3 fun u Zw4=>vG ow2 y u Zw4 fun c Z5=>∃b,c=.bool b∧Φ b Z5)
def wo(W:WE):WT:=fun loc Z Φ=>W loc Z fun x Zw1=>OQ x Zw1 fun b=>Φ b Zw1
def k5:WT:=fun _ Z Φ=>Φ true Z
def qh(Wx Wr:WT):WT:=fun loc Z Φ=>Wx loc Z fun b Zw1=>(b=false->Φ false Zw1)∧(b=true->Wr loc Zw1 Φ)
def jw(i:Nat):WA:=fun v loc Z Φ=>Φ (upd loc i v) Z
def UL(i:Nat):WA:=fun v loc Z Φ=>∃c v0,loc i=some (.ref c)∧Z c=some (.cell v0)∧Φ loc (upd Z c (.cell (some v)))
def wk(i:Nat)(Wo:WE):WA:=fun v loc Z Φ=>Wo loc Z fun x Zw1=>∃ad d f,x=.ref ad∧Zw1 ad=some (.inst SMA d)∧Zw1 d=some (.ns f)∧Φ loc (upd Zw1 d (.ns (upd f i v)))
def KL(Wo Wk:WE):WA:=fun v loc Z Φ=>Wo loc Z fun x Zw1=>Wk loc Zw1 fun y Zw2=>wn x y v Zw2 (Φ loc)
noncomputable def qY:WAL:=fun xs loc Z Φ=>Φ loc Z
noncomputable def jK(Wt:WA)(Wr:WAL):WAL:=fun xs loc Z Φ=>∃x r,xs=x::r∧Wt x loc Z fun lw1 Zw1=>Wr r lw1 Zw1 Φ
def yQ(n:Nat)(W:WAL):WA:=fun v loc Z Φ=>∃xs,v=.tup xs∧xs.length=n∧W xs loc Z Φ
def vO(Wt Wr:WA):WA:=fun v loc Z Φ=>Wt v loc Z fun lw1 Zw1=>Wr v lw1 Zw1 Φ
def jv:WS:=fun loc Z Φ=>Φ .next loc Z
def q9(Wr:WS)(Φ:Fl->Loc->Sig->Prop)(fl:Fl)(l:Loc)(Z:Sig):Prop:=match fl with| .next=>Wr l Z Φ|f=>Φ f l Z
def jj(Ws Wr:WS):WS:=fun loc Z Φ=>Ws loc Z (q9 Wr Φ)
def vb:WS:=fun _ _ _=>False
def kU(f:Fl):WS:=fun loc Z Φ=>Φ f loc Z
def vc(W:WE):WS:=fun loc Z Φ=>W loc Z fun v Zw1=>Φ (.ret v) loc Zw1
def kz(W:WE):WS:=fun loc Z Φ=>W loc Z fun _ Zw1=>Φ .next loc Zw1
def sIf(Wt:WT)(Wb Wo:WS):WS:=fun loc Z Φ=>Wt loc Z fun c Zw1=>(c=true->Wb loc Zw1 Φ)∧(c=false->Wo loc Zw1 Φ)
def jl(We:WE)(Wt:WA):WS:=fun loc Z Φ=>We loc Z fun v Zw1=>Wt v loc Zw1 (Φ .next)
def wu(is:List Nat)(n:Nat)(We:WE):WS:=fun loc Z Φ=>We loc Z fun v Zw1=>∃xs,v=.tup xs∧xs.length=n∧Φ .next (wSt is.reverse xs.reverse loc) Zw1
def Za(i:Nat)(We:WE):WS:=fun loc Z Φ=>∃x,loc i=some x∧We loc Z fun y Zw1=>Ow x y Zw1 fun r Zw2=>Φ .next (upd loc i r) Zw2
def qG(Wt:WT)(Wb:WS):WS:=fun loc Z Φ=>∃(J:Nat->Loc->Sig->Prop) (n:Nat),J n loc Z∧∀n l o,J n l o->Wt l o fun c o'=>(c=false->Φ .next l o')∧(c=true->Wb l o' (kq J Φ n))
def wP(Wi:WI)(Wt:WA)(Wb:WS):WS:=fun loc Z Φ=>Wi loc Z fun xs D Zw1=>∃J:Nat->Loc->Sig->Prop,J 0 loc Zw1∧∀i l o,J i l o->i≤xs.length->D o∧(∀x,xs[i]? =some x->Wt x l o fun lw1 ow1=>Wb lw1 ow1 (kc J Φ i))∧(i=xs.length->Φ .next l o)
def UY(i:Nat)(W:WE):WS:=fun loc Z Φ=>W loc Z fun v Zw1=>Φ .next (upd loc i v) Zw1
noncomputable def w8(C:Cx)(We:WE):WI:=fun loc Z Φ=>We loc Z fun x Zw1=>zj C x Zw1 Φ
noncomputable def qJ(Wf:WE)(Wa:WL):WI:=fun loc Z Φ=>Wf loc Z fun f Zw1=>qA f∧Wa loc Zw1 fun xs Zw2=>wX f xs Zw2 fun p Zw3=> -1000≤p.1∧p.1≤1000∧-1000≤p.2∧p.2≤1000∧Φ (vK p.1 1 (p.2-p.1).toNat) (fun _=>True) Zw3
noncomputable def YB(Wg Wf:WE)(Wa:WL):WI:=fun loc Z Φ=>Wg loc Z fun g Z0=>g=.ty "reversed" ∧Wf loc Z0 fun f Zw1=>qA f∧Wa loc Zw1 fun xs Zw2=>wX f xs Zw2 fun p Zw3=>p.1=0∧0≤p.2∧p.2≤1000∧Φ (vK (p.2-1) (-1) p.2.toNat) (fun _=>True) Zw3
noncomputable def iEnum(Wf:WE)(Wa:WL):WI:=fun loc Z Φ=>Wf loc Z fun f Zw1=>f=.ty "enumerate" ∧Wa loc Zw1 fun xs Zw2=>∃s,xs=[.str s]∧s.cps.all (·<128)=true∧Φ (vp s) (fun _=>True) Zw2
section
variable {F:Fm} {KS:List NameKind} {GT:List (Str×AV)}
theorem U1(k:FnW F KS GT)(i:Nat)(hN:F.N[i]? =some n)(hK:KS[i]? =some NameKind.local):Sp F (.Name n pos) (jd i):=sp_var k i hN hK
theorem q_cel(k:FnW F KS GT)(i:Nat)(hN:F.N[i]? =some n)(hK:KS[i]? =some kd)(hk:kd=.cell∨kd=.free):Sp F (.Name n pos) (k9 i):=sp_cel k i hN hK hk
theorem U2(k:FnW F KS GT)(i:Nat)(hG:GT[i]? =some (n,x)):Sp F (.Name n pos) (jm x):=sp_glb k i hG
theorem q_int:Sp F (.Constant (.int i) k pos) (jm (.int i)):=sp_int
theorem q_flt:Sp F (.Constant (.float b) k pos) (jm (.flt b)):=sp_flt
theorem q_str:Sp F (.Constant (.str b) k pos) (jm (.str b)):=sp_str
theorem q_none:Sp F (.Constant .none k pos) (jm .none):=sp_none
theorem q_bool:Sp F (.Constant (.bool b) k pos) (jm (.bool b)):=sp_bool
theorem q_dead:Sp F e Yi:=sp_dead
theorem q_bin(hl:Sp F l Wl)(hr:Sp F r Wr):Sp F (.BinOp l op r pos) (jQ op Wl Wr):=sp_bin hl hr
theorem q_cmp(hl:Sp F l Wl)(hr:Sp F r Wr)(hm:behindInMarks op r=false):Sp F (.Compare l [op] [r] pos) (qCmp op Wl Wr):=sp_cmp hl hr hm
theorem q_neg(he:Sp F e W):Sp F (.UnaryOp .USub e pos) (VY W):=sp_neg he
theorem q_ife(ht:SpT F t Wt)(hb:Sp F b Wb)(ho:Sp F o Wo):Sp F (.IfExp t b o pos) (qIfe Wt Wb Wo):=sp_ife ht hb ho
theorem zZ:SpL F pos [] jq:=yo
theorem yw(hs:∀x p,e≠.Starred x p)(he:Sp F e We)(hr:SpL F pos rest Wr):SpL F pos (e::rest) (jg We Wr):=wq hs he hr
theorem q_tup(h:SpL F pos es W):Sp F (.Tuple es k pos) (qo W):=sp_tup h
theorem q_lst(h:SpL F pos es W):Sp F (.List es pos) (vV W):=sp_lst h
theorem q_dctS:Sp F (.Dict [] [] pos) (U3 (.dS [])):=sp_dctS
theorem q_dctI:Sp F (.Dict [] [] pos) (U3 (.dI [])):=sp_dctI
theorem q_sub(hv:Sp F v Wv)(hi:Sp F i Wi):Sp F (.Subscript v i pos) (kl Wv Wi):=sp_sub hv hi
theorem qo_none:SpO F none (jm .none):=jaN
theorem qo_some(he:Sp F e W):SpO F (some e) W:=jaM he
theorem q_slc{v:PySem.Expr}{lo hi:Option PySem.Expr}{p pos:Pos}{Wv Wl Wh:WE}(hv:Sp F v Wv)(hlo:SpO F lo Wl)(hhi:SpO F hi Wh):Sp F (.Subscript v (.Slice lo hi none p) pos) (y6 F.C Wv Wl Wh):=sp_slc hv hlo hhi
theorem jbg(i:Nat)(hn:FN[i]? =some n)(hno:∀f a k p,o≠.Call f a k p)(ho:Sp F o Wo):Sp F (.Attribute o n pos) (qQ i Wo):=sp_fld i hn hno ho
theorem jbh(id:Bn)(hn:id.bmName=n)(hno:∀f a k p,o≠.Call f a k p)(ho:Sp F o Wo):Sp F (.Attribute o n pos) (jbj id Wo):=sp_bma id hn hno ho
theorem O8(hf:Sp F (.Name x np) Wf)(ha:SpL F pos args Wa):Sp F (.Call (.Name x np) args [] pos) (jy F.C F.lv Wf Wa):=sp_call hf ha
theorem q_bmeth(id:Bn)(hn:id.meth=n)(hno:∀f a k p,o≠.Call f a k p)(hl:args.length<25)(hline:(apos.endLine==pos.line)=true)(ho:Sp F o Wo)(ha:SpL F pos args Wa):Sp F (.Call (.Attribute o n apos) args [] pos) (kh F.C id Wo Wa):=jaU id hn hno hl hline ho ha
theorem Yh(i:Nat)(hn:MTS[i]? =some (n,fa))(hno:∀f a k p,o≠.Call f a k p)(hl:args.length<25)(hline:(apos.endLine==pos.line)=true)(ho:Sp F o Wo)(ha:SpL F pos args Wa):Sp F (.Call (.Attribute o n apos) args [] pos) (kG F.C F.lv fa Wo Wa):=jaT i hn hno hl hline ho ha
theorem qt_not(h:SpT F e W):SpT F (.UnaryOp .Not e pos) (VL W):=spt_not h
theorem qt_cmp(hl:Sp F l Wl)(hr:Sp F r Wr)(hm:behindInMarks op r=false):SpT F (.Compare l [op] [r] pos) (j4 op Wl Wr):=spt_cmp hl hr hm
theorem ja5(hl:Sp F l Wl)(hm:Sp F m Wm)(hr:Sp F r Wr)(hk:lastMarks [ow1,ow2] [m,r]=false):SpT F (.Compare l [ow1,ow2] [m,r] pos) (jav ow1 ow2 Wl Wm Wr):=Y1 hl hm hr hk
theorem qt_val(he:Sp F e W)(hp:∀w,isTrue e F.env w=(do let v←w;standAt e.pos;holding [v] (truthy v))):SpT F e (wo W):=spt_val he hp
theorem qt_and0:SpT F (.BoolOp .And [] pos) k5:=jaE
theorem qt_and(hx:SpT F x Wx)(hr:SpT F (.BoolOp .And rest pos) Wr):SpT F (.BoolOp .And (x::rest) pos) (qh Wx Wr):=spt_and hx hr
theorem jbc(k:FnW F KS GT)(i:Nat)(hN:F.N[i]? =some n)(hK:KS[i]? =some NameKind.local):SpA F (.Name n pos) (jw i):=Yc k i hN hK
theorem jbd(k:FnW F KS GT)(i:Nat)(hN:F.N[i]? =some n)(hK:KS[i]? =some NameKind.cell):SpA F (.Name n pos) (UL i):=spa_cel k i hN hK
theorem qa_fld(i:Nat)(hn:FN[i]? =some n)(ho:Sp F o Wo):SpA F (.Attribute o n pos) (wk i Wo):=spa_fld i hn ho
theorem qa_itm(ho:Sp F o Wo)(hk:Sp F k Wk):SpA F (.Subscript o k pos) (KL Wo Wk):=spa_itm ho hk
theorem qal_nil:Oo F [] qY:=jaS
theorem jbb(hs:∀x p,t≠.Starred x p)(ht:SpA F t Wt)(hr:Oo F ts Wr):Oo F (t::ts) (jK Wt Wr):=Y5 hs ht hr
theorem qa_tup(h:Oo F ts W):SpA F (.Tuple ts k pos) (yQ ts.length W):=spa_tup h
theorem VW(hs:∀x p,t≠.Starred x p)(ht:SpA F t W):SpM F [t] W:=spm_one hs ht
theorem qm_cons(hs:∀x p,t≠.Starred x p)(ht:SpA F t Wt)(hr:SpM F (u::ts) Wr):SpM F (t::u::ts) (vO Wt Wr):=jaO (Wt:=Wt) (Wr:=Wr) hs ht hr
theorem jba:SpB F [] jv:=spb_nil
theorem zH(hs:SpS F s Ws)(hr:SpB F rest Wr):SpB F (s::rest) (jj Ws Wr):=fun loc Z z Φ R tk h Q E q=>
 wpAny_execs_cons (hs _ _ _ _ R tk h _ E fun fl lw1 Zw1 f zw1 p Rw1 sw1 tkw1 vw1=>by
  cases fl with
  |next=>cases vw1;exact hr _ _ _ _ Rw1 tkw1 p Q E fun fl' l' Z' f' z' p' R' s' tk' v'=>q fl' l' Z' f' z' p' R' (sw1.trans s') tk' v'
  |brk=>cases vw1;exact q .brk lw1 Zw1 .brk zw1 p Rw1 sw1 tkw1 rfl
  |cont=>cases vw1;exact q .cont lw1 Zw1 .cont zw1 p Rw1 sw1 tkw1 rfl
  |ret v=>refine jp ?_ vw1;rintro cv rfl hv;exact q (.ret v) lw1 Zw1 (.ret cv) zw1 p Rw1 sw1 tkw1 ⟨cv,rfl,hv⟩)
theorem qs_dead:SpS F s vb:=jaJ
theorem qb_dead:SpB F s vb:=jaR
theorem qs_pass:SpS F (.Pass pos) (kU .next):=jaH
theorem qs_brk:SpS F (.Break pos) (kU .brk):=sps_brk
theorem qs_cont:SpS F (.Continue pos) (kU .cont):=jaK
theorem ja7(he:Sp F e W):SpS F (.Return (some e) pos) (vc W):=sps_ret he
theorem qs_ret0:SpS F (.Return none pos) (kU (.ret .none)):=jaG
theorem Yg(k:FnW F KS GT)(he:Sp F e W)(hs:swapsWith e none pos.line F.env=pure false):SpS F (.Expr e pos) (kz W):=jaI k he hs
theorem qs_if(ht:SpT F t Wt)(hb:SpB F b Wb)(ho:SpB F o Wo):SpS F (.If t b o pos) (sIf Wt Wb Wo):=sps_if ht hb ho
theorem vL(he:Sp F e We)(ht:SpM F ts Wt)(h1:swapsWithSole ts e pos.line F.env=pure false)(h2:swappedStores ts e F.env=pure none):SpS F (.Assign ts e pos) (jl We Wt):=VS he ht h1 h2
theorem qs_swap(k:FnW F KS GT)(is:List Nat)(he:Sp F (.Tuple vs kw2 pw2) We)(h1:swapsWithSole [.Tuple ts kw1 pw1] (.Tuple vs kw2 pw2) pos.line F.env=pure false)(h2:swappedStores [.Tuple ts kw1 pw1] (.Tuple vs kw2 pw2) F.env=pure (some names))
  (hN:is.map (F.N[·]?)=names.map some) (hK:(is.map (KS[·]?)).all (·==some NameKind.local)=true):SpS F (.Assign [.Tuple ts kw1 pw1] (.Tuple vs kw2 pw2) pos) (wu is names.length We):=jaF k is he h1 h2 hN hK
theorem qs_aug(k:FnW F KS GT)(i:Nat)(hN:F.N[i]? =some n)(hK:KS[i]? =some NameKind.local)(he:Sp F e We):SpS F (.AugAssign (.Name n p) .Add e pos) (Za i We):=sps_aug k i hN hK he
theorem ja6(ht:SpT F t Wt)(hb:SpB F b Wb):SpS F (.While t b [] pos) (qG Wt Wb):=Y2 ht hb
theorem qs_for(hi:SpI F t iter Wi)(ht:SpA F t Wt)(hb:SpB F b Wb)(hs:∀x,foldedSetIterable iter F.env x=pure x):SpS F (.For t iter b [] pos) (wP Wi Wt Wb):=sps_for hi ht hb hs
theorem qi_val(he:Sp F e We):SpI F tg e (w8 F.C We):=spi_val he
theorem ja9(hf:Sp F (.Name x np) Wf)(ha:SpL F pos args Wa):SpI F tg (.Call (.Name x np) args [] pos) (qJ Wf Wa):=Y4 hf ha
theorem Zb(hg:Sp F (.Name y np') Wg)(hf:Sp F (.Name x np) Wf)(ha:SpL F pos args Wa):SpI F tg (.Call (.Name y np') [.Call (.Name x np) args [] pos] [] pos') (YB Wg Wf Wa):=VT hg hf ha
theorem qi_enum(hf:Sp F (.Name x np) Wf)(ha:SpL F pos args Wa):SpI F (.Tuple ts k p) (.Call (.Name x np) args [] pos) (iEnum Wf Wa):=jaQ hf ha
theorem qf_none:On F [] k5:=Y3
theorem qf_one(hc:SpT F c W):On F [c] W:=jaP hc
end
end
theorem ZK(h:∀a,Z a=none->Ψ (.ref a) (upd Z a .set0)):CallS C lv (.ty "set") [] Z Ψ:=by
 intro F loc z fv vs hC hlv R tk hf hv
 subst hf
 subst hv
 refine Kv R tk h fun Q E q=>call_set_0 fun led=> ?_
 refine q _ _ z.s.toks z.T (.same tk (Nat.le_refl _)) (Ext.push _ _) (jB _) ?_
 refine ⟨_,#[],0,.fresh 0 0 led,Heap.get?_push_size _ rfl,⟨rfl,rfl,rfl⟩,rfl,?_,?_,?_,?_,rfl⟩
 ·intro e he;simp at he
 ·intro k;simp
 ·decide
 ·cases led<;>rfl
theorem ZI(hm:makesIn C.K SMA=true)
  (h:∀x d,Z x=none->Z d=none->x≠d->jC C lv (.ref 188) [.ref x] (upd (upd Z d (.ns fun _=>none)) x (.inst SMA d)) fun v o=>v=.none∧Ψ (.ref x) o):jC C (lv+1) (.ref SMA) [] Z Ψ:=by
 intro A z fv vs R hh hd hu HR tk hf hv q
 subst hf
 subst hv
 obtain ⟨hfi,hfn⟩:=C.mts (Str.ofString "__init__",188) (by simp[MTS])
 obtain ⟨⟨hp,g,dr,t,os⟩,T⟩:=z
 refine make_core (makes_of HR.top hm) (looks_findIn HR.top hfi) (fun self=>bind_fn HR.top self (beq_iff_eq.mp hfn)) (.inl rfl) ?_
 let zw1:St:=⟨⟨(hp.push emptyDict).push (instObj SMA hp.objs.size),g,dr,t,os⟩,T⟩
 haveI xw1:Ext hp (hp.push emptyDict):=Ext.push _ _
 haveI xw2:Ext (hp.push emptyDict) zw1.s.heap:=Ext.push _ _
 haveI hsz:(hp.push emptyDict).objs.size=hp.objs.size+1:=Heap.size_push ..
 haveI f1:hp.get? hp.objs.size=none:=jB _
 have f3:hp.get? (hp.objs.size+1)=none:=by
  cases e:hp.get? (hp.objs.size+1)with
  |none=>rfl
  |some o=>exact absurd (Heap.lt_size e) (Nat.not_lt.mpr (Nat.le_succ _))
 have Hw2:qa C (upd (upd Z hp.objs.size (.ns fun _=>none)) (hp.objs.size+1) (.inst SMA hp.objs.size)) zw1.g:=(HR.lay (h':=⟨hp.push emptyDict,T⟩) (o:=.ns fun _=>none) xw1 (.refl _) f1 ⟨[],Heap.DictOf.new _,by simp,fun i x _=>rfl⟩).lay (h':=zw1.g) (o:=.inst SMA hp.objs.size) xw2 (.refl _) (hsz.symm▸(jB _)) ⟨_,by
  have:=Heap.get?_push_size (hp.push emptyDict) (o:=instObj SMA hp.objs.size) rfl
  rw[hsz]at this;exact this,rfl,rfl,rfl,rfl⟩
 have sB:jJ (dom Z) Z ⟨⟨hp,g,dr,t,os⟩,T⟩ (upd (upd Z hp.objs.size (.ns fun _=>none)) (hp.objs.size+1) (.inst SMA hp.objs.size)) zw1:=
  ((jJ.ext (z:=⟨⟨hp,g,dr,t,os⟩,T⟩) (z':=zw1) (xw1.trans xw2) rfl (Nat.le_refl _) id (.refl _)).lay f1).lay f3
 refine h (hp.objs.size+1) hp.objs.size (HR.fresh f3).1 (HR.fresh f1).1 (Nat.succ_ne_self _) _ zw1 (.ref 188) [.ref (hp.objs.size+1)] _ hh (by rw[(by show A.depth+_=_;rw[(by kernel_rfl:(Code.builtin "type.__call__" ⟨[.ref SMA],[]⟩).weight=1)]:(A.under (Code.builtin "type.__call__" ⟨[.ref SMA],[]⟩)).depth=A.depth+1)];lia) (by rw[(by show A.units+_=_;rw[(by kernel_rfl:(Code.builtin "type.__call__" ⟨[.ref SMA],[]⟩).cUnits=1)]:(A.under (Code.builtin "type.__call__" ⟨[.ref SMA],[]⟩)).units=A.units+1)];lia) Hw2 (tk.le (Nat.le_refl _) rfl) qD (.cons qD rfl) fun av Z' cv z' p H' s' tk' v'=> ?_
 obtain ⟨rfl,p⟩:=p
 subst v'
 refine ⟨rfl,q _ _ _ z' p H' ?_ tk' qD⟩
 exact (jJ.inner (P0:=fun _=>False) (P:=fun _=>False) (sB.widen fun b hb=>.inr hb) (s'.widen fun b hb=>.inr hb) (fun b hb=>hb.elim)).widen fun b hb=>hb.elim False.elim id
section
noncomputable def KP:List (Str×String):=[(Str.ofString "__iter__","tuple.__iter__"),(Str.ofString "__getitem__","tuple.__getitem__"),(Str.ofString "__len__","tuple.__len__"),(Str.ofString "__lt__","tuple.__lt__")]
structure kX(K:Frag):Prop where
 chk:∀(M:Model) (h:Heap) (it:Value),K.In h->Looks M h (checkBuiltinCall "tuple.__new__" ⟨[.ref jn,it],[]⟩) ()
 typ:∀(M:Model) (h:Heap),K.In h->Looks M h (isType (.ref jn)) true
 sub:∀(M:Model) (h:Heap),K.In h->Looks M h (isSubtype (.ref jn) (.type "tuple")) true
 here:∀(M:Model) (h:Heap),K.In h->Looks M h (Bind.madeHere "tuple.__new__" (.ref jn)) ()
 init:∀(M:Model) (h:Heap),K.In h->Looks M h (typeLookup (.ref jn) "__init__") (some (.builtin "object.__init__"))
 cls:∃oc od cd sl,K.lookup jn=some ⟨oc,od,.cls cd,sl⟩
 mro:∀(M:Model) (h:Heap),K.In h->Looks M h (mroOf (.ref jn)) [.ref jn,.type "tuple",.type "object"]
 call:specialIn K (.ref jn) (Str.ofString "__call__")=some (some (.builtin "type.__call__"))
 typI:instIn K (.ref jn) (.type "type")=some true
 made:∀(M:Model) (h:Heap),K.In h->Looks M h (Bind.madeBy (.ref jn)) none
 rd:readsIn K jn (.type "type")=true
 nw:findCls K (.ref jn) (.type "type") (Str.ofString "__new__")=some (.get (.builtin "staticmethod.__get__") (.ref 164) .none (.ref jn))
 smf:recIn K 164 "staticmethod" =some [.ref 110]
 self:∀(M:Model) (h:Heap),K.In h->Looks M h (isSubtype (.ref jn) (.ref jn)) true
 top:∀(M:Model) (h:Heap),K.In h->Looks M h (isSubtype (.ref jn) (.type "object")) true
 fi:∀p∈KP,findIn K (.ref jn) p.1=some (some (.builtin p.2))
 del:∀(M:Model) (h:Heap),K.In h->Looks M h (classHasDel jn) false
theorem Ub:plainId "tuple.__new__" =true:=by decide+kernel
theorem UB:entryFor table "tuple.__new__" =some Builtin.«tuple.__new__» :=entryFor_of_tree (by kernel_rfl)
section
variable {F:Fm} {KS:List NameKind} {GT:List (Str×AV)} {loc:Loc} {Z:Sig} {z:St}
theorem ZC(m:kX F.C.K)(R:F.Rel loc Z z.g)(tk:TOk z)(hv:VR z.g (.tup xs) t)(hl:xs.length≤1000)(h:Ψ (.mat xs) Z):kK F (call (.builtin "tuple.__new__") [.ref jn,t]) loc Z z Ψ:=by
 refine KU ?_ hv;rintro a vs n rfl ha hvs
 have X:=R.hr.top
 have hlen:=hvs.length;simp only[Array.length_toList]at hlen
 refine v9 R tk h fun Q E q=>wpAny_call ?_
 refine codeAny_of_tree ?_
 refine wpAny_bind ((m.chk _ _ _ X).here (wpAny_pure (And.intro (plainId_quiet Ub _) (codeAny_builtin UB ?_))))
 refine wpAny_bind ((m.typ _ _ X).here ?_)
 refine wpAny_bind ((m.sub _ _ X).here ?_)
 refine wpAny_bind ((m.here _ _ X).here ?_)
 refine wpAny_bind ((m.init _ _ X).here ?_)
 refine wpAny_bind (wpAny_of_eq (a:=()) (by rfl) ?_)
 refine wpAny_bind (wpAny_of_eq (a:=()) (by rfl) ?_)
 refine wpAny_bind (wpAny_collect_seq a (.inr rfl) ha rfl rfl (fun h₁ xw1=> ?_) (by have:=jH;lia))
 refine wpAny_bind (wpAny_pure ?_)
 refine wpAny_bind (wpAny_alloc ?_)
 refine wpAny_bind ?_
 delta newObj
 dsimp only
 rw[if_neg (by have:=jH;simp;lia)]
 let hw2:=h₁.push {cls:=.type "dict",data:=.dict #[]}
 let h₃:=hw2.push {cls:=.ref jn,dict:=some h₁.objs.size,data:=.seq vs.toList.toArray}
 haveI xw3:Ext z.s.heap h₃:=(Ext.trans (show Ext z.s.heap h₁ from xw1) (Ext.push _ _)).trans (Ext.push _ _)
 refine wpAny_bind (wpAny_alloc ?_)
 refine wpAny_bind ((m.del _ _ (X.keeps xw3)).here (s:={z.s with heap:=h₃}) ?_)
 refine wpAny_pure (wpAny_pure ?_)
 refine q _ h₃ z.s.toks z.T (.same tk (Nat.le_refl _)) xw3 ?_
 refine ⟨hw2.objs.size,_,_,0,rfl,Heap.get?_push_size _ rfl,rfl,rfl,?_⟩
 simpa using hvs.imm (h:=z.g) (Ext.imm (h:=z.g) (h':=⟨h₃,z.T⟩) xw3 (.refl _))
end
end
section
section
variable {F:Fm} {KS:List NameKind} {GT:List (Str×AV)} {loc:Loc} {Z:Sig} {z:St}
theorem meth_T(X:F.C.K.In z.s.heap)(ht:typeOf (.type T)=pure (.type "type"))(hs:Manifest.isStub T=false)(e:findCls F.C.K (.type T) (.type "type") name=some (.val v))(hh:handedIn v=true):
  ∀(pl:Sem Bool) (Q:Value×List Value->Shared->Prop) (E:Value->Shared->Prop),Q (v,[]) {z.s with toks:=z.s.toks+1}->wpAny F.M F.A (getMethod (.type T) name pl) Q E z.s:=by
 intro pl Q E h
 have hstub:opaqueClassAbove (.type T)=pure none:=by delta opaqueClassAbove;dsimp only;rw[hs];rfl
 have L0:Looks F.M z.s.heap (typeOf (.type T)) (.type "type"):=Looks.of_pure ht
 have hg:findIn F.C.K (.type "type") "__getattribute__" =some (some (.builtin "type.__getattribute__")):=type_tga
 delta getMethod specialOf
 refine wpAny_bind (wpAny_bind (L0.here ((looks_findIn X hg).here ?_)))
 dsimp only
 rw[if_pos canon_tga]
 refine wpAny_bind (wpAny_mono (Q:=fun v=>Q (v,[])) (E:=E) ?_ (fun _ _ z=>wpAny_pure z) fun _ _ z=>z)
 have LO:Looks F.M z.s.heap (opaqueClassAbove (.type T)) none:=Looks.of_pure hstub
 refine cls_open X LO L0 hg (looks_hook X (r:=none) (by rfl)) (by show subIn F.C.K _ _=_;rfl) e
  (wpAny_pure (by show wpAny _ _ (handedOut v) _ _ _;rw[handedOut_of hh];exact wpAny_pure h))
theorem Vp{K:Frag}:findCls K (.type "tuple") (.type "type") (Str.ofString "__new__")=some (.val (.builtin "tuple.__new__")):=by kernel_rfl
theorem YY:typeOf (.type "tuple")=pure (.type "type"):=by kernel_rfl
theorem VO:Manifest.isStub "tuple" =false:=by decide+kernel
theorem Oe:handedIn (.builtin "tuple.__new__")=true:=by decide+kernel
theorem Vd(X:F.C.K.In z.s.heap):∀(pl:Sem Bool) (Q:Value×List Value->Shared->Prop) (E:Value->Shared->Prop),Q (.builtin "tuple.__new__",[]) {z.s with toks:=z.s.toks+1}->wpAny F.M F.A (getMethod (.type "tuple") (Str.ofString "__new__") pl) Q E z.s:=fun pl Q E h=>by
 have e:=Vp (K:=F.C.K)
 have k:=meth_T (F:=F) (z:=z) (T:= "tuple") (name:=Str.ofString "__new__") (v:=.builtin "tuple.__new__") X YY VO e
 exact k Oe pl Q E h
noncomputable def St.tick(z:St):St:=⟨{z.s with toks:=z.s.toks+1},z.T⟩
theorem St.tick_step{W:Addr->Prop}:jJ W Z z Z z.tick:=.ext (Ext.refl _) rfl (Nat.le_succ _) id (.refl _)
theorem ZG(R:F.Rel loc Z z.g)(ho:∀f a k p,o≠.Call f a k p)(hn:args.length<25)(hp:(backTo pos (starEach args F.env)).any (·.1)=false)(hline:(apos.endLine==pos.line)=true)
  (h:kK F (eval o F.env) loc Z z Θ)
  (k:∀x Zw1 a zw1,Θ x Zw1->F.Rel loc Zw1 zw1.g->TOk zw1->VR zw1.g x a->∃f first,(∀(pl:Sem Bool) (Q:Value×List Value->Shared->Prop) (E:Value->Shared->Prop),Q (f,first) zw1.tick.s->wpAny F.M F.A (getMethod a name pl) Q E zw1.s)∧kK F (callWith pos f first (backTo pos (starEach args F.env)) []) loc Zw1 zw1.tick Ψ):
  kK F (eval (.Call (.Attribute o name apos) args [] pos) F.env) loc Z z Ψ:=by
 refine EvG.of_eq (arm_eval_Call ..) ?_
 rw[qB ho]
 refine EvG.bind h fun x Zw1 a zw1 p Rw1 st tk v=>EvG.standAt ?_
 refine ky (fun f first hm hc=> ?_) (k x Zw1 a zw1 p Rw1 tk v)
 intro Q E q
 have hpos:methodCallPos true o F.env apos pos=pure pos:=by delta methodCallPos;simp[hline]
 delta methodCall
 rw[show methodCallForm (args.length+([]:List Keyword).length) (backTo pos (starEach args F.env)) (backToKw pos (keywordEach [] F.env))=true from mcf hn hp]
 refine wpAny_bind (wpAny_holding (hm _ _ _ ?_))
 exact wpAny_bind (wpAny_of_eq hpos (hc Q E fun av Z' cv z' p' R' s' tk' v'=>q av Z' cv z' p' R' (St.tick_step.trans s') tk' v'))
theorem jbe(m:kX F.C.K)(hl:args.length<25)(hline:(apos.endLine==pos.line)=true)(ho:Sp F (.Name x np) Wo)(ha:SpL F pos args Wa):
  Sp F (.Call (.Attribute (.Name x np) (Str.ofString "__new__") apos) args [] pos) fun loc Z Ψ=>Wo loc Z fun f Zw1=>f=.ty "tuple" ∧Wa loc Zw1 fun ys Zw2=>∃xs,ys=[.ref jn,.tup xs]∧xs.length≤1000∧Ψ (.mat xs) Zw2:=fun loc Z z Ψ R tk h=>by
 refine ZG R (fun _ _ _ _ h=>nomatch h) hl ha.1.1 hline (ho _ _ _ _ R tk h) fun f Zw1 a zw1 p Rw1 tkw1 vw1=> ?_
 refine kC ?_ p;rintro rfl p
 subst vw1
 refine ⟨.builtin "tuple.__new__",[],Vd Rw1.hr.top,?_⟩
 have Rw2:F.Rel loc Zw1 zw1.tick.g:=Rw1.ext (Ext.refl _) (.refl _)
 have tkw2:TOk zw1.tick:=tkw1.le (Nat.le_succ _) rfl
 refine qq (first:=[]) Rw2 ha.1.1 (fun _ _ _=>qj) tkw2 (fun e=>ha.1.2 e _ _ _ p) (ha.2 _ _ _ _ Rw2 tkw2 p) fun ys Zw2 vs zw2 pw2 Rw3 imw2 tk3 vw2=> ?_
 refine jX ?_ pw2;rintro xs rfl hlen hΨ
 refine qb ?_ vw2.two;rintro c t rfl hc ht
 subst hc
 exact ZC m Rw3 tk3 ht hlen hΨ
end
end
section
section
variable {prog:Program} {w:World} {A:Around} {E:Value->Shared->Prop} {s:Shared} {K:Frag} {a:Addr} {o:Obj}
theorem wx(ho:s.heap.get? a=some o)(hc:o.cls=.ref jn):Looks M s.heap (typeOf (.ref a)) (.ref jn):=fun A Q E s' k q=>by
 exact wpAny_bind (wpAny_load (k _ _ ho) (wpAny_pure (hc▸q)))
theorem qR{M:Model}{name:Str}{id:String}(m:kX K)(X:K.In s.heap)(ho:s.heap.get? a=some o)(hc:o.cls=.ref jn)(hm:(name,id)∈KP):Looks M s.heap (specialOf (.ref a) name) (some (.builtin id)):=fun A Q E s' k q=>by
 exact wpAny_bind (wx ho hc A _ E s' k (looks_findIn X (m.fi _ hm) A _ E s' k q))
theorem Vf(m:kX K)(X:K.In s.heap)(ho:s.heap.get? a=some o)(hc:o.cls=.ref jn):Looks M s.heap (isInstance (.ref a) (.type "tuple")) true:=fun A Q E s' k q=>by
 exact wpAny_bind (wx ho hc A _ E s' k (m.sub M _ X A _ E s' k q))
theorem KG{n:String}{id:String}{B:Builtin}{rest:List Value}{Q:Value->Shared->Prop}(m:kX K)(X:K.In s.heap)(ho:s.heap.get? a=some o)(hc:o.cls=.ref jn)(hk:builtinKind id=some .slot)(hs:splitId id=some ("tuple",n))(hp:plainId id=true)(he:entryFor table id=some B)(ha:argsOk id ⟨.ref a::rest,[]⟩)
  (h:wpAny (model prog w) A.in1 (B ⟨.ref a::rest,[]⟩) (fun fin s'=>∃v,fin=.done (.ret v)∧Q v s') E s):wpAny (model prog w) A (call (.builtin id) (.ref a::rest)) Q E s:=
 wpAny_call (codeAny_call_builtin hp he (check_slot hk hs (Vf m X ho hc) ha (jb8 h)))
theorem VZ{vs:Array Value}{n:Nat}{Q:Value->Shared->Prop}(m:kX K)(X:K.In s.heap)(ho:s.heap.get? a=some o)(hc:o.cls=.ref jn)
  (hQ:Q (.ref s.heap.objs.size) {s with heap:=s.heap.push {cls:=.type "tuple_iterator",data:=.fields #[.ref a,.int 0 0]}}):wpAny (model prog w) A (pyIter (.ref a)) Q E s:=by
 have L0:=qR (M:=model prog w) m X ho hc (name:=Str.ofString "__iter__") (id:= "tuple.__iter__") (by simp[KP])
 refine wpAny_bind (L0.here ?_)
 refine wpAny_bind (wpAny_holding (wpAny_bind (wpAny_bind (L0.here ?_))))
 have fin:wpAny (model prog w) A (call (.builtin "tuple.__iter__") [.ref a]) (fun it sw1=>wpAny (model prog w) A (specialOf it "__next__") (fun r sw2=>∃v,r=some v∧Q it sw2) E sw1) E s:=by
  refine KG m X ho hc (by decide+kernel) (n:= "__iter__") (by decide+kernel) PySem.F.slot_tuple_iter.plain PySem.F.entry_tuple_iter (PySem.F.args_tuple_iter_1 _) ?_
  show wpAny _ _ (do ret (←newFields "tuple_iterator" [.ref a,rawInt 0])) _ _ s
  refine wpAny_bind (wpAny_newObj_type (wpAny_pure ⟨_,rfl,?_⟩))
  exact wpAny_specialOf (T:= "tuple_iterator") ⟨_,Heap.get?_push_size _ rfl,rfl⟩ PySem.F.slot_tuple_iterator_next.lookup ⟨_,rfl,hQ⟩
 refine wpAny_bind (wpAny_askSetting (wpAny_ite ?_))
 split
 ·refine wpAny_bind (wpAny_pure (wpAny_pure ?_))
  refine wpAny_bind (wpAny_mono fin (fun it sw1 h₁=>wpAny_pure ?_) fun _ _ e=>e)
  exact wpAny_bind (wpAny_mono h₁ (fun r sw2 q__=>jp (fun v e hq=>by subst e;exact wpAny_pure hq) q__) fun _ _ e=>e)
 ·refine wpAny_tryCatch (wpAny_bind (wpAny_pure (wpAny_pure ?_)))
  refine wpAny_bind (wpAny_mono fin (fun it sw1 h₁=>wpAny_pure ?_) fun _ _ e=>e)
  exact wpAny_bind (wpAny_mono h₁ (fun r sw2 q__=>jp (fun v e hq=>by subst e;exact wpAny_pure hq) q__) fun _ _ e=>e)
theorem Zg{Q:Option Value->Shared->Prop}(hit:s.heap.IsTupleIter it t i)
  (hol:s.heap.get? t=some ol) (hdl:ol.data=.seq items nl) (hx:items[i]? =some x)
  (hQ:∀h',h'.IsTupleIter it t (i+1)->Heap.SameBut it s.heap h'->Q (some x) {s with heap:=h'}):
  wpAny (model prog w) A (pyNext (.ref it)) Q E s:=by
 refine jX (fun o ho hc hd=> ?_) (id hit)
 refine wpAny_bind (wpAny_attempt (wpAny_callSpecial?_slot (name:=Str.ofString "__next__") hit.typeIs PySem.F.slot_tuple_iterator_next
  (wpAny_call_entry PySem.F.slot_tuple_iterator_next hit.typeIs PySem.F.entry_tuple_iterator_next ?_ (PySem.F.args_tuple_iterator_next_1 _))))
 show wpAny _ _ (field (.ref it) 0>>=_) _ _ s
 refine wpAny_bind (wpAny_field ho hd (x:=.ref t) rfl ?_)
 refine wpAny_bind (wpAny_field ho hd (x:=.int i 0) rfl ?_)
 refine wpAny_bind (wpAny_seqItems hol hdl ?_)
 simp only[Int.toNat_natCast,hx]
 refine wpAny_bind (wpAny_setField ho hd (Nat.le_refl _) (wpAny_pure ⟨x,rfl,wpAny_pure (hQ _ ?_ (Heap.SameBut.update ..))⟩))
 exact ⟨_,Heap.get?_update_self _ ho (Obj.isFreed_of_fields (Obj.data_mapFields hd _)),(Obj.cls_mapFields ..).trans hc,by
  rw[Obj.data_mapFields hd];simp[rawInt]⟩
theorem jbp{Q:Option Value->Shared->Prop}(hh:A.handled=none)
  (hit:s.heap.IsTupleIter it t i) (hol:s.heap.get? t=some ol) (hdl:ol.data=.seq items nl) (hx:items[i]? =none)
  (hQ:∀h',Heap.ExtBut it s.heap h'->Q none {s with heap:=h'}):wpAny (model prog w) A (pyNext (.ref it)) Q E s:=by
 refine jX (fun o ho hc hd=> ?_) (id hit)
 refine wpAny_bind (wpAny_attempt (wpAny_callSpecial?_slot (name:=Str.ofString "__next__") hit.typeIs PySem.F.slot_tuple_iterator_next
  (wpAny_call_entry PySem.F.slot_tuple_iterator_next hit.typeIs PySem.F.entry_tuple_iterator_next ?_ (PySem.F.args_tuple_iterator_next_1 _))))
 show wpAny _ _ (field (.ref it) 0>>=_) _ _ s
 refine wpAny_bind (wpAny_field ho hd (x:=.ref t) rfl ?_)
 refine wpAny_bind (wpAny_field ho hd (x:=.int i 0) rfl ?_)
 refine wpAny_bind (wpAny_seqItems hol hdl ?_)
 simp only[Int.toNat_natCast,hx]
 refine wpAny_bind (wpAny_rule (wpAny_bind (wpAny_setField ho hd (Nat.le_add_right _ _) ?_)))
 refine wpAny_bind ?_
 refine wpAny_bind (wpAny_newObj_type ?_ (by size_fits))
 refine wpAny_bind (m:=firstArgMember _ _) (wpAny_of_eq (a:=Value.none) (by first|rfl|(rfl)) ?_)
 refine wpAny_newObj_type ?_ (by size_fits)
 refine wpAny_bind (wpAny_handled ?_)
 rw[show A.in1.handled=none from hh]
 refine wpAny_bind (wpAny_pure (wpAny_throw ?_))
 refine wpAny_bind (wpAny_isInstance (T:= "StopIteration") (b:=true) ⟨_,Heap.get?_push_size _ rfl,rfl⟩ isSubtype_stop ?_)
 exact wpAny_pure (hQ _ (((Heap.SameBut.update ..).extBut.push _).push _))
theorem jcu(hdl:ol.data=.seq items nl)(hne:t≠it):∀(n i:Nat) (s:Shared) (Q:List Value->Shared->Prop),s.heap.IsTupleIter it t i->s.heap.get? t=some ol->i+n≤items.size->
  (∀h',h'.IsTupleIter it t (i+n)->Heap.SameBut it s.heap h'->Q ((items.toList.drop i).take n) {s with heap:=h'})->wpAny (model prog w) A (draw (.ref it) n) Q E s:=by
 intro v__
 induction v__ with
 |zero=>
  intro i s Q hit _ _ hQ
  exact wpAny_pure (by simpa using hQ s.heap hit (Heap.SameBut.refl ..))
 |succ n ih=>
  intro i s Q hit ht hle hQ
  have hlt:i<items.size:=by lia
  refine wpAny_bind (Zg hit ht hdl (x:=items[i]) (by simp[hlt]) fun h₁ hit1 hs1=> ?_)
  refine wpAny_bind (wpAny_holding (ih (i+1) _ _ hit1 ((hs1.2 t hne).trans ht) (by lia) fun hw2 hit2 hsw2=>wpAny_pure ?_))
  have:=hQ hw2 (by rw[show i+(n+1)=i+1+n by lia];exact hit2) (hs1.trans hsw2)
  simp only[(by simp[List.drop_eq_getElem_cons,hlt]:items.toList.drop i=items[i]::items.toList.drop (i+1)),List.take_succ_cons]at this
  exact this
theorem VJ{vs:Array Value}{n:Nat}{Q:List Value->Shared->Prop}(hh:A.handled=none)(m:kX K)(X:K.In s.heap)(ho:s.heap.get? a=some o)(hc:o.cls=.ref jn)(hd:o.data=.seq vs n)
  (hQ:∀h',Ext s.heap h'->Q vs.toList {s with heap:=h'}):wpAny (model prog w) A (unpackItems (.ref a) vs.size none) Q E s:=by
 have hlt:a≠s.heap.objs.size:=Nat.ne_of_lt (Heap.lt_size ho)
 refine wpAny_bind ?_
 refine wpAny_bind ((qR (M:=model prog w) m X ho hc (name:=Str.ofString "__iter__") (id:= "tuple.__iter__") (by simp[KP])).here ?_)
 refine wpAny_pure ?_
 refine wpAny_bind (wpAny_holding (VZ (vs:=vs) (n:=n) m X ho hc ?_))
 refine wpAny_bind (wpAny_holding (jcu hd hlt vs.size 0 _ _ ⟨_,Heap.get?_push_size _ rfl,rfl,rfl⟩ (Heap.get?_push_of_some _ ho) (by lia) fun h₁ hit1 hs1=> ?_))
 have hall:List.take vs.size (List.drop 0 vs.toList)=vs.toList:=by
  exact List.take_of_length_le (Nat.le_refl _)
 rw[hall]
 rw[if_neg (by simp)]
 refine wpAny_bind (wpAny_holding (jbp hh hit1 ((hs1.2 a hlt).trans (Heap.get?_push_of_some _ ho)) hd (by simp) fun hw2 he2=> ?_))
 exact wpAny_pure (hQ hw2 fun b ob e=>he2 b ob (Nat.ne_of_lt (Heap.lt_size e)) (hs1.extBut b ob (Nat.ne_of_lt (Heap.lt_size e)) (Heap.get?_push_of_some _ e)))
end
section
variable {F:Fm} {KS:List NameKind} {GT:List (Str×AV)}
theorem Xe(m:kX F.C.K)(R:F.Rel loc Z z.g)(tk:TOk z)(hv:VR z.g v cv)(e:v=.mat xs):EvL F (unpackItems cv xs.length none) loc Z z fun ys Z'=>ys=xs∧Z'=Z:=by
 subst e
 refine UN ?_ hv;rintro a o vs n rfl ha hc hd hvs
 intro Q E q
 rw[←(by have:=hvs.length;simpa using this:vs.size=xs.length)]
 refine VJ F.hh m R.hr.top ha hc hd fun h' hx'=> ?_
 exact q xs Z vs.toList ⟨{z.s with heap:=h'},z.T⟩ ⟨rfl,rfl⟩ (R.ext hx' (.refl _)) (.ext hx' rfl (Nat.le_refl _) id (.refl _)) (tk.le (Nat.le_refl _) rfl) (hvs.imm (h:=z.g) (Ext.imm (h:=z.g) (h':=⟨h',z.T⟩) hx' (.refl _)))
def jcK(n:Nat)(W:WAL):WA:=fun v loc Z Φ=>∃xs,v=.mat xs∧xs.length=n∧W xs loc Z Φ
theorem qa_tupM(m:kX F.C.K)(h:Oo F ts W):SpA F (.Tuple ts k pos) (jcK ts.length W):=fun v cv loc Z z Φ R tk hv=>jX fun xs e hl hw=>by
 refine StG.of_eq (arm_assign_Tuple ..) (StG.standAt ?_)
 delta unpack
 simp only[h.len,h.star,←hl]
 exact EvG.bindSt (EvG.holding (Xe m R tk hv e)) fun ys Zw1 vs zw1 p Rw1 sw1 tkw1 vw1=>by
  obtain ⟨rfl,rfl⟩:=p
  exact h.h _ _ _ _ _ _ Rw1 tkw1 vw1 hw
end
end
section
theorem jbn(a:Value)(vs:List Value):argsOk "object.__init__" ⟨[a]++vs,[]⟩:=by kernel_rfl
set_option maxHeartbeats 1000000 in
theorem VB(m:kX C.K)(h:jC C lv (.ref 110) (.ref jn::xs) Z fun v o=>(∃l,v=.mat l)∧Ψ v o):jC C (lv+1) (.ref jn) xs Z Ψ:=by
 intro A z fv vs R hh hd hu HR tk hf hv q
 subst hf
 have X:=HR.top
 refine x4_1 (fun oc od cd sl hC=> ?_) m.cls
 have hw:(Code.builtin "type.__call__" ⟨.ref jn::vs,[]⟩).weight=1:=by kernel_rfl
 have hcu:(Code.builtin "type.__call__" ⟨.ref jn::vs,[]⟩).cUnits=1:=by kernel_rfl
 have hd':(A.under (Code.builtin "type.__call__" ⟨.ref jn::vs,[]⟩)).depth=A.depth+1:=by show A.depth+_=_;rw[hw]
 have hu':(A.under (Code.builtin "type.__call__" ⟨.ref jn::vs,[]⟩)).units=A.units+1:=by show A.units+_=_;rw[hcu]
 refine codeAny_of_tree ?_
 show wpAny _ _ (callAny (.ref jn) ⟨vs,[]⟩) _ _ _
 refine nd_load (X _ _ hC) ?_
 show wpAny _ _ (callAny.viaDunder (.ref jn) _) _ _ _
 delta callAny.viaDunder
 refine wpAny_bind ((looks_specialIn X m.call).here ?_)
 dsimp only
 rw[tc_bind]
 refine wpAny_bind (wpAny_pure (wpAny_bind (wpAny_pure ?_)))
 refine wpAny_pure (a:=Fin.again (.call (.builtin "type.__call__") ⟨.ref jn::vs,[]⟩)) (And.intro rfl ?_)
 refine codeAny_call_builtin_at (Code.quiet_builtin _ (by decide+kernel)) entry_typeCall (check_slot tc_kind tc_split (looks_instIn X m.typI) (tc_args _ _ _) ?_)
 generalize hA':A.under (Code.builtin "type.__call__" ⟨.ref jn::vs,[]⟩)=A' at*
 have hh':A'.handled=none:=by rw[←hA'];exact hh
 delta Builtin.«type.__call__»
 dsimp only
 rw[if_neg (show¬((Value.ref jn==Value.type "type")=true)from Bool.false_ne_true)]
 refine wpAny_bind ((m.mro _ _ X).here ?_)
 rw[if_neg (by decide)]
 refine wpAny_bind ((m.made _ _ X).here ?_)
 dsimp only
 have tkt:TOk z.tick:=tk.le (Nat.le_succ _) rfl
 have HRt:qa C Z z.tick.g:=HR.ext (Ext.refl _) (.refl _)
 refine wpAny_bind (cls_bind X m.rd m.nw (wpAny_call (sm_get (s:=z.tick.s) X m.smf (handed_on rfl ?_))))
 refine wpAny_bind (wpAny_holding (wpAny_call (h A' z.tick (.ref 110) (.ref jn::vs) _ hh' (by rw[hd'];lia) (by rw[hu'];lia) HRt tkt qD (.cons qD (hv.imm (h:=z.g) (Imm.refl _))) fun av Z' cv z' p H' s' tk' v'=> ?_)))
 refine kC ?_ p;rintro ⟨l,rfl⟩ p
 have vm:=v'
 refine UN ?_ v';rintro b o ws n rfl ho hc hdt hws
 have X':=H'.top
 have LT:Looks (model C.prog C.w) z'.s.heap (typeOf (.ref b)) (.ref jn):=wx ho hc
 refine wpAny_bind ?_
 delta isInstance
 refine wpAny_bind (LT.here ((m.self _ _ X').here ?_))
 rw[if_neg (by decide)]
 refine wpAny_bind (wpAny_holding ?_)
 delta callSpecial? specialOf
 refine wpAny_bind (wpAny_bind (LT.here ((m.init _ _ X').here ?_)))
 dsimp only
 refine wpAny_holding ?_
 rw[oi_bind]
 refine wpAny_bind (wpAny_pure ?_)
 have fin:R (.ok (.ret (.ref b))) z'.s:=q (.mat l) Z' (.ref b) z' p H' ((jJ.trans (P:=fun _=>False) (Z:=Z) (z:=z) (St.tick_step (W:=fun b=>False∨dom Z b)) (s'.widen fun b hb=>.inr hb)).widen fun b hb=>hb.elim False.elim id) tk' vm
 have LI:Looks (model C.prog C.w) z'.s.heap (isInstance (.ref b) (.type "object")) true:=fun A Q E s' k q=>by
  simp only[isInstance]
  exact wpAny_bind (LT A _ E s' k (m.top _ _ X' A _ E s' k q))
 refine wpAny_bind (wpAny_call (codeAny_call_builtin oi_plain entry_oi (check_slot oi_kind oi_split LI (jbn _ _) ?_)))
 show wpAny _ _ (Builtin.«object.__init__» ⟨.ref b::vs,[]⟩) _ _ _
 delta Builtin.«object.__init__»
 dsimp only
 refine wpAny_ite_split (fun _=> ?_) (fun _=> ?_)
 ·refine wpAny_bind (LT.here (wpAny_bind ((m.init _ _ X').here (wpAny_bind ((m.made _ _ X').here ?_)))))
  rw[if_neg (by decide),if_neg (by decide)]
  exact wpAny_pure (wpAny_pure (wpAny_pure fin))
 ·exact wpAny_pure (wpAny_pure (wpAny_pure fin))
end
section
noncomputable def UM{α:Type}(lt:Nat->Nat->Bool)(t:KasT α):α:=t.rec (fun a=>a) fun i j _ r=>r (lt i j)
def va{α:Type}(lt:Nat->Nat->Bool)(n:Nat)(P:α->Prop)(t:KasT α):Prop:=t.rec P fun i j _ r=>i<n∧j<n∧r (lt i j)
section
variable {lt:Nat->Nat->Bool} {n:Nat}
theorem va.mono{α:Type}{P Q:α->Prop}{t:KasT α}(x:va lt n P t)(h:∀a,P a->Q a):va lt n Q t:=by
 induction t with
 |ret a=>exact h a x
 |ask i j k ih=>exact ⟨x.1,x.2.1,ih _ x.2.2⟩
theorem va.bind{α β:Type}{P:β->Prop}{f:α->KasT β}{Q:α->Prop}{t:KasT α}(x:va lt n Q t)(h:∀a,Q a->va lt n P (f a)):va lt n P (t.bind f):=by
 induction t with
 |ret a=>exact h a x
 |ask i j k ih=>exact ⟨x.1,x.2.1,ih _ x.2.2⟩
theorem va.run{α:Type}{P:α->Prop}{t:KasT α}(x:va lt n P t):P (UM lt t):=by
 induction t with
 |ret a=>exact x
 |ask i j k ih=>exact ih _ x.2.2
theorem va.congr{α:Type}{P:α->Prop}{lt':Nat->Nat->Bool}(e:∀i j,i<n->j<n->lt i j=lt' i j){t:KasT α}(x:va lt n P t):UM lt t=UM lt' t:=by
 induction t with
 |ret a=>rfl
 |ask i j k ih=>exact (ih _ x.2.2).trans (by delta UM;rw[e i j x.1 x.2.1])
theorem va.wp{α:Type}{P:α->Prop}{cmp:Nat->Nat->(Bool->Shared->Prop)->Shared->Prop}{I:Shared->Prop}{Q:α->Shared->Prop}
  (hc:∀i j s,i<n->j<n->I s->∀C:Bool->Shared->Prop,(∀s',I s'->C (lt i j) s')->cmp i j C s)
  {t:KasT α} {s:Shared} (x:va lt n P t) (hi:I s) (hq:∀s',I s'->Q (UM lt t) s'):t.kasWp cmp Q s:=by
 induction t generalizing s with
 |ret a=>exact hq s hi
 |ask i j k ih=>exact hc i j s x.1 x.2.1 hi _ fun s' hi'=>ih _ x.2.2 hi' hq
structure Ord(lt:Nat->Nat->Bool):Prop where
 asym:∀i j,lt i j=true->lt j i=false
 trans:∀i j k,lt j i=false->lt k j=false->lt k i=false
noncomputable def at0(p:Array Nat)(i:Nat):Nat:=p.getD i 0
theorem Ord.irr(O:Ord lt)(u:Nat):lt u u=false:=Bool.eq_false_iff.mpr fun e=>Bool.false_ne_true ((O.asym u u e).symm.trans e)
def Pm(n:Nat)(p:Array Nat):Prop:=p.toList.Perm (List.range n)
theorem Pm.size(h:Pm n p):p.size=n:=(List.Perm.length_eq h).trans List.length_range
theorem UK:at0 p i=(p[i]?).getD 0:=Array.getD_eq_getD_getElem?
theorem Pm.lo(h:Pm n p)(hi:i<n):at0 p i<n:=by
 rw[UK,Array.getElem?_eq_getElem (h.size.symm▸hi)]
 exact List.mem_range.mp (h.mem_iff.mp (Array.mem_toList_iff.mpr (Array.getElem_mem _)))
theorem Pm.of_perm(h:Pm n p)(k:q.Perm p):Pm n q:=(Array.perm_iff_toList_perm.mp k).trans h
def Srt(lt:Nat->Nat->Bool)(p:Array Nat)(m:Nat):Prop:=∀i j,i<j->j<m->lt (at0 p j) (at0 p i)=false
def Dsc(lt:Nat->Nat->Bool)(p:Array Nat)(m:Nat):Prop:=∀i j,i≤j->j<m->lt (at0 p i) (at0 p j)=false
def Eqv(lt:Nat->Nat->Bool)(p:Array Nat)(s m:Nat):Prop:=∀i j,s≤i->i<m->s≤j->j<m->lt (at0 p i) (at0 p j)=false
theorem Pm.rev(h:Pm n p)(i j:Nat):Pm n (kas_rev p i j):=h.of_perm (mirror_perm _ _ _ _)
theorem yP(hj:j≤p.size)(k:Nat):at0 (kas_rev p i j) k=if i≤k∧k<j then at0 p (i+j-1-k)else at0 p k:=by
 simp only[UK]
 rw[kas_rev,getElem?_mirror_all hj]
 split<;>rfl
theorem mir(h:s≤x)(k:x<m):s≤s+m-1-x∧s+m-1-x<m:=by omega
theorem VV(h:Pm n p)(hm:m≤n)(h1:s≤x)(h2:x<m):∃y,s≤y∧y<m∧at0 (kas_rev p s m) x=at0 p y:=⟨_,(mir h1 h2).1,(mir h1 h2).2,(yP (h.size.symm▸hm) x).trans (if_pos ⟨h1,h2⟩)⟩
theorem VU(h:Pm n p)(hm:m≤n)(h1:¬s≤x):at0 (kas_rev p s m) x=at0 p x:=(yP (h.size.symm▸hm) x).trans (if_neg fun q=>h1 q.1)
theorem rev_hi(h:Pm n p)(hm:m≤n):at0 (kas_rev p s m) m=at0 p m:=(yP (h.size.symm▸hm) m).trans (if_neg fun q=>Nat.lt_irrefl _ q.2)
theorem jaA(O:Ord lt)(hs:Srt lt p (k+1))(e:lt (at0 p (k+1)) (at0 p k)=false):Srt lt p (k+2):=fun i j hij hj=>by
 rcases Nat.lt_succ_iff_lt_or_eq.mp hj with h|rfl
 ·exact hs i j hij h
 ·rcases Nat.lt_succ_iff_lt_or_eq.mp hij with h|rfl
  ·exact O.trans _ _ _ (hs i k h (Nat.lt_succ_self k)) e
  ·exact e
theorem yG(O:Ord lt)(hd:Dsc lt p (k+1))(e:lt (at0 p k) (at0 p (k+1))=false):Dsc lt p (k+2):=fun i j hij hj=>by
 rcases Nat.lt_succ_iff_lt_or_eq.mp hj with h|rfl
 ·exact hd i j hij h
 ·rcases Nat.lt_succ_iff_lt_or_eq.mp (Nat.lt_succ_of_le hij)with h|rfl
  ·exact O.trans _ _ _ e (hd i k (Nat.le_of_lt_succ h) (Nat.lt_succ_self k))
  ·exact O.irr _
theorem jch(O:Ord lt)(hs:s≤k)(he:Eqv lt p s (k+1))(e:lt (at0 p (k+1)) (at0 p k)=false)(e':lt (at0 p k) (at0 p (k+1))=false):Eqv lt p s (k+2):=fun i j a b c d=>by
 rcases Nat.lt_succ_iff_lt_or_eq.mp b with b|rfl
 ·rcases Nat.lt_succ_iff_lt_or_eq.mp d with d|rfl
  ·exact he i j a b c d
  ·exact O.trans _ _ _ e' (he i k a b hs (Nat.lt_succ_self k))
 ·rcases Nat.lt_succ_iff_lt_or_eq.mp d with d|rfl
  ·exact O.trans _ _ _ (he k j hs (Nat.lt_succ_self k) c d) e
  ·exact O.irr _
theorem YF(O:Ord lt):Eqv lt p m (m+1):=fun i j a b c d=>by
 rw[Nat.le_antisymm (Nat.le_of_lt_succ b) a,Nat.le_antisymm (Nat.le_of_lt_succ d) c];exact O.irr _
theorem YG(h:Pm n p)(hm:m≤n)(hd:Dsc lt p m)(he:Eqv lt p s m):Dsc lt (kas_rev p s m) m:=fun i j hij hj=>by
 by_cases hs:s≤j
 ·refine jX (fun y a b e=> ?_) (VV h hm hs hj)
  rw[e]
  by_cases hi:s≤i
  ·refine jX (fun x c d e=> ?_) (VV h hm hi (Nat.lt_of_le_of_lt hij hj))
   rw[e];exact he _ _ c d a b
  ·rw[VU h hm hi];exact hd _ _ (Nat.le_trans (Nat.le_of_not_le hi) a) b
 ·rw[VU h hm hs,VU h hm fun q=>hs (Nat.le_trans q hij)];exact hd _ _ hij hj
theorem UZ(O:Ord lt)(h:Pm n p)(hm:k+1≤n)(hs:s≤k)(hd:Dsc lt p (k+1))(he:Eqv lt p s (k+1))(e:lt (at0 p (k+1)) (at0 p k)=true):Dsc lt (kas_rev p s (k+1)) (k+2):=by
 refine yG O (YG h hm hd he) ?_
 rw[rev_hi h hm]
 refine jX (fun y a b e'=> ?_) (VV h hm hs (Nat.lt_succ_self k))
 rw[e']
 exact O.trans _ _ _ (O.asym _ _ e) (he y k a b hs (Nat.lt_succ_self k))
theorem srt_rev(h:Pm n p)(hm:m≤n)(hd:Dsc lt p m):Srt lt (kas_rev p 0 m) m:=fun i j hij hj=>by
 rw[yP (h.size.symm▸hm),yP (h.size.symm▸hm),if_pos ⟨Nat.zero_le _,hj⟩,if_pos ⟨Nat.zero_le _,Nat.lt_trans hij hj⟩]
 exact hd _ _ (Nat.sub_le_sub_left (Nat.le_of_lt hij) _) (mir (Nat.zero_le _) (Nat.lt_trans hij hj)).2
theorem Yr(hN:k+1+(f+1)=N)(hn:N≤n):k+1<n:=Nat.lt_of_lt_of_le (Nat.lt_add_of_pos_right (Nat.succ_pos f)) (hN▸hn)
theorem Yf(h:Pm n p)(hn:N≤n)(f:Nat):∀k,k+1+f=N->(Ord lt->Srt lt p (k+1))->va lt n (fun r=>∃j,r=j+1∧k≤j∧j<N∧(Ord lt->Srt lt p (j+1))∧(j+1<N->lt (at0 p (j+1)) (at0 p j)=true)) (kas_asc p f (k+1)):=by
 induction f with
 |zero=>exact fun k hN hs=>⟨k,rfl,Nat.le_refl _,Nat.le_of_eq hN,hs,fun x=>absurd x (Nat.not_lt_of_le (Nat.le_of_eq hN.symm))⟩
 |succ f ih=>
  intro k hN hs
  have e1:=Yr hN hn
  refine ⟨h.lo e1,h.lo (Nat.lt_of_succ_lt e1),?_⟩
  cases e:lt (p.getD (k+1) 0) (p.getD (k+1-1) 0)with
  |true=>exact ⟨k,rfl,Nat.le_refl _,Nat.le_trans (Nat.le_add_right _ _) (Nat.le_of_eq hN),hs,fun _=>e⟩
  |false=>exact va.mono (ih (k+1) ((Nat.succ_add_eq_add_succ _ _).trans hN) fun O=>jaA O (hs O) e) fun r q__=>jX (fun j a b c=>⟨j,a,Nat.le_of_succ_le b,c⟩) q__
theorem ja3(hn:N≤n)(f:Nat):∀(p:Array Nat) (k q:Nat),Pm n p->k+1+f=N->q≤k->(Ord lt->Dsc lt p (k+1)∧Eqv lt p (k-q) (k+1))->
  va lt n (fun r=>Pm n r.1∧∃j,r.2.1=j+1∧j<N∧r.2.2≤j∧(Ord lt->Dsc lt r.1 (j+1)∧Eqv lt r.1 (j-r.2.2) (j+1))) (kas_desc f p (k+1) q):=by
 induction f with
 |zero=>exact fun p k q h hN hq hs=>⟨h,k,rfl,Nat.le_of_eq hN,hq,hs⟩
 |succ f ih=>
  intro p k q h hN hq hs
  have e1:=Yr hN hn
  have hN':=(Nat.succ_add_eq_add_succ (k+1) f).trans hN
  have key:∀p',Pm n p'->(Ord lt->Dsc lt p' (k+2))->_:=fun p' h' hd=>ih p' (k+1) 0 h' hN' (Nat.zero_le _) fun O=>⟨hd O,YF O⟩
  refine ⟨h.lo e1,h.lo (Nat.lt_of_succ_lt e1),?_⟩
  cases e:lt (p.getD (k+1) 0) (p.getD (k+1-1) 0)with
  |true=>
   show va _ _ _ (if q>0 then kas_desc f (kas_rev p (k+1-(q+1)) (k+1)) (k+2) 0 else kas_desc f p (k+2) 0)
   split
   ·rw[Nat.succ_sub_succ]
    exact key _ (h.rev _ _) fun O=>UZ O h (Nat.le_of_lt e1) (Nat.sub_le _ _) (hs O).1 (hs O).2 e
   ·exact key p h fun O=>yG O (hs O).1 (O.asym _ _ e)
  |false=>
   refine ⟨h.lo (Nat.lt_of_succ_lt e1),h.lo e1,?_⟩
   cases e2:lt (p.getD (k+1-1) 0) (p.getD (k+1) 0)with
   |true=>exact ⟨h,k,rfl,Nat.le_trans (Nat.le_add_right _ _) (Nat.le_of_eq hN),hq,hs⟩
   |false=>exact ih p (k+1) (q+1) h hN' (Nat.succ_le_succ hq) fun O=>⟨yG O (hs O).1 e2,by rw[Nat.succ_sub_succ];exact jch O (Nat.sub_le _ _) (hs O).2 e e2⟩
def Cnt(lt:Nat->Nat->Bool)(n:Nat)(r:Nat×Array Nat):Prop:=Pm n r.2∧1≤r.1∧r.1≤n∧(Ord lt->Srt lt r.2 r.1)
theorem OD(h:Pm n p)(hj:j<n)(hd:Ord lt->Dsc lt p (j+1)):va lt n (Cnt lt n) (kas_tail3 (j+1) n p):=
 (Yf (h.rev 0 _) (Nat.le_refl n) (n-(j+1)) j (Nat.add_sub_cancel' hj) fun O=>srt_rev h hj (hd O)).bind fun r q__=>by
  refine YT (fun i a _ c d _=> ?_) q__
  subst a;exact ⟨h.rev 0 _,Nat.succ_pos _,c,d⟩
theorem yr(h:Pm n p)(hk:k+1≤n)(hd:Ord lt->Dsc lt p (k+1)):va lt n (Cnt lt n) (kas_descPart k n p):=
 (ja3 (Nat.le_refl n) (n-(k+1)) p k 0 h (Nat.add_sub_cancel' hk) (Nat.zero_le _) fun O=>⟨hd O,YF O⟩).bind fun t Q=>by
  obtain ⟨p',r,q⟩:=t
  refine kC (fun a Q=> ?_) Q
  refine ZR (fun j b c d e=> ?_) Q
  cases b
  show va _ _ _ (if q>0 then kas_tail3 (j+1) n (kas_rev p' (j+1-(q+1)) (j+1))else kas_tail3 (j+1) n p')
  split
  ·rw[Nat.succ_sub_succ];exact OD (a.rev _ _) c fun O=>YG a c (e O).1 (e O).2
  ·exact OD a c fun O=>(e O).1
theorem Srt.le(O:Ord lt)(hs:Srt lt p m)(h:i≤j)(k:j<m):lt (at0 p j) (at0 p i)=false:=by
 rcases Nat.lt_or_eq_of_le h with h|rfl
 ·exact hs i j h k
 ·exact O.irr _
theorem Y9(h:Pm n p)(h2:2≤n):va lt n (Cnt lt n) (kas_count n p):=
 (Yf h (Nat.le_refl n) (n-1) 0 (Nat.add_sub_cancel' (Nat.le_of_succ_le h2)) fun O i j hij hj=>absurd (Nat.lt_of_lt_of_le hij (Nat.le_of_lt_succ hj)) (Nat.not_lt_zero i)).bind fun r q__=>by
  refine YT (fun m a _ c hs hl=> ?_) q__
  subst a
  split
  ·exact ⟨h,Nat.succ_pos _,c,hs⟩
  ·rename_i hne
   have hm:m+1<n:=Nat.lt_of_le_of_ne c fun e=>hne (beq_iff_eq.mpr e)
   have hl:=hl hm
   split
   ·refine ⟨h.lo (Nat.lt_of_le_of_lt (Nat.zero_le _) hm),h.lo c,?_⟩
    cases e:lt (p.getD 0 0) (p.getD (m+1-1) 0)with
    |true=>exact ⟨h,Nat.succ_pos _,c,hs⟩
    |false=>
     refine yr (h.rev 0 _) hm fun O=> ?_
     have E:Eqv lt p 0 (m+1):=fun i j _ b _ d=>O.trans _ (at0 p 0) _ (O.trans _ (at0 p m) _ ((hs O).le O (Nat.le_of_lt_succ d) (Nat.lt_succ_self m)) e) ((hs O).le O (Nat.zero_le i) b)
     exact UZ O h c (Nat.zero_le _) (fun i j hij hj=>E i j (Nat.zero_le _) (Nat.lt_of_le_of_lt hij hj) (Nat.zero_le _) hj) E hl
   ·rename_i h1
    cases m with
    |succ m=>exact absurd (Nat.succ_lt_succ (Nat.succ_pos m)) h1
    |zero=>exact yr h hm fun O=>yG O (fun i j hij hj=>by cases Nat.lt_one_iff.mp hj;cases Nat.le_zero.mp hij;exact O.irr _) (O.asym _ _ hl)
theorem mid(h:l<r)(k:r≤l+(f+1)):l≤(l+r)/2∧(l+r)/2<r∧(l+r)/2≤l+f∧r≤(l+r)/2+1+f:=by omega
def Plc(lt:Nat->Nat->Bool)(p:Array Nat)(k l r:Nat):Prop:=(∀i,i<l->lt (at0 p k) (at0 p i)=false)∧∀i,r≤i->i<k->lt (at0 p i) (at0 p k)=false
theorem Y8(h:Pm n p)(hk:k<n)(hs:Ord lt->Srt lt p k)(f:Nat):∀l r:Nat,l≤r->r≤k->r≤l+f->(Ord lt->Plc lt p k l r)->va lt n (fun l=>l≤k∧(Ord lt->Plc lt p k l l)) (kas_place p k f l r):=by
 induction f with
 |zero=>exact fun l r hl hr hf hi=>by cases Nat.le_antisymm hl hf;exact ⟨hr,hi⟩
 |succ f ih=>
  intro l r hl hr hf hi
  unfold kas_place
  split
  ·rename_i q;cases Nat.le_antisymm hl q;exact ⟨hr,hi⟩
  ·rename_i q
   refine x0_4 (fun a b c d=> ?_) (mid (Nat.not_le.mp q) hf)
   refine ⟨h.lo hk,h.lo (Nat.lt_trans (Nat.lt_of_lt_of_le b hr) hk),?_⟩
   cases e:lt (p.getD k 0) (p.getD ((l+r)/2) 0)with
   |true=>exact ih l _ a (Nat.le_trans (Nat.le_of_lt b) hr) c fun O=>⟨(hi O).1,fun i x y=>by
     rcases Nat.lt_or_eq_of_le x with x|rfl
     ·exact O.trans _ _ _ (O.asym _ _ e) (hs O _ i x y)
     ·exact O.asym _ _ e⟩
   |false=>exact ih _ r b hr d fun O=>⟨fun i x=>by
     rcases Nat.lt_succ_iff_lt_or_eq.mp x with x|rfl
     ·exact O.trans _ _ _ (hs O i _ x (Nat.lt_of_lt_of_le b hr)) e
     ·exact e,(hi O).2⟩
theorem KI(hk:k<p.size)(hl:l≤k)(i:Nat):at0 (bubble p k (k-l)) i=if i=l then at0 p k else if l<i∧i≤k then at0 p (i-1)else at0 p i:=by
 simp only[UK]
 rw[getElem?_bubble hk _ (Nat.sub_le _ _),Nat.sub_sub_self hl]
 split
 ·rfl
 ·split<;>rfl
theorem srt_bub(hk:k<p.size)(hl:l≤k)(hs:Srt lt p k)(P:Plc lt p k l l):Srt lt (bubble p k (k-l)) (k+1):=fun i j hij hj=>by
 rw[KI hk hl,KI hk hl]
 rcases Nat.lt_trichotomy j l with h|rfl|h
 ·rw[if_neg (Nat.ne_of_lt h),if_neg fun q=>Nat.lt_asymm h q.1,if_neg (Nat.ne_of_lt (Nat.lt_trans hij h)),if_neg fun q=>Nat.lt_asymm (Nat.lt_trans hij h) q.1]
  exact hs i j hij (Nat.lt_of_lt_of_le h hl)
 ·rw[if_pos rfl,if_neg (Nat.ne_of_lt hij),if_neg fun q=>Nat.lt_asymm hij q.1]
  exact P.1 i hij
 ·cases j with
  |zero=>exact absurd h (Nat.not_lt_zero _)
  |succ j=>
   rw[if_neg (Nat.ne_of_gt h),if_pos ⟨h,Nat.le_of_lt_succ hj⟩]
   show lt (at0 p j) _=_
   have hj:=Nat.lt_of_succ_lt_succ hj
   rcases Nat.lt_trichotomy i l with g|rfl|g
   ·rw[if_neg (Nat.ne_of_lt g),if_neg fun q=>Nat.lt_asymm g q.1]
    exact hs i j (Nat.lt_of_lt_of_le g (Nat.le_of_lt_succ h)) hj
   ·rw[if_pos rfl];exact P.2 j (Nat.le_of_lt_succ h) hj
   ·cases i with
    |zero=>exact absurd g (Nat.not_lt_zero _)
    |succ i=>
     rw[if_neg (Nat.ne_of_gt g),if_pos ⟨g,Nat.le_trans (Nat.le_of_lt_succ hij) (Nat.le_of_lt hj)⟩]
     exact hs i j (Nat.lt_of_succ_lt_succ hij) hj
theorem sat_bin(f:Nat):∀(p:Array Nat) (k:Nat),Pm n p->k+f=n->(Ord lt->Srt lt p k)->va lt n (fun p=>Pm n p∧(Ord lt->Srt lt p n)) (kas_bin f p k):=by
 induction f with
 |zero=>exact fun p k h hf hs=>by cases hf;exact ⟨h,hs⟩
 |succ f ih=>
  intro p k h hf hs
  have hk:k<n:=hf▸Nat.lt_add_of_pos_right (Nat.succ_pos f)
  exact (Y8 h hk hs k 0 k (Nat.zero_le _) (Nat.le_refl _) (Nat.le_add_left _ _) fun O=>⟨fun i x=>absurd x (Nat.not_lt_zero _),fun i x y=>absurd y (Nat.not_lt_of_le x)⟩).bind fun l hl=>
   ih _ (k+1) (h.of_perm (bubble_perm _ _ _)) ((Nat.succ_add_eq_add_succ _ _).trans hf) fun O=>srt_bub (h.size.symm▸hk) hl.1 (hs O) (hl.2 O)
theorem jbl(n:Nat):Pm n (List.range n).toArray:=.refl _
theorem wt(h2:2≤n):va lt n (fun p=>Pm n p∧(Ord lt->Srt lt p n)) (kas_sort n):=
 (Y9 (jbl n) h2).bind fun r q__=>by
  refine x0_4 (fun a b c d=> ?_) q__
  split
  ·rw[Nat.max_eq_left b];exact sat_bin _ _ _ a (Nat.add_sub_cancel' c) d
  ·rename_i q;exact ⟨a,Nat.le_antisymm c (Nat.not_lt.mp q)▸d⟩
end
noncomputable def zW(lt:Nat->Nat->Bool)(n:Nat):List Nat:=if n<2 then List.range n else (UM lt (kas_sort n)).toList
noncomputable def qF{α:Type}(lt:α->α->Bool)(d:α)(l:List α):List α:=(zW (fun i j=>lt (l.getD i d) (l.getD j d)) l.length).map fun i=>l.getD i d
theorem zV(lt:Nat->Nat->Bool)(n:Nat):(zW lt n).Perm (List.range n):=by
 delta zW
 split
 ·exact .refl _
 ·rename_i h;exact (wt (Nat.not_lt.mp h)).run.1
theorem qe{α:Type}(l:List α)(d:α):(List.range l.length).map (fun i=>l.getD i d)=l:=by
 apply List.ext_getElem
 ·simp
 ·intro i h1 h2
  simp only[List.length_map,List.length_range]at h1
  simp[h1]
theorem zk{α:Type}(lt:α->α->Bool)(d:α)(l:List α):(qF lt d l).Perm l:=by
 have:=(zV (fun i j=>lt (l.getD i d) (l.getD j d)) l.length).map fun i=>l.getD i d
 rw[qe]at this
 exact this
theorem KV{α:Type}(lt:α->α->Bool)(d:α)(l:List α)(asym:∀x y,x∈l->y∈l->lt x y=true->lt y x=false)(trans:∀x y z,x∈l->y∈l->z∈l->lt y x=false->lt z y=false->lt z x=false):
  (qF lt d l).Pairwise fun x y=>lt y x=false:=by
 delta qF zW
 split
 ·rw[qe]
  rename_i h
  cases l with
  |nil=>exact .nil
  |cons x t=>cases t with
   |nil=>exact List.pairwise_singleton _ _
   |cons=>exact absurd h (Nat.not_lt_of_le (Nat.le_add_left 2 _))
 ·rename_i h2
  cases l with
  |nil=>exact absurd (Nat.succ_pos 1) h2
  |cons a t=>
   generalize hl:a::t=l at*
   have ha:a∈l:=hl▸List.mem_cons_self
   have mem:∀i,l.getD i a∈l:=fun i=>by
    rw[List.getD_eq_getElem?_getD]
    cases e:l[i]? with
    |none=>exact ha
    |some x=>exact List.mem_of_getElem? e
   have eq:∀i,i<l.length->l.getD i d=l.getD i a:=fun i hi=>by simp[hi]
   have S:=wt (lt:=fun i j=>lt (l.getD i d) (l.getD j d)) (n:=l.length) (Nat.not_lt.mp h2)
   rw[S.congr (lt':=fun i j=>lt (l.getD i a) (l.getD j a)) fun i j hi hj=>by rw[eq i hi,eq j hj]]
   refine kC (fun h hs=> ?_) (wt (lt:=fun i j=>lt (l.getD i a) (l.getD j a)) (n:=l.length) (Nat.not_lt.mp h2)).run
   have hs:=hs ⟨fun i j=>asym _ _ (mem i) (mem j),fun i j k=>trans _ _ _ (mem i) (mem j) (mem k)⟩
   have hz:=h.size
   have lo:=fun{i}=>h.lo (i:=i)
   generalize UM _ (kas_sort l.length)=p at hs hz lo⊢
   rw[List.pairwise_map,List.pairwise_iff_getElem]
   intro i j hi hj hij
   have ei:∀i (hi:i<p.toList.length),p.toList[i]=at0 p i:=fun i hi=>by rw[UK];simp at hi;simp[hi]
   have hi':i<l.length:=hz▸hi
   have hj':j<l.length:=hz▸hj
   rw[ei,ei,eq _ (lo hi'),eq _ (lo hj')]
   exact hs i j hij hj'
end
end
section
open PySem PySem.W PyProof.Rows PySem.Calls
section
noncomputable def OA(a:Addr)(b:Bool):Sem PySem.Fin:=do
  let items←Builtin.List.listItems (.ref a)
  Builtin.List.listUpdate (.ref a) fun _=> #[]
  let before←seqEpoch a
  let held←newTuple items.toList
  let keyStore←newList []
  holding [held,keyStore] do
   if b then rule "list.sort.reverse"
   let kind←if items.size<2 then pure general' else keyKind' items
   let ((),s)←(if items.size<2 then pure ()else sortRuns').run (SortSt.mk' kind (if b then (items.zip items).reverse else items.zip items) #[] 7 none)
   let sorted:=(arrOf s).map (·.2)
   let touched:=(←seqEpoch a) !=before
   Builtin.List.listUpdate (.ref a) fun _=>if b then sorted.reverse else sorted
   if let some e:=failedOf s then rule "list.sort.comparison-raised";throw e
   if touched then rule "list.sort.modified";raiseError "ValueError" "list modified during sort"
   ret .none
theorem zl(a:Addr):Builtin.«list.sort» ⟨[.ref a],[]⟩=OA a false:=rfl
theorem Y6(a:Addr)(b:Bool):Builtin.«list.sort» ⟨[.ref a],[(Str.ofString "reverse",.bool b)]⟩=OA a b:=rfl
theorem jaV(a:Addr)(b:Bool):Builtin.«list.sort» ⟨[.ref a],[(Str.ofString "key",.none),(Str.ofString "reverse",.bool b)]⟩=OA a b:=rfl
noncomputable def rv{α:Type}(b:Bool)(l:List α):List α:=if b then l.reverse else l
theorem vU{α:Type}{b:Bool}{l:List α}:(rv b l).length=l.length:=by cases b<;>simp[rv]
theorem VRs.rv{g:Gh}{l:List AV}{vs:List Value}(b:Bool)(x:VRs g l vs):VRs g (Mine.Internal.rv b l) (Mine.Internal.rv b vs):=by
 cases b
 ·exact x
 ·exact x.reverse
theorem VRs.getD{g:Gh}{l:List AV}{vs:List Value}(x:VRs g l vs)(i:Nat):VR g (l.getD i .none) (vs.getD i .none):=by
 by_cases h:i<l.length
 ·refine jp (fun cv e y=> ?_) (x.at' (List.getElem?_eq_getElem h))
  rw[List.getD_eq_getElem?_getD,List.getD_eq_getElem?_getD,e,List.getElem?_eq_getElem h];exact y
 ·rw[List.getD_eq_getElem?_getD,List.getD_eq_getElem?_getD,List.getElem?_eq_none (Nat.le_of_not_lt h),List.getElem?_eq_none (by rw[x.length];exact Nat.le_of_not_lt h)];exact vT
theorem VRs.gather{g:Gh}{l:List AV}{vs:List Value}(x:VRs g l vs):∀p:List Nat,VRs g (p.map fun i=>l.getD i .none) (p.map fun i=>vs.getD i .none):=by
 intro v__
 induction v__ with
 |nil=>
  exact rfl
 |cons i p ih=>
  exact .cons (x.getD i) (ih)
noncomputable def jT(lt:AV->AV->Bool)(b:Bool)(l:List AV):List AV:=rv b (qF lt .none (rv b l))
theorem mem_rv{α:Type}{b:Bool}{l:List α}{x:α}(h:x∈rv b l):x∈l:=by
 cases b
 ·exact h
 ·exact List.mem_reverse.mp h
theorem wm{α:Type}:∀l:List α,l.zip l=l.map fun x=>(x,x)
 |[]=>rfl
 |a::l=>by rw[List.zip_cons_cons,wm l];rfl
theorem zip_rv(b:Bool)(vs:List Value):(if b=true then (vs.toArray.zip vs.toArray).reverse else vs.toArray.zip vs.toArray)=(rv b vs).toArray.zip (rv b vs).toArray:=by
 cases b
 ·rfl
 ·apply Array.toList_inj.mp
  simp[rv,wm]
section
variable {F:Fm} {loc:Loc} {Z:Sig} {z:St} {A:Around} {E:Value->Shared->Prop}
structure VF(F:Fm)(A:Around)(l:List AV)(κ:SortKind)(lt:AV->AV->Bool):Prop where
 kind:2≤l.length->∀(z:St) (vs:List Value),F.C.K.In z.s.heap->qK F.C.tk0 z.T->VRs z.g l vs->wpAny F.M A (keyKind' vs.toArray) (fun k s'=>k=κ∧s'=z.s) (fun _ _=>False) z.s
 cmp:∀x∈l,∀y∈l,∀(z:St) (cx cy:Value),F.C.K.In z.s.heap->VR z.g x cx->VR z.g y cy->wpAny F.M A (keyLt' κ cx cy) (fun r s'=>r=lt x y∧s'=z.s) (fun _ _=>False) z.s
theorem Oz{a:Addr}{l:List AV}{κ:SortKind}{lt:AV->AV->Bool}{b:Bool}{P:PySem.Fin->Shared->Prop}(R:F.Rel loc Z z.g)(tk:TOk z)(ha:Z a=some (.list l))(h64:l.length<64)(c:VF F A l κ lt)
  (q:∀z',F.Rel loc (upd Z a (.list (jT lt b l))) z'.g->jJ (F.W Z) Z z (upd Z a (.list (jT lt b l))) z'->TOk z'->P (.done (.ret .none)) z'.s):wpAny F.M A (OA a b) P E z.s:=by
 refine ky (fun vs' n ho hv=> ?_) (R.hr.obj a _ ha)
 obtain ⟨vs,rfl⟩:∃vs:List Value,vs'=vs.toArray:=⟨vs'.toList,by simp⟩
 rw[List.toList_toArray]at hv
 have hlen:=hv.length
 have hd:dom Z a:=by delta dom;rw[ha];simp
 have ho:z.s.heap.get? a=some (seqObj "list" vs.toArray n):=ho
 obtain ⟨e1,ho1⟩:∃e1,(z.s.heap.update a (Obj.mapSeq fun _=>(#[]:Array Value))).get? a=some (seqObj "list" #[] e1):=⟨_,get?_update_seq ho fun _=> #[]⟩
 --the list is emptied;two new objects
 let z1:St:=⟨{z.s with heap:=z.s.heap.update a (Obj.mapSeq fun _=>(#[]:Array Value))},z.T⟩
 have sb1:Heap.SameBut a z.s.heap z1.s.heap:=Heap.SameBut.update z.s.heap a _
 have R1:F.Rel loc (upd Z a (.list [])) z1.g:=R.put hd sb1 (.refl _) fun _=>⟨#[],e1,ho1,rfl⟩
 have S1:jJ (F.W Z) Z z (upd Z a (.list [])) z1:=.put hd sb1 (by rw[show z1.s.heap.get? a=_ from ho1];simp) (Nat.le_refl _) rfl id (.refl _)
 let z2:St:=⟨{z.s with heap:=(z1.s.heap.push (seqObj "tuple" vs.toArray 0)).push (seqObj "list" #[] 0)},z.T⟩
 have x2:Ext z1.s.heap z2.s.heap:=(Ext.push _ _).trans (Ext.push _ _)
 have R2:F.Rel loc (upd Z a (.list [])) z2.g:=R1.ext x2 (.refl _)
 have S2:jJ (F.W Z) Z z (upd Z a (.list [])) z2:=S1.trans (jJ.ext x2 rfl (Nat.le_refl _) id (.refl _))
 have ho2:z2.s.heap.get? a=some (seqObj "list" #[] e1):=x2 _ _ ho1
 have tk2:TOk z2:=⟨tk.pos,tk.new⟩
 have hv2:VRs z2.g l vs:=VRs.imm (jJ.imm R S2) hv
 --the end
 have fin:∀(p:List Nat),jT lt b l=rv b (p.map fun i=>(rv b l).getD i .none)->∀out:Array Value,out=(rv b (p.map fun i=>(rv b vs).getD i .none)).toArray->
   P (.done (.ret .none)) {z2.s with heap:=z2.s.heap.update a (Obj.mapSeq fun _=>out)}:=fun p hp out hout=>by
  obtain ⟨e3,ho3⟩:∃e3,(z2.s.heap.update a (Obj.mapSeq fun _=>out)).get? a=some (seqObj "list" out e3):=⟨_,get?_update_seq ho2 fun _=>out⟩
  have sb3:Heap.SameBut a z2.s.heap (z2.s.heap.update a (Obj.mapSeq fun _=>out)):=Heap.SameBut.update _ a _
  have hd2:dom (upd Z a (.list [])) a:=by delta dom;rw[jc];simp
  have R3:=R2.put (h':=⟨z2.s.heap.update a (Obj.mapSeq fun _=>out),z.T⟩) (o:=.list (jT lt b l)) hd2 sb3 (.refl _) fun im=>⟨out,e3,ho3,by
   have h5:out.toList=rv b (p.map fun i=>(rv b vs).getD i .none):=by rw[hout]
   rw[hp,h5];exact VRs.rv b (VRs.gather (VRs.rv b (VRs.imm im hv2)) p)⟩
  have S3:jJ (F.W Z) Z z (upd (upd Z a (.list [])) a (.list (jT lt b l))) ⟨{z2.s with heap:=z2.s.heap.update a (Obj.mapSeq fun _=>out)},z.T⟩:=
   S2.trans (.put hd2 sb3 (by rw[show Heap.get? _ a=_ from ho3];simp) (Nat.le_refl _) rfl id (.refl _))
  have e:upd (upd Z a (.list [])) a (.list (jT lt b l))=upd Z a (.list (jT lt b l)):=by funext c;delta upd;split<;>rfl
  rw[e]at R3 S3
  exact q _ R3 S3 ⟨tk.pos,tk.new⟩
 delta OA
 refine wpAny_bind (listItems_at ho rfl ?_)
 refine wpAny_bind (listUpdate_at ho rfl ?_ (by rw[List.size_toArray,sizeLine_eq];lia) (Nat.zero_le _))
 refine wpAny_bind (seqEpoch_at ho1 rfl ?_)
 refine wpAny_bind (wpAny_newTuple ?_ (by show vs.length≤_;rw[sizeLine_eq];lia))
 refine wpAny_bind (wpAny_newList ?_ (Nat.zero_le _))
 refine wpAny_holding ?_
 show wpAny F.M A _ P E z2.s
 have hsz:vs.toArray.size=vs.length:=by simp
 dsimp only
 have step:∀t:Sem PySem.Fin,wpAny F.M A t P E z2.s->wpAny F.M A (if b=true then (do let _←rule "list.sort.reverse";t)else t) P E z2.s:=by
  intro t ht
  split
  ·exact wpAny_bind (wpAny_rule ht)
  ·exact ht
 refine step _ ?_
 rw[zip_rv]
 have ending:∀(st':SortSt) (p:List Nat),failedOf st'=none->(arrOf st').map (·.2)=(p.map fun i=>(rv b vs).getD i .none).toArray->p.length=vs.length->jT lt b l=rv b (p.map fun i=>(rv b l).getD i .none)->
   wpAny F.M A (do
    let touched:=(←seqEpoch a) !=e1
    Builtin.List.listUpdate (.ref a) fun _=>if b then ((arrOf st').map (·.2)).reverse else (arrOf st').map (·.2)
    if let some e:=failedOf st' then rule "list.sort.comparison-raised";throw e
    if touched then rule "list.sort.modified";raiseError "ValueError" "list modified during sort"
    ret .none) P E z2.s:=fun st' p hf har hpl hp=>by
  refine wpAny_bind (seqEpoch_at ho2 rfl ?_)
  have hout:(if b=true then ((arrOf st').map (·.2)).reverse else (arrOf st').map (·.2))=(rv b (p.map fun i=>(rv b vs).getD i .none)).toArray:=by
   rw[har];cases b<;>simp[rv]
  rw[hout,hf]
  refine wpAny_bind (listUpdate_at ho2 rfl ?_ (Nat.zero_le _) (by show (rv b _).toArray.size≤_;rw[List.size_toArray,vU,List.length_map,hpl,sizeLine_eq];lia))
  simp only[bne_self_eq_false,Bool.false_eq_true,if_false]
  exact wpAny_pure (fin p hp _ rfl)
 by_cases h2:vs.toArray.size<2
 ·rw[if_pos h2,if_pos h2]
  refine wpAny_bind (wpAny_pure ?_)
  rw[StateT.run_pure]
  refine wpAny_bind (wpAny_pure ?_)
  have hl2:(rv b l).length<2:=by rw[vU];lia
  refine ending _ (List.range vs.length) rfl ?_ (by simp) ?_
  ·show (Array.map _ ((rv b vs).toArray.zip (rv b vs).toArray))=_
   rw[←vU (b:=b) (l:=vs),qe]
   apply Array.toList_inj.mp;simp
   apply List.ext_getElem<;>simp
  ·delta jT qF zW
   rw[if_pos hl2,vU,hlen]
 ·rw[if_neg h2,if_neg h2]
  refine wpAny_bind (wpAny_mono (c.kind (by lia) z2 vs R2.hr.top R2.hr.tk hv2) ?_ fun _ _ x=>x.elim)
  rintro _ _ ⟨rfl,rfl⟩
  have hz:(rv b vs).length=vs.length:=vU
  refine wpAny_bind (wpAny_mono (kat_run (ks:=rv b vs) (vs:=rv b vs)
   (Q:=fun st' s'=>s'=z2.s∧failedOf st'=none∧arrOf st'=(UM (fun i j=>lt ((rv b l).getD i .none) ((rv b l).getD j .none)) (kas_sort (rv b vs).length)).map (kas_item ((rv b vs).toArray.zip (rv b vs).toArray)))
   (G:=fun p s'=>s'=z2.s∧p=UM (fun i j=>lt ((rv b l).getD i .none) ((rv b l).getD j .none)) (kas_sort (rv b vs).length)) rfl (by lia) (by lia)
   (fun p st' s' h1 h2 h3 h4=>⟨h4.1,h3,by rw[h2,h4.2]⟩)
   (va.wp (n:=(rv b vs).length) (lt:=fun i j=>lt ((rv b l).getD i .none) ((rv b l).getD j .none)) (I:=fun s'=>s'=z2.s) (fun i j s hi hj hs C hC=> ?_) (wt (by lia)) rfl fun s' hs=>⟨hs,rfl⟩)) ?_ fun _ _ e=>e)
  ·subst hs
   have hm:∀i,i<(rv b vs).length->(rv b l).getD i .none∈l:=fun i hi=>by
    have:i<(rv b l).length:=by rw[vU]at hi⊢;lia
    rw[List.getD_eq_getElem?_getD,List.getElem?_eq_getElem this];exact mem_rv (List.getElem_mem _)
   refine wpAny_mono (c.cmp _ (hm i hi) _ (hm j hj) z2 _ _ R2.hr.top ((hv2.rv b).getD i) ((hv2.rv b).getD j)) ?_ fun _ _ x=>x
   rintro _ _ ⟨rfl,rfl⟩
   exact hC _ rfl
  ·rintro ⟨⟨⟩,st'⟩ s' ⟨rfl,hf,har⟩
   have hS:=(wt (lt:=fun i j=>lt ((rv b l).getD i .none) ((rv b l).getD j .none)) (n:=(rv b vs).length) (by lia)).run
   refine ending st' _ hf (kat_snds rfl har) (by rw[Array.length_toList,hS.1.size,hz]) ?_
   delta jT qF zW
   rw[if_neg (by rw[vU];lia)]
   have:(rv b l).length=(rv b vs).length:=by rw[vU,vU,hlen]
   rw[this]
end
end
section
noncomputable def ltA:AV->AV->Bool
 | .tup l,.tup m=>ltT l m
 | .mat l,.mat m=>ltT l m
 |x,y=>ltS x y
def isI(x:AV):Prop:=∃i,x=.int i
inductive vu(l:List AV):Prop where
 |oI (h:∀x∈l,isI x)
 |oM (h:∀x∈l,∃a b c,x=.mat [.int a,.int b,.int c])
 |oT (n:Nat) (h:∀x∈l,∃i ys,x=.tup (.int i::ys)∧ys.length=n) (k:∀x∈l,∀y∈l,okA x y=true)
 |oF (n:Nat) (h:∀x∈l,∃i ys,x=.tup (.flt i::ys)∧ys.length=n) (k:∀x∈l,∀y∈l,okA x y=true)
section
variable {M:Model} {A:Around} {E:Value->Shared->Prop}
theorem UQ:Looks M h (typeOf (.int i t)) (.type "int"):=Looks.of_pure rfl
theorem jat:Looks M h (typeOf (.float i t)) (.type "float"):=Looks.of_pure rfl
end
section
variable {prog:Program} {w:World} {A:Around} {E:Value->Shared->Prop} {z:St}
theorem Zf{Q:Bool->Shared->Prop}(h:Q (fLt a b) s):wpAny (model prog w) A (oneLt' true (.float a t) (.float b u)) Q E s:=by
 refine wpAny_bind (wpAny_cRoomFor_byValue rfl ?_)
 refine wpAny_bind (wpAny_callSpecialIfBound?_slot (typeIs_float s a t) PySem.F.slot_float_lt ?_)
 ·refine wpAny_call_entry PySem.F.slot_float_lt (typeIs_float s a t) PySem.F.entry_float_lt ?_ (PySem.F.args_float_lt_2 _ _)
  exact wpAny_pure ⟨_,rfl,wpAny_truthy_bool h⟩
theorem oneLt_S{Q:Bool->Shared->Prop}(hx:VR z.g x cx)(hy:VR z.g y cy)(k:okS x y=true)(h:Q (ltS x y) z.s):wpAny (model prog w) A (oneLt' b cx cy) Q E z.s:=by
 cases b with
 |false=>exact kat_one _ _ (jbG hx hy k prog w E _ h)
 |true=>
  revert h
  exact Uf (P:=fun x y cx cy=>Q (ltS x y) z.s->wpAny (model prog w) A (oneLt' true cx cy) Q E z.s) k hx hy (fun _ _ _ _ h=>oneLt_int h) (fun _ _ _ _ h=>oneLt_str h) fun _ _ _ _ _ _ _ _ _ h=>Zf h
theorem katLex{C:Cx}(X:C.K.In z.s.heap){b:Bool}{l:List AV}:∀{m:List AV} {vs ws:List Value} (i:Nat),VRs z.g l vs->VRs z.g m ws->l.length=m.length->V2 l m=true->KatLex prog w A b false (fun r s'=>r=ltT l m∧s'=z.s) (vs.zip ws) i z.s:=by
 induction l with
 |nil=>
  intro m vs ws i x y e _
  subst x
  cases m with
  |nil=>exact ⟨rfl,rfl⟩
  |cons=>exact Nat.noConfusion e
 |cons a l ih=>
  intro m vs ws i x y e k
  cases m with
  |nil=>exact Nat.noConfusion e
  |cons c m=>
  refine qb ?_ x;rintro v r rfl p q
  refine qb ?_ y;rintro v' r' rfl p' q'
  simp only[V2,List.zip_cons_cons,List.all_cons,Bool.and_eq_true]at k
  refine kat_cons (UA X p p' k.1 prog w _ _ ?_)
  by_cases h:eqS a c=true
  ·rw[h]
   refine kat_yes ?_
   have:=ih (i+1) q q' (Nat.succ.inj e) k.2
   rw[jbE h];exact this
  ·have h':=Bool.eq_false_iff.mpr h
   rw[h']
   exact kat_no (oneLt_S p p' k.1 ⟨(jbF h).symm,rfl⟩)
theorem katTups(P:AV->Prop)(hP:∀g x v,P x->VR g x v->∀M:Model,Looks M z.s.heap (typeOf v) T):∀{l:List AV} {vs:List Value},VRs z.g l vs->(∀x∈l,∃i ys,x=.tup (i::ys)∧P i)->∃fs,KatTups z.s.heap vs fs∧fs.length=l.length∧∀v∈fs,∀M:Model,Looks M z.s.heap (typeOf v) T:=by
 intro v__
 induction v__ with
 |nil=>
  intro _ x _
  subst x;exact ⟨[],.nil,rfl,fun _ h=>nomatch h⟩
 |cons a l ih=>
  intro _ x h
  refine qb ?_ x;rintro v r rfl p q
  refine jX (fun fs h1 h2 h3=> ?_) (ih q fun x hx=>h x (.tail _ hx))
  refine ky ?_ (h a (.head _));rintro i ys rfl hi
  obtain ⟨ad,vs,n,rfl,ho,cv,r',e,hv,_⟩:=p
  refine ⟨cv::fs,.cons ho rfl rfl ?_ h1,by simp[h2],fun u hu=> ?_⟩
  ·rw[←Array.getElem?_toList,e];rfl
  ·rcases List.mem_cons.mp hu with rfl|hu
   ·exact hP _ _ _ hi hv
   ·exact h3 u hu
theorem UR(a b:Value):Builtin.«tuple.__lt__» ⟨[a,b],[]⟩=(do
 if !(←isInstance b (.type "tuple"))then return←ret .notImplemented
 let xs←Builtin.Tuple.tupleItemsOf a
 let ys←Builtin.Tuple.tupleItemsOf b
 for (x,y)in xs.toList.zip ys.toList do
  if !(←eqBool x y)then
   rule "tuple.compare.by-the-first-pair-that-differs";return←ret (←richCompare .Lt x y)
 ret (Builtin.Tuple.tupleCompareSizes .Lt xs.size ys.size)):=rfl
theorem yk{Q:Array Value->Shared->Prop}(ho:s.heap.get? a=some o)(hd:o.data=.seq xs n)(h:Q xs s):wpAny (model prog w) A (Builtin.Tuple.tupleItemsOf (.ref a)) Q E s:=by
 delta Builtin.Tuple.tupleItemsOf;exact wpAny_bind (wpAny_seqItems ho hd (wpAny_pure h))
theorem mat_lt{K:Frag}{s:Shared}{a b:Addr}{oa ob:Obj}{xs ys:Array Value}{n k:Nat}{r:Bool}{Q:PySem.Fin->Shared->Prop}(m:kX K)(X:K.In s.heap)(ha:s.heap.get? a=some oa)(da:oa.data=.seq xs n)(hb:s.heap.get? b=some ob)(cb:ob.cls=.ref jn)(db:ob.data=.seq ys k)
  (he:KQ A s (decide (xs.size<ys.size)) r (xs.toList.zip ys.toList)) (h:Q (.done (.ret (.bool r))) s):wpAny (model prog w) A (Builtin.«tuple.__lt__» ⟨[.ref a,.ref b],[]⟩) Q E s:=by
 rw[UR]
 refine wpAny_bind ((Vf (M:=model prog w) m X hb cb).here ?_)
 refine wpAny_bind (yk ha da (wpAny_bind (yk hb db ?_)))
 refine wpAny_bind (wpAny_forIn_list _ (fun rest b s'=>b.1=none∧s'=s∧KQ A s (decide (xs.size<ys.size)) r rest) _ ?_ ?_ _ _ ⟨rfl,rfl,he⟩)
 ·rintro ⟨x,y⟩ rest b s' ⟨hb',rfl,e,h1,h2,h3⟩
  refine wpAny_bind (h1 prog w _ _ ?_)
  cases e with
  |true=>
   exact wpAny_pure ⟨rfl,rfl,h2 rfl⟩
  |false=>
   refine wpAny_bind (wpAny_rule (wpAny_bind (h3 rfl prog w _ _ (wpAny_bind (wpAny_pure (wpAny_pure ?_))))))
   exact wpAny_pure h
 ·rintro ⟨b1,b2⟩ s' ⟨hb',rfl,hz⟩
  subst hb'
  subst hz
  exact wpAny_pure h
end
section
variable {F:Fm} {A:Around} {l:List AV}
theorem Vy(h:∀x∈l,isI x):VF F A l oneType' ltA where
 kind h2 z vs X _ hv:=by
  refine kas_kind (T:=.type "int") (by rw[hv.length];exact h2) (fun v hm=> ?_) rfl rfl ⟨rfl,rfl⟩
  obtain ⟨j,hj,rfl⟩:=List.mem_iff_getElem.mp hm
  obtain ⟨h2,y⟩:=hv.get j hj
  obtain ⟨i,e⟩:=h _ (List.getElem_mem h2)
  rw[e]at y;obtain ⟨t,e⟩:=y;rw[e];exact UQ
 cmp x hx y hy z cx cy X vx vy:=by
  obtain ⟨i,rfl⟩:=h x hx;obtain ⟨j,rfl⟩:=h y hy
  obtain ⟨t,rfl⟩:=vx;obtain ⟨u,rfl⟩:=vy
  exact oneLt_int ⟨rfl,rfl⟩
theorem Vx{T:Value}{n:Nat}(P:AV->Prop)(hP:∀g x v,P x->VR g x v->∀(M:Model) (h:Heap),Looks M h (typeOf v) T)(hT:(T !=.type "tuple")=true)(hT2:(T==T)=true)(h:∀x∈l,∃i ys,x=.tup (i::ys)∧ys.length=n∧P i)(k:∀x∈l,∀y∈l,okA x y=true):VF F A l (tuples' true) ltA where
 kind h2 z vs X _ hv:=by
  obtain ⟨fs,h3,h4,h5⟩:=katTups (z:=z) (T:=T) P (fun g x v p q M=>hP g x v p q M _) hv fun x hx=>by refine qb (fun i ys a _ b=> ?_) (h x hx);exact ⟨i,ys,a,b⟩
  exact kat_kind h3 (by lia) (fun v hm=>h5 v hm _) hT2 ⟨by rw[hT],rfl⟩
 cmp x hx y hy z cx cy X vx vy:=by
  refine qb ?_ (h x hx);rintro i ys rfl h1 _;refine qb ?_ (h y hy);rintro j ys' rfl h2 _
  refine KU ?_ vx;rintro ax vs n rfl g1 g2
  refine KU ?_ vy;rintro ay ws n' rfl g3 g4
  refine kat_lt g1 rfl g3 rfl ?_
  have hl:=g2.length;have hm:=g4.length
  simp only[Array.length_toList,List.length_cons]at hl hm
  have:decide (vs.size<ws.size)=false:=by simp;lia
  exact this▸(katLex X 0 g2 g4 (by simp;lia) (k _ hx _ hy))
theorem jcA(m:kX F.C.K)(hu:A.units<cLine)(h:∀x∈l,∃a b c,x=.mat [.int a,.int b,.int c]):VF F A l oneType' ltA where
 kind h2 z vs X _ hv:=by
  refine kas_kind (T:=.ref jn) (hv.length▸h2) (fun v hm=> ?_) rfl rfl ⟨rfl,rfl⟩
  obtain ⟨j,hj,rfl⟩:=List.mem_iff_getElem.mp hm
  refine kg (fun h2 y=> ?_) (hv.get j hj)
  refine VG (fun a b c e=> ?_) (h _ (List.getElem_mem h2))
  rw[e]at y;refine x4_4 (fun ad o vs n e ho hc _=> ?_) y;rw[e];exact wx ho hc
 cmp x hx y hy z cx cy X vx vy:=by
  refine VG ?_ (h x hx);rintro a b c rfl;refine VG ?_ (h y hy);rintro a' b' c' rfl
  refine UN ?_ vy;rintro ay oy ws n' rfl k1 k2 k3 k4
  refine UN ?_ vx;rintro ax ox vs n rfl g1 g2 g3 g4
  refine wpAny_bind (wpAny_cRoomFor hu ?_)
  have fin:wpAny F.M A (call (.builtin "tuple.__lt__") ([.ref ax]++[.ref ay])>>=fun v=>pure (some v)) (fun r s'=>r=some (.bool (ltT [.int a,.int b,.int c] [.int a',.int b',.int c']))∧s'=z.s) (fun _ _=>False) z.s:=by
   refine wpAny_bind (KG m X g1 g2 (by decide+kernel) (n:= "__lt__") (by decide+kernel) PySem.F.slot_tuple_lt.plain PySem.F.entry_tuple_lt (PySem.F.args_tuple_lt_2 _ _) ?_)
   refine mat_lt m X g1 g3 k1 k2 k3 ?_ ⟨_,rfl,wpAny_pure ⟨rfl,rfl⟩⟩
   have hl:=g4.length;have hm:=k4.length
   simp only[Array.length_toList,List.length_cons,List.length_nil]at hl hm
   have:decide (vs.size<ws.size)=false:=by simp;lia
   exact this▸(lexAt X g4 k4 rfl rfl)
  refine wpAny_bind ?_
  refine wpAny_holding (wpAny_bind (wpAny_bind ((qR (M:=F.M) m X g1 g2 (name:=Str.ofString "__lt__") (id:= "tuple.__lt__") (by simp[KP])).here ?_)))
  refine wpAny_bind (wpAny_askSetting (wpAny_ite ?_))
  split
  ·refine wpAny_bind (wpAny_pure (wpAny_pure (wpAny_mono fin ?_ fun _ _ x=>x)))
   rintro _ _ ⟨rfl,rfl⟩;exact wpAny_truthy_bool ⟨rfl,rfl⟩
  ·refine wpAny_tryCatch (wpAny_bind (wpAny_pure (wpAny_pure (wpAny_mono fin ?_ fun _ _ x=>x))))
   rintro _ _ ⟨rfl,rfl⟩;exact wpAny_truthy_bool ⟨rfl,rfl⟩
theorem jcz(hm:(∃a b c,AV.mat [.int a,.int b,.int c]∈l)->kX F.C.K)(hu:A.units<cLine)(h:vu l):∃κ,VF F A l κ ltA:=by
 cases h with
 |oI h=>exact ⟨_,Vy h⟩
 |oM h=>
  cases l with
  |nil=>exact ⟨_,Vy fun _ h=>nomatch h⟩
  |cons x l=>
   refine VG ?_ (h _ (.head _));rintro a b c rfl
   exact ⟨_,jcA (hm ⟨a,b,c,.head _⟩) hu h⟩
 |oT n h k=>
  refine ⟨_,Vx (T:=.type "int") (n:=n) isI (fun g x v q__ y M h=>kg (fun i e=> ?_) q__) rfl rfl (fun x hx=> ?_) k⟩
  ·subst e;refine kg ?_ y;rintro t rfl;exact UQ
  ·refine ky (fun i ys a b=> ?_) (h x hx);exact ⟨_,ys,a,b,i,rfl⟩
 |oF n h k=>
  refine ⟨_,Vx (T:=.type "float") (n:=n) (fun x=>∃b,x=.flt b) (fun g x v q__ y M h=>kg (fun i e=> ?_) q__) rfl rfl (fun x hx=> ?_) k⟩
  ·subst e;refine jp ?_ y;rintro t rfl _;exact jat
  ·refine ky (fun i ys a b=> ?_) (h x hx);exact ⟨_,ys,a,b,i,rfl⟩
end
end
section
section
variable {F:Fm} {loc:Loc} {Z:Sig} {z:St} {Ψ:K1}
theorem ev_sort(m:kX F.C.K)(R:F.Rel loc Z z.g)(tk:TOk z)(ha:Z a=some (.list l))(h64:l.length<64)(hs:vu l)(h:Ψ .none (upd Z a (.list (jT ltA false l)))):kK F (call (.builtin "list.sort") [.ref a]) loc Z z Ψ:=fun Q E q=>by
 refine ky (fun vs n ho hv=> ?_) (R.hr.obj a _ ha)
 refine kg (fun κ c=> ?_) (jcz (F:=F) (A:=F.A.in1) (fun _=>m) (by have:=F.room 1 (Nat.le_add_left _ _);exact this) hs)
 refine wpAny_call_entry PyProof.Rows.slot_list_sort ⟨_,ho,rfl⟩ PyProof.Rows.entry_list_sort ?_ (PyProof.Rows.args_list_sort _)
 simp only[zl]
 exact Oz R tk ha h64 c fun z' R' st' tk'=>⟨.none,rfl,q .none _ .none z' h R' st' tk' vT⟩
theorem zi(m:kX F.C.K)(R:F.Rel loc Z z.g)(tk:TOk z)(hx:vQ F.C Z x l)(h64:l.length<64)(hs:vu l)
  (h1:∀u,argsOk "sorted" ⟨[u],kw⟩) (h2:∀u,argsOk "list.sort" ⟨[u],kw⟩) (h3:∀a,Builtin.«list.sort» ⟨[.ref a],kw⟩=OA a b)
  (h:∀c,Z c=none->Ψ (.ref c) (upd Z c (.list (jT ltA b l)))):kK F (call (.builtin "sorted") [.ref x] kw) loc Z z Ψ:=fun Q E q=>by
 refine ky (fun vs' n ho hv=> ?_) (wN R hx)
 obtain ⟨vs,rfl⟩:∃vs:List Value,vs'=vs.toArray:=⟨vs'.toList,rfl⟩
 have hlen:=hv.length
 refine kg (fun κ c=> ?_) (jcz (F:=F) (A:=F.A.in1.in1) (fun _=>m) (by have:=F.room 2 (Nat.le_add_left _ _);exact this) hs)
 refine call_function_entry_kw kind_sorted plain_sorted entry_sorted (h1 _) ?_
 refine wpAny_bind (m:=checkCount "sorted" 1 1 _) (wpAny_pure ?_)
 refine wpAny_bind (collect_list ⟨_,ho,rfl,n,rfl⟩ ?_ (by rw[sizeLine_eq];lia))
 refine wpAny_bind (wpAny_newList ?_ (by rw[sizeLine_eq];lia))
 have hsz:((z.s.heap.push (seqObj "list" #[] 0)).update z.s.heap.objs.size (Obj.mapSeq (·++vs.toArray))).objs.size=z.s.heap.objs.size+1:=by
  rw[Heap.size_update,size_push']
 have hoL:(((z.s.heap.push (seqObj "list" #[] 0)).update z.s.heap.objs.size (Obj.mapSeq (·++vs.toArray))).push (seqObj "list" vs.toArray 0)).get? (z.s.heap.objs.size+1)=some (seqObj "list" vs.toArray 0):=by
  rw[←hsz];exact Heap.get?_push_size _ rfl
 have keep:Ext z.s.heap (((z.s.heap.push (seqObj "list" #[] 0)).update z.s.heap.objs.size (Obj.mapSeq (·++vs.toArray))).push (seqObj "list" vs.toArray 0)):=fun b o q=>by
  haveI hlt:b<z.s.heap.objs.size:=Heap.lt_size q
  rw[Heap.get?_push_ne _ _ _ (by rw[hsz];exact Nat.ne_of_lt (Nat.lt_succ_of_lt hlt)),Heap.get?_update_ne _ _ _ _ (Nat.ne_of_lt hlt),Heap.get?_push_ne _ _ _ (Nat.ne_of_lt hlt)]
  exact q
 rw[hsz]
 generalize hH:((z.s.heap.push (seqObj "list" #[] 0)).update z.s.heap.objs.size (Obj.mapSeq (·++vs.toArray))).push (seqObj "list" vs.toArray 0)=H at hoL keep⊢
 have hn:z.s.heap.get? (z.s.heap.objs.size+1)=none:=by
  cases e:z.s.heap.get? (z.s.heap.objs.size+1)with
  |none=>rfl
  |some o=>exact absurd (Heap.lt_size e) (Nat.not_lt.mpr (Nat.le_succ _))
 let z1:St:=⟨{z.s with heap:=H},z.T⟩
 refine wpAny_bind (wpAny_holding (wpAny_call_entry_kw slot_list_sort ⟨_,hoL,rfl⟩ entry_list_sort ?body (h2 _)))
 case body=>
  rw[h3]
  refine Oz (R.lay (h':=z1.g) (o:=.list l) keep (.refl _) hn ⟨vs.toArray,0,hoL,by exact VRs.imm (Ext.imm keep (.refl _):Imm z.g z1.g) hv⟩) ⟨tk.pos,tk.new⟩ jc h64 c fun z' R' st' tk'=> ?_
  rw[(by funext c;delta upd;split<;>rfl:upd (upd Z (z.s.heap.objs.size+1) (.list l)) (z.s.heap.objs.size+1) (.list (jT ltA b l))=upd Z (z.s.heap.objs.size+1) (.list (jT ltA b l)))]at R' st'
  exact ⟨_,rfl,wpAny_pure ⟨_,rfl,q _ _ _ z' (h _ (R.hr.fresh hn).1) R' ((jJ.lay (z':=z1) (jJ.ext (z':=z1) keep rfl (Nat.le_refl _) id (.refl _)) hn).trans st') tk' qD⟩⟩
end
def ye(C:Cx)(b:Bool)(x:AV)(Z:Sig)(Ψ:K1):Prop:=∃a l,x=.ref a∧vQ C Z a l∧l.length<64∧vu l∧∀c,Z c=none->Ψ (.ref c) (upd Z c (.list (jT ltA b l)))
def qSort(Wo:WE):WE:=fun loc Z Ψ=>Wo loc Z fun x Zw1=>∃a l,x=.ref a∧Zw1 a=some (.list l)∧l.length<64∧vu l∧Ψ .none (upd Zw1 a (.list (jT ltA false l)))
def VX(C:Cx)(b:Bool)(Wf We:WE):WE:=fun loc Z Ψ=>Wf loc Z fun f Z0=>f=.bi .sorted∧We loc Z0 fun x Zw1=>ye C b x Zw1 Ψ
def jbi(C:Cx)(b:Bool)(Wf We Wk:WE):WE:=fun loc Z Ψ=>Wf loc Z fun f Z0=>f=.bi .sorted∧We loc Z0 fun x Zw1=>Wk loc Zw1 fun k Zw2=>k=.none∧ye C b x Zw2 Ψ
section
variable {F:Fm} {KS:List NameKind} {GT:List (Str×AV)}
theorem q_sort(m:kX F.C.K)(hno:∀f a k p,o≠.Call f a k p)(hline:(apos.endLine==pos.line)=true)(ho:Sp F o Wo):Sp F (.Call (.Attribute o (Str.ofString "sort") apos) [] [] pos) (qSort Wo):=fun loc Z z Ψ R tk h=>by
 refine Kx R hno (of_decide_eq_true rfl) rfl hline (ho _ _ _ _ R tk h) fun x Zw1 a zw1 p Rw1 tkw1 vw1=> ?_
 refine yV ?_ p;rintro ad l rfl h1 h2 h3 h4
 refine ⟨_,_,jbz .sort Rw1 vw1 ⟨l,h1⟩,?_⟩
 refine qq (first:=[a]) (Θ:=fun xs o=>xs=[]∧o=Zw1) Rw1 rfl (fun _ _ _=>qj) tkw1 (fun e=>⟨rfl,rfl⟩) (jcr Rw1 tkw1 ⟨rfl,rfl⟩) fun xs Zw2 vs zw2 pw2 Rw2 imw2 tkw2 vw2=> ?_
 refine kC ?_ pw2;rintro rfl rfl
 subst vw2
 subst vw1
 exact ev_sort m Rw2 tkw2 h1 h2 h3 h4
def only{α:Type}(P:α->Sig->Prop)(xs:List α)(o:Sig):Prop:=match xs with|[x]=>P x o|_=>False
theorem zI{α:Type}{P:α->Sig->Prop}{xs:List α}{G:Prop}(h:only P xs o)(k:∀x,xs=[x]->P x o->G):G:=by
 cases xs with
 |nil=>exact h.elim
 |cons x t=>cases t with
  |nil=>exact k x rfl h
  |cons=>exact h.elim
theorem jbf(m:kX F.C.K)(hs:∀x p,e≠.Starred x p)(hf:Sp F (.Name x np) Wf)(he:Sp F e We):Sp F (.Call (.Name x np) [e] [] pos) (VX F.C false Wf We):=fun loc Z z Ψ R tk h Q E q=>
 wpAny_Call_ofName (hf _ _ _ _ R tk h _ E fun f Zw1 fv zw1 p Rw1 sw1 tkw1 vw1=>by
  refine kC ?_ p;rintro rfl p
  subst vw1
  have hl:=wq (pos:=pos) hs he yo
  refine qq (Θ:=only fun x o=>ye F.C false x o Ψ) (first:=[]) Rw1 hl.1.1 (fun _ _ _=>qj) tkw1 (fun e=>hl.1.2 e loc Zw1 _ p) (hl.2 _ _ _ _ Rw1 tkw1 p) (fun xs Zw2 vs zw2 pw2 Rw2 imw2 tkw2 vw2=> ?_) Q E fun av Z' cv z' p' R' s' tk' v'=>q av Z' cv z' p' R' (sw1.trans s') tk' v'
  refine zI pw2 fun x e pw2=> ?_;subst e
  ·refine yV ?_ pw2;rintro a l rfl h1 h2 h3 h4
   refine jp ?_ vw2.one;rintro b rfl hb
   subst hb
   exact zi m Rw2 tkw2 h1 h2 h3 args_sorted1 args_list_sort zl h4
  )
theorem Zc(m:kX F.C.K)(hs:∀x p,e≠.Starred x p)(hf:Sp F (.Name x np) Wf)(he:Sp F e We):Sp F (.Call (.Name x np) [e] [⟨some (Str.ofString "reverse"),.Constant (.bool b) k bp,kp⟩] pos) (VX F.C b Wf We):=fun loc Z z Ψ R tk h Q E q=>
 wpAny_Call_ofName (hf _ _ _ _ R tk h _ E fun f Zw1 fv zw1 p Rw1 sw1 tkw1 vw1=>by
  refine kC ?_ p;rintro rfl p
  subst vw1
  have hl:=wq (pos:=pos) hs he yo
  have he':=UI hs pos [] F.env
  refine callWith_kw (hl.2 loc Zw1 zw1 (only fun x o=>ye F.C b x o Ψ) Rw1 tkw1 p _ E fun xs Zw2 vs zw2 pw2 Rw2 sw2 tkw2 vw2=> ?_) he' hl.1.1
  refine kws_cons (Xh Rw2 tkw2 (Ψ:=fun v o=>v=.bool b∧o=Zw2) ⟨rfl,rfl⟩ _ E fun v Zw3 cv z3 pw3 Rw3 s3 tk3 vw3=>kws_nil ?_)
  refine kC ?_ pw3;rintro rfl rfl
  subst vw3
  refine zI pw2 fun x e pw2=> ?_;subst e
  ·refine yV ?_ pw2;rintro a l rfl h1 h2 h3 h4
   refine jp ?_ vw2.one;rintro c rfl hb
   subst hb
   exact zi m Rw3 tk3 h1 h2 h3 (fun u=>args_sorted_rev _ _) (fun u=>args_list_sort_rev _ _) (fun a=>Y6 a b) h4 Q E fun av Z' cv z' p' R' s' tk' v'=>q av Z' cv z' p' R' (sw1.trans (sw2.trans (s3.trans s'))) tk' v'
  )
theorem Zd(m:kX F.C.K)(hs:∀x p,e≠.Starred x p)(hf:Sp F (.Name x np) Wf)(he:Sp F e We)(hk:Sp F ek Wk):
  Sp F (.Call (.Name x np) [e] [⟨some (Str.ofString "key"),ek,kp2⟩,⟨some (Str.ofString "reverse"),.Constant (.bool b) k bp,kp⟩] pos) (jbi F.C b Wf We Wk):=fun loc Z z Ψ R tk h Q E q=>
 wpAny_Call_ofName (hf _ _ _ _ R tk h _ E fun f Zw1 fv zw1 p Rw1 sw1 tkw1 vw1=>by
  refine kC ?_ p;rintro rfl p
  subst vw1
  have hl:=wq (pos:=pos) hs he yo
  have he':=UI hs pos [] F.env
  refine callWith_kw (hl.2 loc Zw1 zw1 (only fun x o=>Wk loc o fun k Zw2=>k=.none∧ye F.C b x Zw2 Ψ) Rw1 tkw1 p _ E fun xs Zw2 vs zw2 pw2 Rw2 sw2 tkw2 vw2=> ?_) he' hl.1.1
  refine zI pw2 fun x e pw2=> ?_;subst e
  ·
   refine kws_cons (hk loc Zw2 zw2 _ Rw2 tkw2 pw2 _ E fun v Zw3 cv z3 pw3 Rw3 s3 tk3 vw3=>kws_cons ?_)
   refine kC ?_ pw3;rintro rfl pw3
   refine Xh Rw3 tk3 (Ψ:=fun v o=>v=.bool b∧o=Zw3) ⟨rfl,rfl⟩ _ E fun v' Zw4 cv' zw4 pw4 R4 s4 tk4 v4=>kws_nil ?_
   refine kC ?_ pw4;rintro rfl rfl
   subst vw3 v4
   refine yV ?_ pw3;rintro a l rfl h1 h2 h3 h4
   refine jp ?_ vw2.one;rintro c rfl hb
   subst hb
   exact zi m R4 tk4 h1 h2 h3 (fun u=>ksk_s2 _ _ _) (fun u=>ksk_l2 _ _ _) (fun a=>jaV a b) h4 Q E fun av Z' cv z' p' R' s' tk' v'=>q av Z' cv z' p' R' (sw1.trans (sw2.trans (s3.trans (s4.trans s')))) tk' v'
  )
end
end
end
section
open PySem PySem.W PyProof.Rows PySem.Calls PySem.SeqAt
section
noncomputable def FNL:List (Addr×Stmt×Value):=[(173,jD 5,.none),(280,jD 8,.ref 275),(286,jD 10,.ref 281),(293,jD 12,.none),(300,jD 13,.none),(307,jD 15,.none),(314,jD 17,.none),(321,jD 18,.none),(326,jD 20,.none),(333,jD 21,.none),(338,jD 22,.none),(345,jD 23,.none),(350,jD 24,.none),(110,jL 4 4,.none),(117,jL 4 5,.none),(188,jL 6 1,.ref 181),(195,jL 6 2,.none),(202,jL 6 3,.none),(209,jL 6 4,.none),(216,jL 6 5,.none),(224,jL 6 6,.ref 217),(231,jL 6 7,.none),(253,jL 6 10,.none),(260,jL 6 11,.none),(267,jL 6 12,.none)]
structure PC(C:Cx):Prop where
 gl:∀p∈GTA,∃v,w9 C.K 3 0 p.1=some v∧∀g,VR g p.2 v
 mat:kX C.K
 mks:makesIn C.K SMA=true
 deq:mroIn C.K jn (.type "collections.deque")=some false
 nmk:findCls C.K (.ref jn) (.type "type") (Str.ofString "_make")=some (.get (.builtin "classmethod.__get__") (.ref 119) .none (.ref jn))
 cmf:recIn C.K 119 "classmethod" =some [.ref 117,.bool false]
 bfor:∀(M:Model) (h:Heap),C.K.In h->Looks M h (builtinsFor 3 0) builtinsNs
 fs:∀p∈FNL,jcT C p.1 p.2.1 p.2.2
 d275:∃o n,C.K.lookup 275=some o∧o.data=.seq #[.none] n
 d217:∃o n t u,C.K.lookup 217=some o∧o.data=.seq #[.int 0 t,.none,.int 0 u,.none] n
 d281:∃o n t u b,C.K.lookup 281=some o∧o.data=.seq #[.int 3 t,.float b u] n
 d181:∃o n t u,C.K.lookup 181=some o∧o.data=.seq #[.none,.str (Str.ofString "") t,.str (Str.ofString "") u,.bool true] n∧t≠0∧u≠0∧C.tk0 t=some (.s (Str.ofString ""))∧C.tk0 u=some (.s (Str.ofString ""))
 c252:∃o vs file tf flags tg inF text tt,C.K.lookup 252=some o∧o.cls=.type "code" ∧o.data=.fields vs∧vs[11]? =some (.ref 248)∧vs.getD 18 .none=.str file tf∧vs.getD 7 .none=.int flags tg∧vs.getD 9 .none=.bool inF∧vs.getD 10 .none=.int text tt
theorem PC.fn(X:PC C)(i:Nat)(h:FNL[i]? =some (a,t,dV)):jcT C a t dV:=X.fs _ (List.mem_of_getElem? h)
theorem fnW_of{F:Fm}{st:Stmt}{N:List Str}{KS:List NameKind}{CI gi:List Nat}{np:Nat}(X:PC F.C)(c:jV st N KS CI gi np=true)(hN:F.N=N)(hk:∀(i:Nat) (n:Str) (k:NameKind),N[i]? =some n->KS[i]? =some k->F.env.kindOf n=some k)(hs:F.env.scope=qw st)(hg:F.env.globals=3)(hb:F.env.builtins=0):FnW F KS (k8 gi):=by
 delta jV at c
 simp only[Bool.and_eq_true,decide_eq_true_eq,beq_iff_eq,Bool.not_eq_true']at c
 obtain ⟨⟨⟨⟨⟨⟨⟨⟨⟨⟨⟨c1,c2⟩,c3⟩,c4⟩,c5⟩,c6⟩,c7⟩,c8⟩,c9⟩,c10⟩,c11⟩,c12⟩:=c
 refine {kind:=by rw[hs];exact c10,nd:=by rw[hN];exact c2,kinds:=fun i n k h1 h2=>hk i n k (hN▸h1) h2,dbg:=fun n hn=> ?_,glb:=fun p hp=> ?_}
 ·have:=List.all_eq_true.mp c11 n (hN▸hn)
  simp only[Bool.and_eq_true,Bool.not_eq_true']at this
  exact this
 ·unfold k8 at hp
  refine jp (fun i hi hp=> ?_) (List.mem_filterMap.mp hp)
  have:=List.all_eq_true.mp c12 i hi
  rw[hp]at this
  simp only[Option.all_some,Bool.and_eq_true,beq_iff_eq,Bool.not_eq_true']at this
  refine jp (fun v q1 q2=> ?_) (X.gl p (List.mem_of_getElem? hp))
  exact ⟨by show F.env.scope.names.lookup p.1=_;rw[hs];exact this.1,this.2,v,by rw[hg,hb];exact q1,q2⟩
structure zx(F:Fm):Prop where
 X:PC F.C
 g:F.env.globals=3
 b:F.env.builtins=0
def j9(Ψ:K1)(fl:Fl)(_:Loc)(o:Sig):Prop:=match fl with| .ret v=>Ψ v o| .next=>Ψ .none o|_=>False
def yT(C:Cx)(st:Stmt)(dV:Value)(N:List Str)(np:Nat)(xs ys:List AV):Prop:=
 ∀(z:St) (fd:FuncData),fd.params=k6 st->fd.defaults=dV->fd.kwdefaults=.none->C.K.In z.s.heap->qK C.tk0 z.T->∀vs,VRs z.g xs vs->∃us,VRs z.g ys us∧BindsTo z.s fd ⟨vs,[]⟩ ((N.take np).zip us)
theorem jM{C:Cx}(X:PC C){lv:Nat}{fa:Addr}{st:Stmt}{dV:Value}{N:List Str}{KS:List NameKind}{CI gi:List Nat}{np:Nat}{xs ys:List AV}{Z:Sig}{Ψ:K1}(h:jcT C fa st dV)(c:jV st N KS CI gi np=true)(hnp:ys.length=np)(hb:yT C st dV N np xs ys)
  (body:∀(A:Around) (env:Env) x1 x2 x3 (cs:List Addr) (z:St),FnW ⟨C,A,env,N,lv,x1,x2,x3⟩ KS (k8 gi)->zx ⟨C,A,env,N,lv,x1,x2,x3⟩->env.code=.ref (fa-1)->cs.length=CI.length->cs.Nodup->(∀c∈cs,Z c=none)->
   Fm.Rel ⟨C,A,env,N,lv,x1,x2,x3⟩ (vF CI cs (KK ys)) (qO ys CI cs Z) z.g->TOk z->FlT ⟨C,A,env,N,lv,x1,x2,x3⟩ (execs (jR st) env) (vF CI cs (KK ys)) (qO ys CI cs Z) z (j9 Ψ)):jC C (lv+1) (.ref fa) xs Z Ψ:=by
 refine x1_8 (fun fd D hs hp hdf hkd hg hbl hcd=> ?_) (jcv h c)
 refine ZJ D hnp (fun z vs HR tk hv=>hb z fd hp hdf hkd HR.top HR.tk vs hv) ?_
 intro F cs z hC hlv hN hk hsc hgl hbn hco hcl hcn hcf R tk
 obtain ⟨C',A',env',N',lv',x1,x2,x3⟩:=F
 dsimp only at hC hlv hN
 subst hC hlv hN
 exact body A' env' x1 x2 x3 cs z (fnW_of (F:=⟨_,A',env',_,_,x1,x2,x3⟩) X c rfl hk (hsc.trans hs) (hgl.trans hg) (hbn.trans hbl)) ⟨X,hgl.trans hg,hbn.trans hbl⟩ (hco.trans hcd) hcl hcn hcf R tk
theorem SpB.use{Φ:Fl->Loc->Sig->Prop}(h:SpB F b W)(R:F.Rel loc Z z.g)(tk:TOk z)(hw:W loc Z Φ):FlT F (execs b F.env) loc Z z Φ:=h _ _ _ _ R tk hw
theorem jC.mono(h:jC C lv f xs Z Ψ')(k:∀v o,Ψ' v o->∃τ,j3 τ o∧Ψ v τ):jC C lv f xs Z Ψ:=fun A z fv vs R hh hd hu HR tk hf hv q=>
 h A z fv vs R hh hd hu HR tk hf hv fun av o cv z' p HR' st tk' v=>by
  refine jp (fun τ hs hp=> ?_) (k _ _ p)
  exact q av τ cv z' hp (HR'.forget hs) (st.forget hs.dom) tk' v
noncomputable def yK(scope:Scope)(N':List Str)(KS':List NameKind)(fm:List (Nat×Nat))(N:List Str)(KS:List NameKind)(gi:List Nat):Bool:=
 (scope.kind==.function)&&scope.names.all (fun x=> !(x.2==.cell)&&(!(x.2==.local)||scope.names.lookup x.1==some .local)&&(!(x.2==.free)||fm.any fun p=>N[p.2]? ==some x.1))
 &&fm.all (fun p=>(N'[p.1]?).any fun n=>(N[p.2]?).any fun m=>n==m&&decide ((n,NameKind.free)∈scope.names)&&scope.names.lookup n==some .free&&KS[p.2]? ==some NameKind.cell)
 &&decide N'.Nodup&&(N'.zip KS').all (fun p=>(p.2==NameKind.local&&scope.names.lookup p.1==some .local)||(p.2==NameKind.cell&&scope.names.lookup p.1==some .free&&fm.any fun q=>N[q.2]? ==some p.1))
 &&N'.all (fun n=> !(n==("__debug__" :Str))&& !(n==("__classdict__" :Str)))&&gi.all (fun i=>(GTA[i]?).all fun p=>scope.names.lookup p.1==some NameKind.globalImplicit&& !(p.1==("__debug__" :Str)))
section
variable {F:Fm} {KS:List NameKind} {GT:List (Str×AV)}
set_option tactic.hygienic true in
theorem OL(k:FnW F KS GT)(T:zx F)(hN:F.N=N)(c:yK scope N' KS' fm N KS gi=true):
  KR F scope N' fm∧∀Cad,FnW (cFm F scope N' Cad) KS' (k8 gi):=by
 subst hN
 delta yK at c
 simp only[Bool.and_eq_true,beq_iff_eq,decide_eq_true_eq]at c
 refine kC ?_ c;rintro ⟨⟨⟨⟨⟨c1,c2⟩,c3⟩,c4⟩,c5⟩,c6⟩ c7
 have h2:=List.all_eq_true.mp c2
 have h3:∀p∈fm,∃n,N'[p.1]? =some n∧F.N[p.2]? =some n∧(n,NameKind.free)∈scope.names∧scope.names.lookup n=some .free∧KS[p.2]? =some NameKind.cell:=fun p hp=>by
  have:=List.all_eq_true.mp c3 p hp
  obtain ⟨n,e1,this⟩:=Ud this
  obtain ⟨m,e2,this⟩:=Ud this
  simp only[Bool.and_eq_true,beq_iff_eq,decide_eq_true_eq]at this
  refine kC ?_ this;rintro ⟨⟨a,b⟩,d⟩ e
  subst a
  exact ⟨n,e1,e2,b,d,e⟩
 have hany:∀n,(fm.any fun p=>F.N[p.2]? ==some n)=true->∃p∈fm,F.N[p.2]? =some n:=fun n h=>by
  refine jp (fun p hp e=> ?_) (List.any_eq_true.mp h)
  exact ⟨p,hp,beq_iff_eq.mp e⟩
 have hfree:∀n,(n,NameKind.free)∈scope.names->∃p∈fm,F.N[p.2]? =some n:=fun n hn=>by
  have:=h2 _ hn
  rw[Bool.and_eq_true,Bool.or_eq_true,Bool.not_eq_true',beq_self_eq_true,Bool.true_eq_false,false_or]at this
  exact hany n this.2
 have hout:∀p∈fm,∀n,F.N[p.2]? =some n->F.env.kindOf n=some .cell:=fun p hp n hn=>by
  refine YT (fun m _ e2 _ _ e5=> ?_) (h3 p hp)
  cases hn.symm.trans e2
  exact k.kinds _ _ _ hn e5
 haveI hrl:∀n,(relabel scope F.env).names.lookup n=(scope.names.lookup n).map fun k=>if (k==NameKind.free&&F.env.scope.kind==.function&&F.env.kindOf n==some .cell)=true then .cell else k:=fun n=>yv
 refine ⟨⟨c1,fun x hx e=> ?_,fun x hx e=> ?_,fun p hp=> ?_,hfree,fun n hn=> ?_⟩,fun Cad=> ?_⟩
 ·have:=h2 _ hx;rw[e]at this;simp at this
 ·have:=h2 _ hx;rw[e]at this
  simp only[Bool.and_eq_true,Bool.or_eq_true,Bool.not_eq_true',beq_self_eq_true,Bool.true_eq_false,false_or,beq_iff_eq]at this
  exact this.1.2
 ·refine YT (fun n a b d e _=> ?_) (h3 p hp);exact ⟨n,a,b,d,e⟩
 ·refine jp (fun p hp e=> ?_) (hfree n hn);exact .inl (hout p hp n e)
 ·refine {kind:= ?_,nd:=c4,kinds:=fun i n kd h4 h5=> ?_,dbg:=fun n hn=> ?_,glb:=fun p hp=> ?_}
  ·exact c1
  ·show (relabel scope F.env).names.lookup n=_
   have:=List.all_eq_true.mp c5 _ (Xs h4 h5)
   simp only[Bool.or_eq_true,Bool.and_eq_true,beq_iff_eq]at this
   rw[hrl]
   rcases this with ⟨e,h⟩|⟨⟨e,h⟩,q⟩
   ·simp only[h,e];rfl
   ·refine jp (fun p hp e'=> ?_) (hany _ q)
    simp only[h,e,k.kind,hout p hp n e'];rfl
  ·have:=List.all_eq_true.mp c6 n hn
   simp only[Bool.and_eq_true,Bool.not_eq_true']at this
   exact this
  ·unfold k8 at hp
   refine jp (fun i hi hp=> ?_) (List.mem_filterMap.mp hp)
   have:=List.all_eq_true.mp c7 i hi
   rw[hp]at this
   simp only[Option.all_some,Bool.and_eq_true,beq_iff_eq,Bool.not_eq_true']at this
   refine jp (fun v q1 q2=> ?_) (T.X.gl p (List.mem_of_getElem? hp))
   refine ⟨?_,this.2,v,?_,q2⟩
   ·show (relabel scope F.env).names.lookup p.1=_
    simp only[hrl,this.1];rfl
   ·show w9 F.C.K F.env.globals F.env.builtins p.1=some v
    rw[T.g,T.b];exact q1
theorem q_comp(k:FnW F KS GT)(T:zx F)(hN:F.N=N)(N':List Str)(KS':List NameKind)(fm:List (Nat×Nat))(gi:List Nat)(chk:yK scope N' KS' fm N KS gi=true)(hi:SpI F tg iter Wi)
  (ht:∀Cad,FnW (cFm F scope N' Cad) KS' (k8 gi)->SpA (cFm F scope N' Cad) tg Wt) (hc:∀Cad,FnW (cFm F scope N' Cad) KS' (k8 gi)->On (cFm F scope N' Cad) ifs Wc) (he:∀Cad,FnW (cFm F scope N' Cad) KS' (k8 gi)->Sp (cFm F scope N' Cad) elt We) (hs:∀x,foldedSetIterable iter F.env x=pure x):
  Sp F (.ListComp elt [⟨tg,iter,ifs,0⟩] scope pos) (qC fm Wi Wt Wc We):=
 have co:=OL k T hN chk
 sp_comp k.toFnOk co.1 hi (fun Cad=>ht Cad (co.2 Cad)) (fun Cad=>hc Cad (co.2 Cad)) (fun Cad=>he Cad (co.2 Cad)) hs
theorem VM(k:FnOk F)(hk:F.env.kindOf n=some .local)(h:(npos.line==pos.line&& !(scope.names.any fun(m,kd)=>m==n&&(kd==.local||kd==.cell)))=true):swapsWith (.ListComp e g scope pos) (some (.Name n npos)) l F.env=pure true:=by
 haveI e:swapsWith (.ListComp e g scope pos) (some (.Name n npos)) l F.env=pure (F.env.blockKind==.function&&F.env.kindOf n==some .local&&npos.line==pos.line&& !(scope.names.any fun(m,kd)=>m==n&&(kd==.local||kd==.cell))):=rfl
 rw[e,Bool.and_assoc,h,hk]
 delta Env.blockKind
 rw[k.kind];rfl
theorem VN(k:FnW F KS GT)(i:Nat)(hNi:F.N[i]? =some n)(hK:KS[i]? =some NameKind.cell):swapsWithSole [.Name n npos] (.ListComp e g scope pos) l F.env=pure false:=by
 haveI e:swapsWithSole [.Name n npos] (.ListComp e g scope pos) l F.env=pure (F.env.blockKind==.function&&F.env.kindOf n==some .local&&npos.line==pos.line&& !(scope.names.any fun(m,kd)=>m==n&&(kd==.local||kd==.cell))):=rfl
 rw[e,k.kinds i n _ hNi hK]
 have:(some NameKind.cell==some NameKind.local)=false:=rfl
 rw[this,Bool.and_false];rfl
theorem qs_comp(k:FnW F KS GT)(T:zx F)(hN:F.N=N)(i:Nat)(hNi:F.N[i]? =some n)(hK:KS[i]? =some NameKind.local)(N':List Str)(KS':List NameKind)(fm:List (Nat×Nat))(gi:List Nat)(chk:yK scope N' KS' fm N KS gi=true)(hi:SpI F tg iter Wi)
  (ht:∀Cad,FnW (cFm F scope N' Cad) KS' (k8 gi)->SpA (cFm F scope N' Cad) tg Wt) (hc:∀Cad,FnW (cFm F scope N' Cad) KS' (k8 gi)->On (cFm F scope N' Cad) ifs Wc) (he:∀Cad,FnW (cFm F scope N' Cad) KS' (k8 gi)->Sp (cFm F scope N' Cad) elt We) (hs:∀x,foldedSetIterable iter F.env x=pure x)
  (hsw:(npos.line==pos.line&& !(scope.names.any fun(m,kd)=>m==n&&(kd==.local||kd==.cell)))=true):
  SpS F (.Assign [.Name n npos] (.ListComp elt [⟨tg,iter,ifs,0⟩] scope pos) spos) (UY i (qC fm Wi Wt Wc We)):=
 have co:=OL k T hN chk
 jaL k i hNi hK co.1 hi (fun Cad=>ht Cad (co.2 Cad)) (fun Cad=>hc Cad (co.2 Cad)) (fun Cad=>he Cad (co.2 Cad)) hs (VM k.toFnOk (k.kinds i n _ hNi hK) hsw)
end
end
section
section
variable {prog:Program} {w:World} {A:Around} {E:Value->Shared->Prop} {s:Shared} {K:Frag} {a:Addr} {o:Obj}
theorem vN{n:Str}{id:String}{B:Builtin}{nm:String}{rest:List Value}{Q:Option Value->Shared->Prop}(m:kX K)(X:K.In s.heap)(ho:s.heap.get? a=some o)(hc:o.cls=.ref jn)(hm:(n,id)∈KP)
  (hk:builtinKind id=some .slot) (hs:splitId id=some ("tuple",nm)) (hp:plainId id=true) (he:entryFor table id=some B) (ha:argsOk id ⟨.ref a::rest,[]⟩) (hb:∀v,bindSpecial (.builtin id) v=pure (.builtin id,[v]))
  (h:wpAny (model prog w) A.in1 (B ⟨.ref a::rest,[]⟩) (fun fin s'=>∃v,fin=.done (.ret v)∧Q (some v) s') E s):wpAny (model prog w) A (callSpecial? (.ref a) n rest) Q E s:=by
 refine wpAny_bind ((qR (M:=model prog w) m X ho hc hm).here ?_)
 simp only[hb]
 exact wpAny_holding (wpAny_bind (wpAny_pure (wpAny_bind (wpAny_mono (KG m X ho hc hk hs hp he ha h) (fun v s' h'=>wpAny_pure h') fun _ _ h'=>h'))))
theorem mat_len{xs:Array Value}{n:Nat}{Q:Value->Shared->Prop}(m:kX K)(X:K.In s.heap)(ho:s.heap.get? a=some o)(hc:o.cls=.ref jn)(hd:o.data=.seq xs n)(hfit:(xs.size:Int)<2^62)
  (h:∀t k,s.toks≤k->Q (.int xs.size t) {s with toks:=k}):wpAny (model prog w) A (call (.builtin "len") [.ref a]) Q E s:=by
 refine call_function_entry kind_len plain_len entry_len (args_len1 _) ?_
 refine wpAny_bind (m:=oneArg "len" _) (wpAny_pure ?_)
 refine wpAny_bind (m:=callSpecial? (.ref a) (Str.ofString "__len__")) (vN m X ho hc (n:=Str.ofString "__len__") (id:= "tuple.__len__") (by simp[KP]) (by decide+kernel) (nm:= "__len__") (by decide+kernel) PySem.F.slot_tuple_len.plain PySem.F.entry_tuple_len (PySem.F.args_tuple_len_1 _) PySem.F.slot_tuple_len.bind ?_)
 show wpAny _ _ (do retInt (←Builtin.Tuple.tupleItemsOf (.ref a)).size) _ _ s
 refine wpAny_bind (yk ho hd ?_)
 refine wpAny_bind (wpAny_mkInt (wpAny_pure ⟨_,rfl,?_⟩))
 refine wpAny_bind (wpAny_holding (m:=asIndex (.int xs.size s.toks)) (wpAny_pure ?_))
 refine wpAny_bind (wpAny_letGo ?_)
 rw[if_neg (by lia),if_neg (by lia)]
 exact wpAny_bind (wpAny_mkInt (wpAny_pure ⟨_,rfl,h _ _ (Nat.le_succ_of_le (Nat.le_succ _))⟩))
theorem jbB{xs:Array Value}{n:Nat}{t:Tok}{x:Value}{Q:Value->Shared->Prop}(m:kX K)(dq:mroIn K jn (.type "collections.deque")=some false)(X:K.In s.heap)(ho:s.heap.get? a=some o)(hc:o.cls=.ref jn)(hd:o.data=.seq xs n)(hx:(seqIndex? (-1) xs.size).bind (xs[·]?)=some x)
  (h:Q x s):wpAny (model prog w) A (getItem (.ref a) (.int (-1) t)) Q E s:=by
 refine wpAny_holding ?_
 refine wpAny_bind (m:=sequenceKey (.ref a) (.int (-1) t) "__getitem__") ?_
 ·delta sequenceKey
  refine wpAny_bind ((wx (M:=model prog w) ho hc).here ?_)
  refine wpAny_bind ?_
  refine wpAny_bind ((looks_mroIn (M:=model prog w) X dq).here ?_)
  refine wpAny_pure ?_
  refine wpAny_pure ?_
  refine wpAny_bind (vN m X ho hc (n:=Str.ofString "__getitem__") (id:= "tuple.__getitem__") (by simp[KP]) (by decide+kernel) (nm:= "__getitem__") (by decide+kernel) PySem.F.slot_tuple_getitem.plain PySem.F.entry_tuple_getitem (PySem.F.args_tuple_getitem_2 _ _) PySem.F.slot_tuple_getitem.bind ?_)
  refine wpAny_bind (m:=Builtin.Tuple.tupleItemsOf (.ref a)) (yk ho hd ?_)
  refine wpAny_bind (m:=typeOf (.int (-1) t)) (wpAny_pure ?_)
  refine wpAny_bind (m:=specialOf (.int (-1) t) (Str.ofString "__index__")) (wpAny_specialOf (typeIs_int s (-1) t) PySem.F.slot_int_index.lookup ?_)
  refine wpAny_bind (m:=asIndex (.int (-1) t)) (wpAny_pure ?_)
  show wpAny _ _ (match (seqIndex? (-1) xs.size).bind (xs[·]?)with
   |some x=>ret x
   |none=>_) _ _ s
  exact hx▸(wpAny_pure ⟨_,rfl,wpAny_pure h⟩)
end
end
section
theorem Rel.putExt(R:Rel C env N loc Z h)(ha:Z a=some o)(x:∀b ob,b≠a->h.h.get? b=some ob->h'.h.get? b=some ob)(t:qK h.T h'.T)(ho:OR C.prog C.w h' o a):Rel C env N loc Z h':=by
 have hd:dom Z a:=by delta dom;rw[ha];simp
 have hL:env.locals≠a:=by rintro rfl;exact kH R.offS ha
 have im:Imm h h':=R.imm (fun b ob hb e=>x b ob (fun q=>hb (.inr (q▸hd))) e) t
 refine jp (fun m hn hm=> ?_) R.ns
 refine ⟨⟨fun b ob e=>x b ob ?_ (R.hr.top b ob e),fun b ob e=> ?_,R.hr.off,R.hr.tk.trans t⟩,⟨m,hn.at' fun ob=>x _ ob hL,fun i y v e l=>(hm i y v e l).imm im⟩,R.offS,R.offK⟩
 ·rintro rfl;rw[R.hr.off b hd]at e;cases e
 ·by_cases hb:b=a
  ·subst hb;cases ha.symm.trans e;exact ho
  ·exact (R.hr.obj b ob e).imm im fun o' q=>x b o' hb q
noncomputable abbrev Tri:=Int×Int×Int
noncomputable def ko(t:Tri):AV:=.mat [.int t.1,.int t.2.1,.int t.2.2]
def qSumM(l c:Nat)(Wf Wi:WE):WE:=fun loc Z Ψ=>Wf loc Z fun f Z0=>f=.bi .sum∧Wi loc Z0 fun v Zw1=>∃(a:Addr) (ts:List Tri),v=.ref a∧Zw1 a=some (.list (ts.map ko))∧ts.length≤1000∧(∀t∈ts,0≤t.2.2∧t.2.2≤1000)∧Zw1 248=some (.tab l c)∧Ψ (.int (ts.map (·.2.2)).sum) Zw1
section
variable {F:Fm} {KS:List NameKind} {GT:List (Str×AV)}
theorem mat_at{g:Gh}{ts:List Tri}{vs:List Value}(h:VRs g (ts.map ko) vs){i:Nat}{v:Value}(e:vs[i]? =some v):∃t ad o xs n tk,ts[i]? =some t∧v=.ref ad∧g.h.get? ad=some o∧o.cls=.ref jn∧o.data=.seq xs n∧(seqIndex? (-1) xs.size).bind (xs[·]?)=some (.int t.2.2 tk):=by
 refine kg (fun hlt e=> ?_) (List.getElem?_eq_some_iff.mp e)
 refine kg (fun h2 hv=> ?_) (h.get i hlt)
 rw[e]at hv
 have h3:i<ts.length:=by simpa using h2
 refine ⟨ts[i],?_⟩
 rw[List.getElem_map]at hv
 delta ko at hv
 refine UN ?_ hv;rintro ad o xs n rfl ho hc hd hx
 obtain ⟨v1,v2,v3,e1,⟨t1,rfl⟩,⟨t2,rfl⟩,⟨t3,rfl⟩⟩:=hx.three
 have hs:xs= #[.int ts[i].1 t1,.int ts[i].2.1 t2,.int ts[i].2.2 t3]:=Array.toList_inj.mp e1
 exact ⟨ad,o,xs,n,t3,List.getElem?_eq_getElem h3,rfl,ho,hc,hd,by rw[hs];rfl⟩
theorem mat_sub{prog:Program}{w:World}{A:Around}{E:Value->Shared->Prop}{s:Shared}{K:Frag}{a:Addr}{o:Obj}{value slice:PySem.Expr}{xs:Array Value}{n:Nat}{t:Tok}{x:Value}{Q:Value->Shared->Prop}(m:kX K)(dq:mroIn K jn (.type "collections.deque")=some false)(X:K.In s.heap)(ho:s.heap.get? a=some o)(hc:o.cls=.ref jn)(hd:o.data=.seq xs n)(hx:(seqIndex? (-1) xs.size).bind (xs[·]?)=some x)
  (h:Q x s):wpAny (model prog w) A (subscriptTail value slice (.ref a) (.int (-1) t)) Q E s:=by
 refine kg (fun ops e=> ?_) (X5 slice (.ref a) (.int (-1) t))
 delta subscriptTail
 refine wpAny_bind ?_
 rw[getitemInPython_of_ne (o:=.ref a) (by simp)]
 refine wpAny_bind ((qR (M:=model prog w) m X ho hc (name:=Str.ofString "__getitem__") (id:= "tuple.__getitem__") (by simp[KP])).here ?_)
 refine wpAny_pure (wpAny_bind ?_)
 rw[e]
 exact wpAny_operating (jbB m dq X ho hc hd hx (wpAny_bind (wpAny_letTemporaryGo (wpAny_pure h))))
theorem mat_elt{prog:Program}{w:World}{A:Around}{E:Value->Shared->Prop}{s:Shared}{K:Frag}{a:Addr}{o:Obj}{xs:Array Value}{n k:Nat}{x:Value}{y:Str}{p1 p2 p3 p4:Pos}{env:Env}{mw2:Str->Option Value}{Q:Value->Shared->Prop}(m:kX K)(dq:mroIn K jn (.type "collections.deque")=some false)(X:K.In s.heap)(ho:s.heap.get? a=some o)(hc:o.cls=.ref jn)(hd:o.data=.seq xs n)(hx:(seqIndex? (-1) xs.size).bind (xs[·]?)=some x)
  (hk:env.scope.kind=.function) (hl:env.kindOf y=some .local) (hn:s.heap.Ns env.locals mw2) (hv:mw2 y=some (.ref a)) (hy:(y==("__debug__" :Str))=false) (h:Q x {s with toks:=s.toks+1+1}):
  wpAny (model prog w) A (eval (.Subscript (.Name y p1) (.UnaryOp .USub (.Constant (.int 1) k p2) p3) p4) env) Q E s:=
 Subscript_ (wpAny_Name (wpAny_loadName_local hk hl hn hv (wpAny_UnaryOp (wpAny_Constant_int (PyProof.Rows.neg_int (mat_sub m dq X ho hc hd hx h))))) hy)
theorem jcx(X:PC C)(K:C.K.In h)(ho:h.get? 248=some {cls:=.none,data:=.fields ps})(hp:ps= #[]∨∃c',ps= #[rawInt l,rawInt c,.ref c']):h.IsCode 252 248 ps∧h.TableAt 252 248 ps:=by
 obtain ⟨o,vs,file,tf,flags,tg,inF,text,tt,h1,h2,h3,h4,h5,h6,h7,h8⟩:=X.c252
 have h4':vs.getD 11 .none=.ref 248:=by rw[Array.getD_eq_getD_getElem?,h4];rfl
 refine ⟨⟨o,vs,file,tf,flags,tg,inF,text,tt,_,K _ _ h1,h3,h4',h5,h6,h7,h8,ho,rfl,?_,by decide⟩,⟨o,vs,K _ _ h1,h2,h3,h4⟩,ho⟩
 rcases hp with rfl|⟨c',rfl⟩
 ·trivial
 ·simp[TriplesOk,rawInt]
theorem q_sumM{x y:Str}{np p1 p2 p3 p4 p5 gpos pos:Pos}{k:Nat}{iter:PySem.Expr}{scope:Scope}{Wf Wi:WE}(T:zx F)(hcode:F.env.code=.ref 252)(hlv:1≤F.lv)
  (hsc:(!scope.isCoroutine&&scope.names.all (fun p=> !(p.2==.cell)&& !(p.2==.free))&&scope.names.lookup (".0" :Str)==some NameKind.local&&scope.names.lookup y==some NameKind.local&&scope.kind==.function&& !(y==("__debug__" :Str)))=true)
  (hs:∀x,genFold iter F.env x=pure x) (hf:Sp F (.Name x np) Wf) (hi:Sp F iter Wi):
  Sp F (.Call (.Name x np) [.GeneratorExp (.Subscript (.Name y p1) (.UnaryOp .USub (.Constant (.int 1) k p2) p3) p4) [⟨.Name y p5,iter,[],0⟩] scope gpos] [] pos) (qSumM gpos.line gpos.col Wf Wi):=fun loc Z z Ψ R tk h Q E q=>by
 simp only[Bool.and_eq_true,Bool.not_eq_true',beq_iff_eq]at hsc
 refine kC ?_ hsc;rintro ⟨⟨⟨⟨c1,c2⟩,c3⟩,c4⟩,c5⟩ c6
 have hcell:∀p∈scope.names,p.2≠.cell:=fun p hp=>by
  have:=List.all_eq_true.mp c2 p hp;intro e;rw[e]at this;simp at this
 have hfree:∀n,(n,NameKind.free)∉scope.names:=fun n hn=>by
  have:=List.all_eq_true.mp c2 _ hn;simp at this
 have hroom:F.A.depth<recursionLimit:=by have:=F.hd;have:(500:Nat)<recursionLimit:=(by decide);lia
 refine wpAny_Call_ofName (hf _ _ _ _ R tk h _ E fun f Z0 fv z₀ p Rw0 sw0 tkw0 v0=> ?_)
 refine kC ?_ p;rintro rfl p
 subst v0
 refine callWith_kw (he:=rfl) (hplain:=rfl) (hall:=rfl) (hkw:=rfl) ?_
 refine Calls.spliced_cons ?_
 refine wpAny_GeneratorExp_make c1 (KB fun n hn=>absurd hn (hfree n)) hcell c3 c5 hroom ?_ hs
 refine hi _ _ _ _ Rw0 tkw0 p _ _ fun v Zw1 cv zw1 p Rw1 sw1 tkw1 vw1=> ?_
 refine x2_6 ?_ p;rintro a ts rfl ha hlen hfit htab hΨ
 subst vw1
 refine ky (fun vs nn ho hv=> ?_) (Rw1.hr.obj a _ ha)
 have hvl:=hv.length
 simp only[Array.length_toList,List.length_map]at hvl
 refine wpAny_pyIter_list ⟨_,ho,rfl,nn,rfl⟩ ?_
 have haI:a<zw1.s.heap.objs.size:=Heap.lt_size ho
 let I:=zw1.s.heap.objs.size
 let zw2:St:=⟨{zw1.s with heap:=zw1.s.heap.push {cls:=.type "list_iterator",data:=.fields #[.ref a,.int 0 0]}},zw1.T⟩
 have xw2:Ext zw1.s.heap zw2.s.heap:=Ext.push _ _
 have Rw2:F.Rel loc Zw1 zw2.g:=Rw1.ext xw2 (.refl _)
 refine jp (fun ps hop hps=> ?_) (Rw2.hr.obj 248 _ htab)
 refine kC (fun hcode2 htab2=> ?_) (jcx T.X Rw2.hr.top hop hps)
 have hlim:∀{h:Heap},F.C.K.In h->h.NoLimit:=fun X=>F.C.nol _ X
 have h248:248<zw1.s.heap.objs.size:=by
  refine jp (fun ps' hop' _=> ?_) (Rw1.hr.obj 248 _ htab)
  exact Heap.lt_size hop'
 have d248:dom Zw1 248:=by delta dom;rw[htab];simp
 refine ⟨hlim Rw2.hr.top,?_⟩
 --behind the code object
 have rest:∀(Ew1:Value->Shared->Prop) (code:Value) (h₃:Heap) (tk3:Nat),zw1.s.toks≤tk3->(∀b ob,b≠248->zw2.s.heap.get? b=some ob->h₃.get? b=some ob)->zw2.s.heap.objs.size≤h₃.objs.size->OR F.C.prog F.C.w ⟨h₃,zw1.T⟩ (.tab gpos.line gpos.col) 248->
   wpAny F.M F.A (builtinsFor F.env.globals F.env.builtins) (fun bi s4=>∀h',h'.Ns s4.heap.objs.size (fun y=>if y= ".0" then some (.ref zw1.s.heap.objs.size)else none)->Heap.SameBut s4.heap.objs.size (s4.heap.push {cls:=.type "frame",data:=.dict #[]}) h'->
     wpAny F.M F.A (spliced (backTo pos (starEach [] F.env))) (fun vs sw2=>wpAny F.M F.A (evalAll ((backToKw pos (keywordEach [] F.env)).map (·.2)))
       (fun kvs sw2=>wpAny F.M F.A (call (.builtin "sum") (.ref h'.objs.size::vs) (((backToKw pos (keywordEach [] F.env)).filterMap (·.1)).zip kvs)) Q E sw2) E sw2) E {s4 with
      gens:=s4.gens.push (.fresh (.compStart (.GeneratorExp (.Subscript (.Name y p1) (.UnaryOp .USub (.Constant (.int 1) k p2) p3) p4) [⟨.Name y p5,iter,[],0⟩] scope gpos) 0 (.ref zw1.s.heap.objs.size) .none (genEnv scope (vE F.env scope.names []) s4.heap.objs.size code bi F.env))),
      toks:=s4.toks+1+1+1,
      heap:=h'.push {cls:=.type "generator",data:=.fields #[.int s4.gens.size 0,.str "<genexpr>" (s4.toks+1),.str (F.env.qual++ "<genexpr>") (s4.toks+1+1)]}}) Ew1 {zw1.s with heap:=h₃,toks:=tk3}:=fun Ew1 code h₃ tk3 htk3 xw3 hsz3 hor3=>by
  haveI Rw3:F.Rel loc Zw1 ⟨h₃,zw1.T⟩:=Rw2.putExt (h':=⟨h₃,zw1.T⟩) htab xw3 (.refl _) hor3
  rw[T.g,T.b]
  refine (T.X.bfor F.M h₃ Rw3.hr.top).here ?_
  haveI hz2:zw2.s.heap.objs.size=I+1:=Heap.size_push _ _
  have hIlt:I<h₃.objs.size:=by lia
  have ho3:h₃.get? a=some {cls:=.type "list",data:=.seq vs nn}:=by
   refine xw3 _ _ ?_ (xw2 _ _ ho)
   rintro rfl;cases htab.symm.trans ha
  have hI3:h₃.IsListIter I a 0:=by
   refine jp (fun ob e1 e2=> ?_) (⟨_,Heap.get?_push_size _ rfl,rfl,rfl⟩:zw2.s.heap.IsListIter I a 0)
   exact ⟨ob,xw3 _ _ (Nat.ne_of_gt h248) e1,e2⟩
  have hstat:cStatics<zw1.s.heap.objs.size:=by
   refine jp (fun _ hn _=> ?_) (hlim Rw1.hr.top);exact hn.lt
  haveI hclt:cStatics<h₃.objs.size:=Nat.lt_trans hstat hIlt
  intro h' hn' hs'
  dsimp only at hn' hs'⊢
  have hsz:h'.objs.size=h₃.objs.size+1:=by rw[hs'.1,Heap.size_push]
  have hsub:∀b∈[I],b∈List.range h₃.objs.size:=fun b hb=>by
   rw[List.mem_singleton]at hb;subst hb;exact List.mem_range.mpr hIlt
  have keep5:∀b o,h₃.get? b=some o->(h'.push {cls:=.type "generator",data:=.fields #[.int zw1.s.gens.size 0,.str "<genexpr>" (tk3+1),.str (F.env.qual++ "<genexpr>") (tk3+1+1)]}).get? b=some o:=
   fun b o e=>Heap.get?_push_of_some _ ((fun b o e=>hs'.extBut b o (Nat.ne_of_lt (Heap.lt_size e)) (Heap.get?_push_of_some _ e)) b o e)
  let F':Nat->Value->Prop:=fun i y=>∃t,y=.int ((ts.map (·.2.2)).getD i 0) t
  haveI Ww0:∀A':Around,A'.handled=none->Walks F.C.prog F.C.w A' I [I,a] [I] vs.size (fun i v=>vs[i]? =some v) (fun i h=>h.IsListIter I a i∧h.IsList a vs):=fun A' hA=>Walks.list hA I a (Nat.ne_of_lt haI) vs
  have hfp:∀b∈[I,a],b∈List.range h₃.objs.size:=fun b hb=>by
   simp only[List.mem_cons,List.not_mem_nil,or_false]at hb
   rcases hb with rfl|rfl
   ·exact List.mem_range.mpr hIlt
   ·exact List.mem_range.mpr (Nat.lt_trans haI hIlt)
  have hq:∀href:Heap,(∀b o,h₃.get? b=some o->href.get? b=some o)->QuietGenD F.C.prog F.C.w (genEnv scope (vE F.env scope.names []) h₃.objs.size code builtinsNs F.env) y [] (.Subscript (.Name y p1) (.UnaryOp .USub (.Constant (.int 1) k p2) p3) p4) (List.range h₃.objs.size) [I] (fun i v=>vs[i]? =some v) (fun _=>true) F' href (F.A.depth+1) (F.A.units+8):=fun href hh=>by
   refine ⟨fun A' E' i v sw2 mw2 hA _ _ hP hn hm hk=>wpAny_pure ⟨rfl,_,_,rfl,fun _ _ e=>e⟩,fun A' E' i v sw2 mw2 hA _ _ hP _ hn hm hk=> ?_⟩
   have hkeep:∀b ob,b≠I->h₃.get? b=some ob->sw2.heap.get? b=some ob:=fun b ob hb e=>hk b (List.mem_range.mpr (Heap.lt_size e)) (by simpa using hb) ob (hh _ _ e)
   have XK:F.C.K.In sw2.heap:=fun b ob e=>hkeep b ob (fun q=>by
    have:=Rw1.hr.top b ob e
    subst q
    exact absurd (Heap.lt_size this) (Nat.lt_irrefl _)) (Rw3.hr.top b ob e)
   refine x6_6 ?_ (mat_at (VRs.imm (Rw1.imm (h':=⟨h₃,zw1.T⟩) (fun b ob hb e=>xw3 b ob (fun q=>hb (.inr (q▸d248))) (xw2 _ _ e)) (.refl _)) hv) (i:=i) (v:=v) (by simpa using hP));rintro t ad oo xs n tt e1 rfl e3 e4 e5 e6
   have hne:ad≠I:=by
    rintro rfl
    refine jX (fun ob q1 q2 _=> ?_) hI3
    cases q1.symm.trans e3;cases q2.symm.trans e4
   refine mat_elt T.X.mat T.X.deq XK (hkeep _ _ hne e3) e4 e5 e6 c5 c4 hn hm c6 ⟨⟨tt,?_⟩,_,_,rfl,fun _ _ e=>e⟩
   simp[e1]
  have W:=WalksS.genexpQ (prog:=F.C.prog) (w:=F.C.w) (A:=F.A.in4) F.hh h'.objs.size zw1.s.gens.size h₃.objs.size (List.range h₃.objs.size) [I] (fun _=>true) vs.size F' (by rw[hsz];exact Nat.succ_ne_self _) (fun hm=>by have:=List.mem_range.mp hm;lia) hsub hroom (List.mem_range.mpr hclt) (Nat.ne_of_lt hclt) (fun hm=>absurd (List.mem_singleton.mp hm) (Nat.ne_of_lt hstat))
  have hat:=GenAt.freshD (prog:=F.C.prog) (w:=F.C.w) (A:=F.A.in4) (s:={zw1.s with heap:=h'.push {cls:=.type "generator",data:=.fields #[.int zw1.s.gens.size 0,.str "<genexpr>" (tk3+1),.str (F.env.qual++ "<genexpr>") (tk3+1+1)]},toks:=tk3+1+1+1,gens:=zw1.s.gens.push (.fresh (.compStart (.GeneratorExp (.Subscript (.Name y p1) (.UnaryOp .USub (.Constant (.int 1) k p2) p3) p4) [⟨.Name y p5,iter,[],0⟩] scope gpos) 0 (.ref I) .none (genEnv scope (vE F.env scope.names []) h₃.objs.size code builtinsNs F.env)))}) (cenv:=genEnv scope (vE F.env scope.names []) h₃.objs.size code builtinsNs F.env) (m:=fun y=>if y= ".0" then some (.ref I)else none) F.hh
   (fun A' hA=>(Ww0 A' hA).mono_fp hfp) (fun _=>true) F' c4 (by simp[genEnv,c5]) c1
   (fun hm=>Nat.lt_irrefl _ (List.mem_range.mp hm)) (hq _ keep5) ⟨_,_,_,Heap.get?_push_size _ rfl,rfl,rfl,rfl⟩ (Array.getElem?_push_size ..) ((Ww0 F.A F.hh).frame _ _ _ (⟨hI3,⟨_,ho3,rfl,nn,rfl⟩⟩) fun b _ o e=>keep5 b o e) (hn'.push _) ((hlim Rw3.hr.top).keeps keep5)
  refine Calls.spliced_nil (kws_nil ?_)
  have hpass:passing (fun _=>true) vs.size 0=List.range vs.size:=by simp[passing]
  rw[hpass]at W
  have W1:=W.in4_1
  have hlen5:(h'.push {cls:=.type "generator",data:=.fields #[.int zw1.s.gens.size 0,.str "<genexpr>" (tk3+1),.str (F.env.qual++ "<genexpr>") (tk3+1+1)]}).objs.size=h'.objs.size+1:=Heap.size_push _ _
  refine call_sum_walkS (W1.self 0 _ _ _ hat ⟨h'.objs.size,_,_,_,_,_,_,fun i=>(ts.map (·.2.2)).getD i 0,rfl,W1,hat,?_,?_,?_,fun s' t' hm=> ?_⟩)
  ·intro b hb
   rw[hlen5]
   rcases List.mem_cons.mp hb with rfl|hb
   ·exact Nat.lt_succ_self _
   ·rcases List.mem_cons.mp hb with rfl|hb
    ·exact Nat.lt_succ_of_lt (hsz▸Nat.lt_succ_self _)
    ·exact Nat.lt_succ_of_lt (hsz▸Nat.lt_succ_of_lt (List.mem_range.mp hb))
  ·rintro j v ⟨i,hi,hv⟩
   rw[List.getElem?_eq_some_iff]at hi
   refine kg (fun hj hi=> ?_) hi
   rw[List.getElem_range]at hi;subst hi;exact hv
  ·intro j hj
   have hj':j<(ts.map (·.2.2)).length:=by simpa[hvl]using hj
   have:=sumFits_small (l:=ts.map (·.2.2)) (fun x hx=>by
    refine jp ?_ (List.mem_map.mp hx);rintro t ht rfl
    have:=hfit t ht
    constructor<;>lia) (by simp;lia) j hj'
   rw[preSum_getD];exact this
  ·have hsum:preSum (fun i=>(ts.map (·.2.2)).getD i 0) (List.range vs.size).length=(ts.map (·.2.2)).sum:=by
    rw[preSum_getD,List.take_of_length_le (by simp[hvl])]
   rw[hsum]
   have hold:∀b ob,b≠248->zw1.s.heap.get? b=some ob->s'.heap.get? b=some ob:=fun b ob hb e=>by
    have hlt:=Heap.lt_size e
    refine hm.heap b ob (fun hmem=> ?_) (keep5 _ _ (xw3 _ _ hb (xw2 _ _ e)))
    rcases List.mem_cons.mp hmem with q|q
    ·exact absurd (q▸hlt:h₃.objs.size<zw1.s.heap.objs.size) (Nat.not_lt.mpr (Nat.le_of_lt hIlt))
    ·rw[List.mem_singleton]at q;subst q;exact Nat.lt_irrefl _ hlt
   have hor:OR F.C.prog F.C.w ⟨s'.heap,zw1.T⟩ (.tab gpos.line gpos.col) 248:=by
    refine jp (fun ps' q1 q2=> ?_) hor3
    refine ⟨ps',hm.heap _ _ (fun hmem=> ?_) (keep5 _ _ q1),q2⟩
    rcases List.mem_cons.mp hmem with q|q
    ·exact absurd q (Nat.ne_of_lt (Nat.lt_trans h248 hIlt))
    ·rw[List.mem_singleton]at q;exact absurd q (Nat.ne_of_lt h248)
   have hlt5:tk3+1+1+1≤s'.toks:=hm.toks
   have R6:F.Rel loc Zw1 (⟨s',zw1.T⟩:St).g:=Rw1.putExt (h':=⟨s'.heap,zw1.T⟩) htab hold (.refl _) hor
   refine q (.int (ts.map (·.2.2)).sum) Zw1 _ ⟨s',zw1.T⟩ hΨ R6 ((sw0.trans sw1).trans ⟨fun b ob hb e=>hold b ob (fun h=>hb (.inr (h▸d248))) e,fun b ob e=> ?_,fun _ d n=>absurd n d,hm.os,by show zw1.s.toks≤s'.toks;lia,fun g=> ?_,.refl _⟩) ⟨?_,fun t ht=>tkw1.new t ?_⟩ kQ
   ·by_cases h:b=248
    ·subst h;refine jp (fun ps' q1 _=> ?_) hor;rw[q1];simp
    ·rw[hold b ob h e];simp
   ·exact AllBare.movedS (g.push rfl) hm
   ·have:=tkw1.pos;show 0<s'.toks;lia
   ·have:s'.toks≤t:=ht
    lia
 refine wpAny_with_toks (Nat.le_refl zw1.s.toks) ?_
 rcases hps with rfl|⟨c',rfl⟩
 ·refine wpAny_genexprCodeX hcode hcode2 htab2 rfl fun c' h₃ tk3 hx hge hlt hc3 _ ht3 _ htk=>rest _ _ h₃ tk3 htk (fun b ob hb e=>hx b ob hb e) (Nat.le_trans hge (Nat.le_of_lt hlt)) ⟨_,ht3.2,.inr ⟨c',by simp⟩⟩
 ·refine wpAny_genexprCode_hit hcode hcode2 (c':=.ref c') (by simp[codeAmong,rawInt]) fun htk=>rest _ _ zw2.s.heap zw1.s.toks htk (fun b ob hb e=>e) (Nat.le_refl _) ⟨_,hop,.inr ⟨c',rfl⟩⟩
end
end
section
theorem KY:Slot "map" "__init__" "object.__init__" :=
 .of (owner:= "object") (n:= "__init__") (by kernel_rfl) (by decide+kernel) (by decide+kernel) (by decide+kernel)
  (by first|exact .inl (by decide+kernel)|exact .inr (by decide+kernel)) (by kernel_rfl)
theorem wT:Slot "map" "__iter__" "map.__iter__" :=
 .of (owner:= "map") (n:= "__iter__") (by kernel_rfl) (by decide+kernel) (by decide+kernel) (by decide+kernel)
  (by first|exact .inl (by decide+kernel)|exact .inr (by decide+kernel)) (by kernel_rfl)
theorem qn:Slot "map" "__next__" "map.__next__" :=
 .of (owner:= "map") (n:= "__next__") (by kernel_rfl) (by decide+kernel) (by decide+kernel) (by decide+kernel)
  (by first|exact .inl (by decide+kernel)|exact .inr (by decide+kernel)) (by kernel_rfl)
theorem Kw:entryFor table "map.__iter__" =some Builtin.«dict_keyiterator.__iter__» :=
 entryFor_alias (id':= "dict_keyiterator.__iter__") (by kernel_rfl) (by first|rfl|decide+kernel|(delta String.splitOn;simp+decide [String.splitOnAux])) (by decide+kernel) (by kernel_rfl)
theorem wC:entryFor table "map.__next__" =some Builtin.«map.__next__» :=entryFor_of_tree (by kernel_rfl)
theorem Oi:entryFor table "map.__new__" =some Builtin.«map.__new__» :=entryFor_of_tree (by kernel_rfl)
theorem Ol(a:Value):argsOk "map.__iter__" ⟨[a],[]⟩:=by delta argsOk;kernel_rfl
theorem wW(a:Value):argsOk "map.__next__" ⟨[a],[]⟩:=by delta argsOk;kernel_rfl
theorem Yo:mroOf (.type "map")=pure [.type "map",.type "object"]:=by kernel_rfl
theorem Kg:typeLookup (.type "map") "__new__" =pure (some (.builtin "map.__new__")):=by kernel_rfl
theorem Xl:TypeCalled "map" "map.__new__" "object.__init__" :=
 ⟨by decide+kernel,by decide+kernel,⟨_,_,Yo⟩,madeBy_type Yo Kg (by decide+kernel),by decide+kernel,by kernel_rfl,KY⟩
theorem OX(a b:Value):checkTypeCall "map" ⟨[a,b],[]⟩=pure ():=by kernel_rfl
theorem U9(a b:Value):checkBuiltinCall "map.__new__" ⟨[.type "map",a,b],[]⟩=pure ():=by kernel_rfl
theorem V4:typeLookup (.type "map") "__len__" =pure none:=by kernel_rfl
theorem Vg:typeLookup (.type "map") "__length_hint__" =pure none:=by kernel_rfl
noncomputable abbrev OO(h:Heap)(M T:Addr)(f:Value):Prop:=h.get? M=some {cls:=.type "map",dict:=none,data:=.fields #[.ref T,f],slots:= #[]}
section
variable {prog:Program} {w:World} {A:Around} {E:Value->Shared->Prop} {s:Shared}
theorem jcD{Q:Value->Shared->Prop}(hl:s.heap.IsList l items)
  (h:∀h',Ext s.heap h'->s.heap.get? s.heap.objs.size=none->h'.IsListIter s.heap.objs.size l 0->h'.get? (s.heap.objs.size+1)=some {cls:=.type "tuple",data:=.seq #[.ref s.heap.objs.size]}->OO h' (s.heap.objs.size+2) (s.heap.objs.size+1) f->Q (.ref (s.heap.objs.size+2)) {s with heap:=h'}):
  wpAny (model prog w) A (call (.type "map") [f,.ref l]) Q E s:=by
 let it:Obj:={cls:=.type "list_iterator",data:=.fields #[.ref l,.int 0 0]}
 let h1:=s.heap.push it
 let h2:=h1.push {cls:=.type "tuple",data:=.seq #[.ref s.heap.objs.size]}
 let h3:=h2.push {cls:=.type "map",data:=.fields #[.ref (s.heap.objs.size+1),f]}
 haveI z1:h1.objs.size=s.heap.objs.size+1:=Heap.size_push _ _
 have z2:h2.objs.size=s.heap.objs.size+2:=by rw[Heap.size_push,z1]
 have mt:Meets (Builtin.«map.__new__» ⟨[.type "map",f,.ref l],[]⟩) (fun _ R s'=>s'=s∧R (.ok (.ret (.ref (s.heap.objs.size+2)))) {s with heap:=h3}):=by
  refine Meets.of_wp fun prog w A R s' hs=> ?_
  obtain ⟨rfl,hr⟩:=hs
  show wpAny _ _ (do
   let its←Builtin.SmallTypes.iterAll [.ref l]
   ret (←Builtin.SmallTypes.newRecord (.type "map") [←newTuple its,f])) _ _ s'
  refine wpAny_bind ?_
  refine wpAny_bind ?_
  rw[List.forIn_cons]
  refine wpAny_bind (wpAny_bind (wpAny_holding (wpAny_pyIter_list hl (wpAny_pure ?_))))
  refine wpAny_pure (wpAny_pure ?_)
  refine wpAny_bind (wpAny_newTuple ?_ (Nat.le_of_ble_eq_true rfl))
  refine wpAny_bind ?_
  show wpAny _ _ (newObj (.type "map") (.fields #[_,f])) _ _ _
  refine wpAny_newObj_type (wpAny_pure ?_)
  refine ⟨_,rfl,?_⟩
  haveI e:(h1.push {cls:=.type "tuple",data:=.seq #[.ref s'.heap.objs.size]}).objs.size=s'.heap.objs.size+2:=z2
  haveI hr':R (.ok (.ret (.ref (s'.heap.objs.size+2)))) {s' with heap:=h3}:=hr
  show R (.ok (.ret (.ref (h1.push {cls:=.type "tuple",data:=.seq #[.ref s'.heap.objs.size]}).objs.size))) {s' with heap:=(h1.push {cls:=.type "tuple",data:=.seq #[.ref s'.heap.objs.size]}).push {cls:=.type "map",data:=.fields #[.ref h1.objs.size,f]}}
  rw[e,z1];exact hr'
 refine callType_new Xl rfl (OX _ _) (U9 _ _) (fun obj=>PySem.F.args_object_init_3 obj _ _) Oi mt ?_
 haveI hM:h3.get? (s.heap.objs.size+2)=some {cls:=.type "map",data:=.fields #[.ref (s.heap.objs.size+1),f]}:=z2.symm▸(Heap.get?_push_size _ rfl)
 refine ⟨rfl,⟨_,hM,rfl⟩,h h3 (((Ext.push _ _).trans (Ext.push _ _)).trans (Ext.push _ _)) (jB _) ⟨_,Heap.get?_push_of_some _ (Heap.get?_push_of_some _ (Heap.get?_push_size _ rfl)),rfl,rfl⟩ ?_ hM⟩
 refine Heap.get?_push_of_some _ ?_
 have:=Heap.get?_push_size h1 (o:={cls:=.type "tuple",data:=.seq #[.ref s.heap.objs.size]}) rfl
 rw[z1]at this;exact this
theorem jbD{Q:Option Value->Shared->Prop}(hM:OO s.heap M T (.ref B))(hT:s.heap.get? T=some {cls:=.type "tuple",data:=.seq #[.ref It]})(hit:s.heap.IsListIter It l i)(hl:s.heap.IsList l items)(hx:items[i]? =some x)(hMI:M≠It)
  (h:∀h',h'.IsListIter It l (i+1)->Heap.SameBut It s.heap h'->wpAny (model prog w) A.in1 (call (.ref B) [x]) (fun v s'=>Q (some v) s') (fun _ _=>False) {s with heap:=h'}):wpAny (model prog w) A (pyNext (.ref M)) Q E s:=by
 refine jX (fun o ho hc hd=> ?_) (id hit)
 obtain ⟨ol,hol,_,nl,hdl⟩:=hl
 refine wpAny_bind (wpAny_attempt (wpAny_callSpecial?_slot (name:=Str.ofString "__next__") ⟨_,hM,rfl⟩ qn
  (wpAny_call_entry qn ⟨_,hM,rfl⟩ wC ?_ (wW _))))
 show wpAny _ _ (field (.ref M) 0>>=_) _ _ s
 refine wpAny_bind (wpAny_field hM rfl (x:=.ref T) rfl ?_)
 refine wpAny_bind (wpAny_seqItems hT rfl ?_)
 dsimp only
 refine wpAny_bind ?_
 rw[←Array.forIn_toList,List.forIn_cons]
 refine wpAny_bind (wpAny_bind (wpAny_holding ?_))
 refine wpAny_bind (wpAny_callSpecial?_slot (name:=Str.ofString "__next__") hit.typeIs slot_listiter_next
  (wpAny_call_entry slot_listiter_next hit.typeIs entry_listiter_next ?_ (args_listiter_next _)))
 show wpAny _ _ (field (.ref It) 0>>=_) _ _ s
 refine wpAny_bind (wpAny_field ho hd (x:=.ref l) rfl ?_)
 refine wpAny_bind (wpAny_field ho hd (x:=.int i 0) rfl ?_)
 refine wpAny_bind (wpAny_seqItems hol hdl ?_)
 simp only[Int.toNat_natCast,hx]
 refine wpAny_bind (wpAny_setField ho hd (Nat.le_refl _) (wpAny_pure ⟨x,rfl,wpAny_pure (wpAny_pure ?_)⟩))
 refine wpAny_pure ?_
 have sb:=Heap.SameBut.update s.heap It (Obj.mapFields (·.setIfInBounds 1 (rawInt (i+1))))
 refine wpAny_bind (wpAny_field ((sb.2 M hMI).trans hM) rfl (x:=.ref B) rfl ?_)
 refine wpAny_bind (wpAny_holding (wpAny_mono (h _ ⟨_,Heap.get?_update_self _ ho (Obj.isFreed_of_fields (Obj.data_mapFields hd _)),(Obj.cls_mapFields ..).trans hc,by
  rw[Obj.data_mapFields hd];simp[rawInt]⟩ sb) (fun v s' hv=> ?_) fun _ _ e=>e.elim))
 exact wpAny_bind (wpAny_letGo (wpAny_pure ⟨v,rfl,wpAny_pure hv⟩))
theorem map_end{Q:Option Value->Shared->Prop}(hh:A.handled=none)(hM:OO s.heap M T (.ref B))(hT:s.heap.get? T=some {cls:=.type "tuple",data:=.seq #[.ref It]})(hit:s.heap.IsListIter It l i)(hl:s.heap.IsList l items)(hx:items[i]? =none)
  (hQ:∀h',Heap.ExtBut It s.heap h'->Q none {s with heap:=h'}):wpAny (model prog w) A (pyNext (.ref M)) Q E s:=by
 refine jX (fun o ho hc hd=> ?_) (id hit)
 obtain ⟨ol,hol,_,nl,hdl⟩:=hl
 refine wpAny_bind (wpAny_attempt (wpAny_callSpecial?_slot (name:=Str.ofString "__next__") ⟨_,hM,rfl⟩ qn
  (wpAny_call_entry qn ⟨_,hM,rfl⟩ wC ?_ (wW _))))
 show wpAny _ _ (field (.ref M) 0>>=_) _ _ s
 refine wpAny_bind (wpAny_field hM rfl (x:=.ref T) rfl ?_)
 refine wpAny_bind (wpAny_seqItems hT rfl ?_)
 dsimp only
 refine wpAny_bind ?_
 rw[←Array.forIn_toList,List.forIn_cons]
 refine wpAny_bind (wpAny_bind (wpAny_holding ?_))
 refine wpAny_bind (wpAny_callSpecial?_slot (name:=Str.ofString "__next__") hit.typeIs slot_listiter_next
  (wpAny_call_entry slot_listiter_next hit.typeIs entry_listiter_next ?_ (args_listiter_next _)))
 show wpAny _ _ (field (.ref It) 0>>=_) _ _ s
 refine wpAny_bind (wpAny_field ho hd (x:=.ref l) rfl ?_)
 refine wpAny_bind (wpAny_field ho hd (x:=.int i 0) rfl ?_)
 refine wpAny_bind (wpAny_seqItems hol hdl ?_)
 simp only[Int.toNat_natCast,hx]
 refine wpAny_bind (wpAny_rule (wpAny_bind (wpAny_setField ho hd (Nat.le_add_right _ _) ?_)))
 refine wpAny_bind ?_
 refine wpAny_bind (wpAny_newObj_type ?_ (by size_fits))
 refine wpAny_bind (m:=firstArgMember _ _) (wpAny_of_eq (a:=Value.none) (by first|rfl|(rfl)) ?_)
 refine wpAny_newObj_type ?_ (by size_fits)
 refine wpAny_bind (wpAny_handled ?_)
 rw[show A.in1.in1.handled=none from hh]
 refine wpAny_bind (wpAny_pure (wpAny_throw ?_))
 refine wpAny_bind (wpAny_isInstance (T:= "StopIteration") (b:=true) ⟨_,Heap.get?_push_size _ rfl,rfl⟩ isSubtype_stop ?_)
 exact wpAny_pure (hQ _ (((Heap.SameBut.update ..).extBut.push _).push _))
end
end
section
noncomputable def vJ(t:Tri):AV:=.tup [.int t.1,.int t.2.1,.int t.2.2]
structure KO(h:Heap)(M T It B:Addr):Prop where
 hM:OO h M T (.ref B)
 hT:h.get? T=some {cls:=.type "tuple",data:=.seq #[.ref It]}
 hB:h.get? B=some (methodObj (.ref 117) (.ref jn))
theorem KO.keep(x:KO h M T It B)(k:∀b o,(b=M∨b=T∨b=B)->h.get? b=some o->h'.get? b=some o):KO h' M T It B:=
 ⟨k _ _ (.inl rfl) x.hM,k _ _ (.inr (.inl rfl)) x.hT,k _ _ (.inr (.inr rfl)) x.hB⟩
noncomputable abbrev W0(Z:Sig):Addr->Prop:=fun b=>False∨dom Z b
section
variable {C:Cx} {lv:Nat} {Z:Sig} {l M T It B S:Addr} {ts:List Tri} {z₀:St} {R:Result->Shared->Prop}
theorem jbC(hcall:∀t∈ts,jC C lv (.ref 117) [.ref jn,vJ t] Z fun v o=>v=ko t∧o=Z)(hl:Z l=some (.list (ts.map vJ)))(hlen:ts.length≤1000)
  (hf:z₀.s.heap.get? It=none∧z₀.s.heap.get? S=none) (hl0:z₀.s.heap.get? l≠none) (d1:M≠It) (d2:T≠It) (d3:B≠It) (d4:M≠S) (d5:T≠S) (d6:B≠S) (d7:It≠S) (A:Around) (hh:A.handled=none) (hd:A.depth+lv≤500) (hu:A.units+2+10*lv≤1000) (X0:∀p∈[M,T,It,B,S],Z p=none∧C.K.lookup p=none):
  ∀(k i:Nat) (z:St) (acc:Array Value) (c:Nat),ts.length-i=k->i≤ts.length->qa C Z z.g->TOk z->jJ (W0 Z) Z z₀ Z z->KO z.s.heap M T It B->z.s.heap.IsListIter It l i->z.s.heap.get? S=some {cls:=.type "list",dict:=none,data:=.seq acc c,slots:= #[]}->VRs z.g ((ts.take i).map ko) acc.toList->
  (∀(z':St) acc' c',qa C Z z'.g->TOk z'->jJ (W0 Z) Z z₀ Z z'->z'.s.heap.get? S=some {cls:=.type "list",dict:=none,data:=.seq acc' c',slots:= #[]}->VRs z'.g (ts.map ko) acc'.toList->R (.ok (.ret .none)) z'.s)->
  codeAny (model C.prog C.w) A (.builtin "list.extend.loop" ⟨[.ref S,.ref M,.none],[]⟩) R z.s:=by
 have ne3:∀b,(b=M∨b=T∨b=B)->b≠It:=by rintro b (rfl|rfl|rfl)<;>assumption
 have neS:∀b,(b=M∨b=T∨b=B)->b≠S:=by rintro b (rfl|rfl|rfl)<;>assumption
 have privOne:∀(z:St) (p:Addr) (h':Heap),(p=It∨p=S)->qa C Z z.g->jJ (W0 Z) Z z₀ Z z->(∀b o,b≠p->z.s.heap.get? b=some o->h'.get? b=some o)->(∀o,z.s.heap.get? p=some o->¬Frz o)->TOk z->
   qa C Z ⟨h',z.T⟩∧Imm z.g ⟨h',z.T⟩∧jJ (W0 Z) Z z₀ Z ⟨{z.s with heap:=h'},z.T⟩:=fun z p h' hp H st x nf tk=>by
  have px:KN [p] z.s.heap h':=fun b o hb e=>x b o (fun q=>hb (by rw[q];exact List.mem_singleton.mpr rfl)) e
  have hp':p∈[M,T,It,B,S]:=by rcases hp with rfl|rfl<;>simp
  have hfp:z₀.s.heap.get? p=none:=by
   rcases hp with rfl|rfl
   ·exact hf.1
   ·exact hf.2
  have:=H.priv (h':=⟨h',z.T⟩) px (.refl _) (fun q hq=>by rw[List.mem_singleton.mp hq];exact ⟨(X0 p hp').1,(X0 p hp').2,nf⟩)
  exact ⟨this.1,this.2,st.priv px (.same tk (Nat.le_refl _)) fun q hq=>by rw[List.mem_singleton.mp hq];exact hfp⟩
 have nfI:∀{h:Heap} {i:Nat},h.IsListIter It l i->∀o,h.get? It=some o->¬Frz o:=fun hit o e=>by
  refine jX (fun o' e' hc _=> ?_) hit
  cases e'.symm.trans e;exact jY hc (by decide) (by decide)
 have hlI:∀(z:St),jJ (W0 Z) Z z₀ Z z->l≠It∧l≠S:=fun z st=>⟨fun e=>hl0 (by rw[e];exact hf.1),fun e=>hl0 (by rw[e];exact hf.2)⟩
 intro k
 induction k with
 |zero=>
  intro i z acc c hk hi H tk st hm hit hS hacc hR
  have hin:i=ts.length:=by lia
  subst hin
  refine ky (fun vs n hv hvs=> ?_) (H.obj l _ hl)
  have hvl:=hvs.length
  simp only[Array.length_toList,List.length_map]at hvl
  refine codeAny_builtin PySem.F.entry_extend_loop ?_
  rw[Around.under_plainId PySem.F.plain_extend_loop _]
  show wpAny _ A.in1 (pyNext (.ref M)>>=_) _ _ z.s
  refine wpAny_bind (map_end hh hm.hM hm.hT hit ⟨_,hv,rfl,n,rfl⟩ (by simp;lia) fun h' hx=> ?_)
  refine wO (fun H' im st'=> ?_) (privOne z It h' (by simp) H st (fun b o hb e=>hx b o hb e) (nfI hit) tk)
  refine wpAny_pure (hR ⟨{z.s with heap:=h'},z.T⟩ acc c H' ⟨tk.pos,tk.new⟩ st' (hx _ _ (Ne.symm d7) hS) ?_)
  rw[List.take_of_length_le (Nat.le_refl _)]at hacc
  exact VRs.imm im hacc
 |succ k ih=>
  intro i z acc c hk hi H tk st hm hit hS hacc hR
  have hlt:i<ts.length:=by lia
  refine ky (fun vs n hv hvs=> ?_) (H.obj l _ hl)
  have hvl:=hvs.length
  simp only[Array.length_toList,List.length_map]at hvl
  refine jp (fun x hx hxv=> ?_) (hvs.at' (j:=i) (v:=vJ ts[i]) (by simp[hlt]))
  refine codeAny_builtin PySem.F.entry_extend_loop ?_
  rw[Around.under_plainId PySem.F.plain_extend_loop _]
  show wpAny _ A.in1 (pyNext (.ref M)>>=_) _ _ z.s
  refine wpAny_bind (jbD hm.hM hm.hT hit ⟨_,hv,rfl,n,rfl⟩ (by simpa using hx) d1 fun h' hit' sb=> ?_)
  refine wO (fun H1 im1 st1=> ?_) (privOne z It h' (by simp) H st (fun b o hb e=>(sb.2 b hb).trans e) (nfI hit) tk)
  let z1:St:=⟨{z.s with heap:=h'},z.T⟩
  have tk1:TOk z1:=⟨tk.pos,tk.new⟩
  have hm1:KO z1.s.heap M T It B:=hm.keep fun b o hb e=>(sb.2 b (ne3 b hb)).trans e
  have hS1:z1.s.heap.get? S=some {cls:=.type "list",dict:=none,data:=.seq acc c,slots:= #[]}:=(sb.2 S (Ne.symm d7)).trans hS
  refine wpAny_call (method_call hm1.hB ?_)
  refine hcall ts[i] (List.getElem_mem hlt) A.in1.in1 z1 (.ref 117) [.ref jn,x] _ hh hd hu H1 tk1 qD (VRs.pair qD (VR.imm im1 hxv)) fun av o cv z2 p H2 s2 tk2 v2=> ?_
  refine kC ?_ p;rintro rfl rfl
  have st2:jJ (W0 o) o z₀ o z2:=st1.trans (s2.widen fun b hb=>.inr hb)
  have keep2:∀b ob,b∈[M,T,It,B,S]->z1.s.heap.get? b=some ob->z2.s.heap.get? b=some ob:=fun b ob hb e=>s2.kp b ob (fun hd=>hd (X0 b hb).1) e
  have hS2:=keep2 S _ (by simp) hS1
  have im2:Imm z1.g z2.g:=H1.imm s2.kp s2.T
  have hacc2:VRs z2.g ((ts.take i).map ko) acc.toList:=VRs.imm im2 (VRs.imm im1 hacc)
  show wpAny _ A.in1 (updateSeq S (·.push cv)>>=_) _ _ _
  refine wpAny_bind ?_
  have hsz:acc.size=i:=by have:=hacc.length;simp at this;lia
  have sb3:Heap.SameBut S z2.s.heap (z2.s.heap.update S (Obj.mapSeq (·.push cv))):=Heap.SameBut.update ..
  refine wO (fun H3 im3 st3=> ?_) (privOne z2 S _ (by simp) H2 st2 (fun b ob hb e=>(sb3.2 b hb).trans e) (fun ob e=>by cases hS2.symm.trans e;exact jY rfl (by decide) (by decide)) tk2)
  refine wpAny_updateSeq hS2 rfl (wpAny_pure ⟨plainId_quiet PySem.F.plain_extend_loop _,ih (i+1) ⟨{z2.s with heap:=z2.s.heap.update S (Obj.mapSeq (·.push cv))},z2.T⟩ (acc.push cv) _ (by lia) hlt H3 ⟨tk2.pos,tk2.new⟩ st3
   (hm1.keep fun b ob hb e=>(sb3.2 b (neS b hb)).trans (keep2 b ob (by rcases hb with rfl|rfl|rfl<;>simp) e)) ?_ (Heap.get?_update_self _ hS2 rfl) ?_ hR⟩) (by rw[hsz,sizeLine_eq];lia) (by show (acc.push cv).size≤_;rw[Array.size_push,hsz,sizeLine_eq];lia)
  ·refine jp (fun ob e1 e2=> ?_) hit'
   exact ⟨ob,(sb3.2 It d7).trans (keep2 It _ (by simp) e1),e2⟩
  ·rw[Array.toList_push,List.take_add_one,List.map_append,List.getElem?_eq_getElem hlt]
   refine VRs.append (VRs.imm im3 hacc2) ?_
   exact .cons (VR.imm im3 v2) rfl
end
end
section
section
variable {prog:Program} {w:World} {A:Around} {s:Shared} {R:Result->Shared->Prop}
theorem Ob(hS:s.heap.get? S=some {cls:=.type "list",data:=.seq #[]})(hM:OO s.heap M T f)(hSM:S≠M)
  (h:∀h' c,(∀b o,b≠S->s.heap.get? b=some o->h'.get? b=some o)->h'.get? S=some {cls:=.type "list",dict:=none,data:=.seq #[] c,slots:= #[]}->codeAny (model prog w) A (.builtin "list.extend.loop" ⟨[.ref S,.ref M,.none],[]⟩) R {s with heap:=h'}):
  wpAny (model prog w) A.in1 (Builtin.«list.__init__» ⟨[.ref S,.ref M],[]⟩)
   (fun fin s'=>match fin with| .done f=>R (.ok f) s'| .again c'=>c'.quiet=true∧codeAny (model prog w) A c' R s') (fun e s'=>R (.error e) s') s:=by
 show wpAny _ A.in1 (do let old←Builtin.List.listItems (.ref S);Builtin.List.listUpdate (.ref S) (fun _=> #[]);letGo old.toList.reverse;Builtin.List.listExtendWith (.ref S) (.ref M) .none) _ _ s
 refine wpAny_bind ?_
 delta Builtin.List.listItems
 refine wpAny_bind (wpAny_seqItems hS rfl (wpAny_pure ?_))
 show wpAny _ A.in1 (updateSeq S (fun _=> #[])>>=fun _=>letGo (#[]:Array Value).toList.reverse>>=fun _=>Builtin.List.listExtendWith (.ref S) (.ref M) .none) _ _ s
 refine wpAny_bind (wpAny_updateSeq hS rfl ?_)
 have hSw2:=Heap.get?_update_self (Obj.mapSeq (fun _=>(#[]:Array Value))) hS rfl
 have hM2:OO (s.heap.update S (Obj.mapSeq (fun _=>(#[]:Array Value)))) M T f:=(Heap.get?_update_other _ _ hSM).trans hM
 refine wpAny_bind (wpAny_letGo ?_)
 delta Builtin.List.listExtendWith
 refine wpAny_bind (wpAny_typeOf ⟨_,hM2,rfl⟩ ?_)
 have h1:Builtin.List.listSameRef (.ref S) (.ref M)=false:=by simp[Builtin.List.listSameRef,hSM]
 have h2:(Value.type "map" ==Value.type "list")=false:=by decide
 have h3:(Value.type "map" ==Value.type "tuple")=false:=by decide
 simp only[h1,h2,h3,Bool.or_false,Bool.false_eq_true,if_false]
 have hTM:Shared.TypeIs {s with heap:=s.heap.update S (Obj.mapSeq (fun _=>(#[]:Array Value)))} (.ref M) "map" :=⟨_,hM2,rfl⟩
 refine wpAny_bind (wpAny_pyIter_slot hTM wT (wpAny_call_entry wT hTM Kw ?_ (Ol _)))
 show wpAny _ _ (ret (.ref M)) _ _ _
 refine wpAny_pure ⟨_,rfl,"map",_,hTM,qn.lookup,?_⟩
 refine wpAny_bind (wpAny_holding ?_)
 delta Builtin.List.listLengthHint
 refine wpAny_bind (wpAny_specialOf hTM V4 ?_)
 show wpAny _ A.in1 (specialOf (Value.ref M) (Str.ofString "__length_hint__")>>=_) _ _ _
 refine wpAny_bind (wpAny_specialOf hTM Vg ?_)
 refine wpAny_pure ?_
 show wpAny _ A.in1 (rule "list.extend.makes-room" >>=fun _=>Builtin.List.listTouch (.ref S)>>=fun _=>
  again (.builtin "list.extend.loop" ⟨[.ref S,.ref M,.none],[]⟩)) _ _ _
 refine wpAny_bind (wpAny_rule ?_)
 refine wpAny_bind ?_
 show wpAny _ A.in1 (updateSeq S (·.push .none)>>=fun _=>updateSeq S (·.pop)) _ _ _
 refine wpAny_bind (wpAny_updateSeq hSw2 rfl ?_ (by size_fits) (by seq_fits))
 have hS3:=Heap.get?_update_self (Obj.mapSeq (·.push Value.none)) hSw2 rfl
 refine wpAny_updateSeq hS3 rfl ?_ (by seq_fits) (by seq_fits)
 have hS4:=Heap.get?_update_self (Obj.mapSeq (·.pop)) hS3 rfl
 refine wpAny_pure ⟨plainId_quiet PySem.F.plain_extend_loop _,h _ _ (fun b o hb e=> ?_) hS4⟩
 exact (Heap.get?_update_other _ _ (Ne.symm hb)).trans ((Heap.get?_update_other _ _ (Ne.symm hb)).trans ((Heap.get?_update_other _ _ (Ne.symm hb)).trans e))
end
def z7(C:Cx)(lv i:Nat)(Wx Wy Wm:WE):WE:=fun loc Z Ψ=>Wx loc Z fun f Zw1=>f=.ty "list" ∧Wy loc Zw1 fun g Zw2=>g=.ty "map" ∧Wm loc Zw2 fun v Zw3=>v=.ref jn∧∃(l:Addr) (ts:List Tri),loc i=some (.ref l)∧Zw3 l=some (.list (ts.map vJ))∧ts.length≤1000∧(∀t∈ts,jC C lv (.ref 117) [.ref jn,vJ t] Zw3 fun v o=>v=ko t∧o=Zw3)∧∀c,Zw3 c=none->Ψ (.ref c) (upd Zw3 c (.list (ts.map ko)))
section
variable {F:Fm} {KS:List NameKind} {GT:List (Str×AV)}
theorem Ze(k:FnW F KS GT)(T:zx F)(hlv:F.lv=lv+1)(i:Nat)(hN:F.N[i]? =some n)(hK:KS[i]? =some NameKind.local)(hx:Sp F (.Name x np) Wx)(hy:Sp F (.Name y np2) Wy)(hm:Sp F (.Name m mp) Wm):
  Sp F (.Call (.Name x np) [.Call (.Name y np2) [.Attribute (.Name m mp) (Str.ofString "_make") ap,.Name n np3] [] pos2] [] pos) (z7 F.C lv i Wx Wy Wm):=fun loc Z z Ψ R tk h Q E q=>by
 refine wpAny_Call_ofName (hx _ _ _ _ R tk h _ E fun f1 Zw1 fv zw1 p Rw1 sw1 tkw1 vw1=> ?_)
 obtain ⟨rfl,p⟩:=p
 subst vw1
 refine PySem.callWith_type rfl (Calls.evalArgs_plain (Calls.spliced_cons ?_))
 refine wpAny_Call_ofName (hy _ _ _ _ Rw1 tkw1 p _ E fun f2 Zw2 fv zw2 p Rw2 sw2 tkw2 vw2=> ?_)
 obtain ⟨rfl,p⟩:=p
 subst vw2
 refine PySem.callWith_type rfl (Calls.evalArgs_plain (Calls.spliced_cons ?_))
 refine wpAny_bind (hm _ _ _ _ Rw2 tkw2 p _ E fun f3 Zw3 fv z3 p Rw3 s3 tk3 vw3=>wpAny_bind (wpAny_standAt ?_))
 obtain ⟨rfl,l,ts,hl,hZl,hlen,hcall,hΨ⟩:=p
 subst vw3
 refine wpAny_bind (wpAny_holding (cls_bind Rw3.hr.top T.X.mat.rd T.X.nmk (wpAny_call (cm_get (s:={z3.s with toks:=z3.s.toks+1}) Rw3.hr.top T.X.cmf (handed_on rfl ?_)))))
 refine wpAny_bind (wpAny_letTemporaryGo (wpAny_pure ?_))
 --the method object
 let B:=z3.s.heap.objs.size
 let zw4:St:=⟨{z3.s with heap:=z3.s.heap.push (methodObj (.ref 117) (.ref jn)),toks:=z3.s.toks+1},z3.T⟩
 haveI xw4:Ext z3.s.heap zw4.s.heap:=Ext.push _ _
 haveI s4:jJ (F.W Zw3) Zw3 z3 Zw3 zw4:=.ext xw4 rfl (Nat.le_succ _) id (.refl _)
 have fB:=Rw3.hr.fresh (jB _)
 have hB4:zw4.s.heap.get? B=some (methodObj (.ref 117) (.ref jn)):=Heap.get?_push_size _ rfl
 refine Calls.spliced_cons (e_var (Ψ:=fun v o=>v=.ref l∧o=Zw3) (Rw3.ext xw4 (.refl _):F.Rel loc Zw3 zw4.g) (tk3.le (Nat.le_succ _) rfl) hN hl k.kind (k.kinds i n _ hN hK) (k.dbg n (List.mem_of_getElem? hN)).1 ⟨rfl,rfl⟩ _ E fun v Z5 cv z5 p R5 s5 tk5 v5=>Calls.spliced_nil ?_)
 obtain ⟨rfl,rfl⟩:=p
 subst v5
 have hB5:z5.s.heap.get? B=some (methodObj (.ref 117) (.ref jn)):=s5.kp _ _ (by
  rintro (e|hd)
  ·obtain ⟨m,⟨o,_,_,ho,_⟩,_⟩:=Rw3.ns
   have:=Heap.lt_size ho
   rw[←e]at this;exact Nat.lt_irrefl _ this
  ·exact hd fB.1) hB4
 obtain ⟨vs,nn,hlv5,hvs⟩:=R5.hr.obj l _ hZl
 refine jcD ⟨_,hlv5,rfl,nn,rfl⟩ fun hw6 xw6 hnone hit hT hM=> ?_
 refine Calls.spliced_nil ?_
 haveI hBlt:B<z5.s.heap.objs.size:=Heap.lt_size hB5
 have h6sz:z5.s.heap.objs.size+2<hw6.objs.size:=Heap.lt_size hM
 let It:=z5.s.heap.objs.size
 let z6:St:=⟨{z5.s with heap:=hw6},z5.T⟩
 let S:=hw6.objs.size
 refine callType_codes (Q₁:=fun obj sw1=>obj=.ref S∧sw1={z5.s with heap:=hw6.push {cls:=.type "list",data:=.seq #[]}}) PySem.F.called_list (PySem.F.typeCall_list_1 _) PySem.F.entry_list_init
  (code_list_new _ ⟨rfl,rfl⟩) fun obj sw1 h₁=> ?_
 obtain ⟨rfl,rfl⟩:=h₁
 haveI hS7:(hw6.push {cls:=.type "list",data:=.seq #[]}).get? S=some {cls:=.type "list",data:=.seq #[]}:=Heap.get?_push_size _ rfl
 have x7:Ext hw6 (hw6.push {cls:=.type "list",data:=.seq #[]}):=Ext.push _ _
 refine ⟨⟨_,hS7,rfl⟩,PySem.F.args_list_init_2 _ _,Ob hS7 (x7 _ _ hM) (Nat.ne_of_gt h6sz) fun hw8 c x8 hS8=> ?_⟩
 have hSz:z5.s.heap.get? S=none:=by
  cases e:z5.s.heap.get? S with
  |none=>rfl
  |some o=>exact absurd (Heap.lt_size e) (Nat.not_lt.mpr (Nat.le_of_lt (Nat.lt_trans (Nat.lt_succ_of_lt (Nat.lt_succ_self _)) h6sz)))
 haveI old:∀b o,z5.s.heap.get? b=some o->hw8.get? b=some o:=fun b o e=>x8 b o (fun q=>by exact kH hSz (q▸e)) (x7 _ _ (xw6 _ _ e))
 have to8:∀b o,b≠S->hw6.get? b=some o->hw8.get? b=some o:=fun b o hb e=>x8 b o hb (x7 _ _ e)
 let z8:St:=⟨{z5.s with heap:=hw8},z5.T⟩
 have ItS:It≠S:=Nat.ne_of_lt (Nat.lt_trans (Nat.lt_succ_of_lt (Nat.lt_succ_self _)) h6sz)
 haveI TS:It+1≠S:=Nat.ne_of_lt (Nat.lt_trans (Nat.lt_succ_self _) h6sz)
 have MS:It+2≠S:=Nat.ne_of_lt h6sz
 have fr:∀p,z5.s.heap.get? p=none->Z5 p=none∧F.C.K.lookup p=none:=fun p hp=>R5.hr.fresh hp
 have none_ge:∀p,z5.s.heap.objs.size≤p->z5.s.heap.get? p=none:=fun p hp=>by
  cases e:z5.s.heap.get? p with
  |none=>rfl
  |some o=>exact absurd (Heap.lt_size e) (Nat.not_lt.mpr hp)
 refine jbC (C:=F.C) (lv:=lv) (Z:=Z5) (l:=l) (It:=It) (T:=It+1) (M:=It+2) (B:=B) (S:=S) (z₀:=z5) hcall hZl hlen ⟨none_ge _ (Nat.le_refl _),hSz⟩ (by rw[hlv5];simp) (Nat.ne_of_gt (Nat.lt_succ_of_lt (Nat.lt_succ_self _))) (Nat.ne_of_gt (Nat.lt_succ_self _)) (Nat.ne_of_lt hBlt) MS TS (Nat.ne_of_lt (Nat.lt_trans hBlt (Nat.lt_trans (Nat.lt_succ_of_lt (Nat.lt_succ_self _)) h6sz))) ItS F.A.in1 F.hh
  (by have:=F.hd;show F.A.depth+lv≤500;lia) (by have:=F.hu;show F.A.units+1+2+10*lv≤1000;lia) ?_ ts.length 0 z8 #[] c (by lia) (Nat.zero_le _) (R5.hr.ext old (.refl _)) ⟨tk5.pos,tk5.new⟩ (.ext old rfl (Nat.le_refl _) id (.refl _)) ⟨to8 _ _ MS hM,to8 _ _ TS hT,old _ _ hB5⟩ ?_ hS8 rfl fun z9 acc c' H9 tk9 st9 hS9 hacc=> ?_
 ·intro p hp
  simp only[List.mem_cons,List.not_mem_nil,or_false]at hp
  rcases hp with rfl|rfl|rfl|rfl|rfl
  ·exact fr _ (none_ge _ (Nat.le_succ_of_le (Nat.le_succ _)))
  ·exact fr _ (none_ge _ (Nat.le_succ _))
  ·exact fr _ (none_ge _ (Nat.le_refl _))
  ·exact fB
  ·exact fr _ hSz
 ·obtain ⟨o,e1,e2⟩:=hit
  exact ⟨o,to8 _ _ ItS e1,e2⟩
 ·have fS:=fr S hSz
  haveI st10:jJ (W0 Z5) Z5 z5 (upd Z5 S (.list (ts.map ko))) z9:=st9.lay hSz
  exact ⟨rfl,q _ _ _ z9 (hΨ S fS.1) (R5.back st10 (H9.adopt fS.2 ⟨acc,c',hS9,hacc⟩) (R5.hr.imm (fun b o hb e=>st9.kp b o (by rintro (h|h);exact h;exact hb h) e) st9.T) (fun h=>h.elim id fun h=>h R5.offS)) (sw1.trans (sw2.trans (s3.trans (s4.trans (s5.trans (st10.widen fun b hb=>by rcases hb with h|h;exact h.elim;exact .inr h)))))) tk9 qD⟩
end
end
section
section
variable {F:Fm} {KS:List NameKind} {GT:List (Str×AV)}
theorem qs_try(hb:SpB F b Wb)(ho:SpB F o Wo):SpS F (.Try b (h₀::hs) o [] pos) (jj Wb Wo):=fun loc Z z Φ R tk h Q E q=>
 wpAny_Try_except (hb _ _ _ _ R tk h _ _ fun fl lw1 Zw1 f zw1 p Rw1 sw1 tkw1 vw1=>by
  cases fl with
  |next=>subst vw1;exact ho _ _ _ _ Rw1 tkw1 p Q E fun fl' l' Z' f' z' p' R' s' tk' v'=>q fl' l' Z' f' z' p' R' (sw1.trans s') tk' v'
  |brk=>subst vw1;exact q .brk lw1 Zw1 .brk zw1 p Rw1 sw1 tkw1 rfl
  |cont=>subst vw1;exact q .cont lw1 Zw1 .cont zw1 p Rw1 sw1 tkw1 rfl
  |ret v=>refine jp ?_ vw1;rintro cv rfl hv;exact q (.ret v) lw1 Zw1 (.ret cv) zw1 p Rw1 sw1 tkw1 ⟨cv,rfl,hv⟩)
def qLenM(Wf We:WE):WE:=fun loc Z Ψ=>Wf loc Z fun f Z0=>f=.bi .len∧We loc Z0 fun x Zw1=>∃xs,x=.mat xs∧xs.length≤1000∧Ψ (.int xs.length) Zw1
theorem q_lenM(m:kX F.C.K)(hs:∀x p,e≠.Starred x p)(hf:Sp F (.Name x np) Wf)(he:Sp F e We):Sp F (.Call (.Name x np) [e] [] pos) (qLenM Wf We):=fun loc Z z Ψ R tk h Q E q=>
 wpAny_Call_ofName (hf _ _ _ _ R tk h _ E fun f Zw1 fv zw1 p Rw1 sw1 tkw1 vw1=>by
  refine kC ?_ p;rintro rfl p
  subst vw1
  have hl:=wq (pos:=pos) hs he yo
  refine qq (Θ:=only fun x o=>∃xs,x=.mat xs∧xs.length≤1000∧Ψ (.int xs.length) o) (first:=[]) Rw1 hl.1.1 (fun _ _ _=>qj) tkw1 (fun e=>hl.1.2 e loc Zw1 _ p) (hl.2 _ _ _ _ Rw1 tkw1 p) (fun xs Zw2 vs zw2 pw2 Rw2 imw2 tkw2 vw2=> ?_) Q E fun av Z' cv z' p' R' s' tk' v'=>q av Z' cv z' p' R' (sw1.trans s') tk' v'
  refine zI pw2 fun x e pw2=> ?_;subst e
  ·refine jX ?_ pw2;rintro xs rfl hle hΨ
   refine jp ?_ vw2.one;rintro b rfl hb
   refine UN ?_ hb;rintro a o ws n rfl ho hc hd hw
   have hlen:=hw.length
   simp only[Array.length_toList]at hlen
   refine jF Rw2 tkw2 hΨ fun Q E q=>mat_len m Rw2.hr.top ho hc hd (by lia) fun t n' hn=>q _ _ _ (.same tkw2 hn) ?_
   rw[hlen];exact kQ
  )
end
end
theorem j6{α:Type}{f:Nat->Option α}{i:Nat}{v w:α}:upd (upd f i v) i w=upd f i w:=by funext j;delta upd;split<;>rfl
theorem yh{α:Type}{f:Nat->Option α}{i:Nat}{v:α}(h:f i=some v):upd f i v=f:=by
 funext j;delta upd;split
 ·next e=>simp only[e,h]
 ·rfl
theorem je{α:Type}{f:Nat->Option α}{i j:Nat}{v w:α}(h:f i=none)(hj:f j=some w):upd f i v j=some w:=by
 rw[ji (fun e=>by exact kH h (e▸hj))];exact hj
theorem U5{l:List AV}{i:Nat}{v:AV}(h:l[i]? =some v):pick l (i:Int)=some v:=by
 have hl:=(List.getElem?_eq_some_iff.mp h).1
 delta pick seqIndex?
 simp[(by lia:¬((i:Int)<0)),hl]
 exact Option.some.inj ((List.getElem?_eq_getElem hl).symm.trans h)
theorem jO{a:Addr}{i:Nat}{l:List AV}{v:AV}{Z:Sig}{Ψ:K1}(ha:Z a=some (.list l))(h:l[i]? =some v)(hi:l.length≤1000)(k:Ψ v Z):yf (.ref a) (.int (i:Int)) Z Ψ:=
 ⟨l,v,ha,U5 h,by have:=(List.getElem?_eq_some_iff.mp h).1;omega,k⟩
theorem Ov{i:Nat}{l:List AV}{v:AV}{Z:Sig}{Ψ:K1}(h:l[i]? =some v)(hi:l.length≤1000)(k:Ψ v Z):yf (.tup l) (.int (i:Int)) Z Ψ:=
 ⟨v,U5 h,by have:=(List.getElem?_eq_some_iff.mp h).1;lia,k⟩
theorem ve{a:Addr}{i:Nat}{l:List AV}{v:AV}{Z:Sig}{Φ:Sig->Prop}(ha:Z a=some (.list l))(h:i<l.length)(hi:l.length≤1000)(k:Φ (upd Z a (.list (l.set i v)))):wn (.ref a) (.int (i:Int)) v Z Φ:=
 .inl ⟨l,ha,Int.natCast_nonneg _,by lia,by lia,by simpa using k⟩
def Hp(x:AV):Prop:=∃f s p,x=.tup [.flt f,.int s,.int p]∧fEq f f=true
theorem ZU(hx:Hp x)(hy:Hp y)(k:Ψ (.bool (ltA x y)) Z):wLt x y Z Ψ:=by
 refine yU ?_ hx;rintro f s p rfl hf
 refine yU ?_ hy;rintro g t q rfl _
 refine ⟨rfl,?_,k⟩
 show ((f !=g||fEq f g)&&(true&&(true&&true)))=true
 by_cases h:f=g
 ·subst h;rw[hf,Bool.or_true];rfl
 ·rw[bne_iff_ne.mpr h];rfl
noncomputable def vC(x:AV)(s:Nat):Nat->Nat->List AV->List AV×Nat
 |0,p,l=>(l,p)
 |f+1,p,l=>if s<p then (if ltA x (l.getD ((p-1)/2) .none)=true then vC x s f ((p-1)/2) (l.set p (l.getD ((p-1)/2) .none))else (l,p))else (l,p)
theorem yH{x:AV}{s f p:Nat}{l:List AV}:vC x s (f+1) p l=if s<p then (if ltA x (l.getD ((p-1)/2) .none)=true then vC x s f ((p-1)/2) (l.set p (l.getD ((p-1)/2) .none))else (l,p))else (l,p):=rfl
noncomputable def Ky(l:List AV)(s p:Nat):List AV:=(vC (l.getD p .none) s p p l).1.set (vC (l.getD p .none) s p p l).2 (l.getD p .none)
noncomputable def j5(l:List AV)(p:Nat):Nat:=if 2*p+2<l.length∧ltA (l.getD (2*p+1) .none) (l.getD (2*p+2) .none)=false then 2*p+2 else 2*p+1
noncomputable def upF:Nat->Nat->List AV->List AV×Nat
 |0,p,l=>(l,p)
 |f+1,p,l=>if 2*p+1<l.length then upF f (j5 l p) (l.set p (l.getD (j5 l p) .none))else (l,p)
theorem XZ{f p:Nat}{l:List AV}:upF (f+1) p l=if 2*p+1<l.length then upF f (j5 l p) (l.set p (l.getD (j5 l p) .none))else (l,p):=rfl
noncomputable def upP(l:List AV)(p:Nat):List AV:=Ky ((upF (l.length-p) p l).1.set (upF (l.length-p) p l).2 (l.getD p .none)) p (upF (l.length-p) p l).2
theorem qW{l:List AV}{i:Nat}(h:i<l.length):l[i]? =some (l.getD i .none):=by rw[List.getD_eq_getElem?_getD,List.getElem?_eq_getElem h];rfl
theorem zJ{l:List AV}{i:Nat}{v x:AV}(h:x∈l.set i v):x=v∨x∈l:=by
 rcases List.mem_or_eq_of_mem_set h with h|h
 ·exact .inr h
 ·exact .inl h
theorem Ku{l:List AV}{i:Nat}{v:AV}(h:∀x∈l,Hp x)(hv:Hp v):∀x∈l.set i v,Hp x:=fun x hx=>by
 rcases zJ hx with rfl|hx
 ·exact hv
 ·exact h x hx
theorem kW{l:List AV}{i:Nat}(h:i<l.length):l.getD i .none∈l:=by rw[List.getD_eq_getElem?_getD,List.getElem?_eq_getElem h];exact List.getElem_mem _
section
section
variable {C:Cx} {lv:Nat} {loc:Loc} {Z:Sig} {Ψ:K1} {Φ:Fl->Loc->Sig->Prop} {Θ:Loc->Sig->Prop} {Λ:List AV->Sig->Prop} {Ξ:Bool->Sig->Prop} {Wa Wb Wc Wf:WE} {L:WL} {S S':WS} {T T':WT} {At Au:WA} {i:Nat} {x:AV}
theorem ja(h:loc i=some x)(k:Ψ x Z):jd i loc Z Ψ:=⟨x,h,k⟩
theorem k7(h:loc i=some (.ref c))(g:Z c=some (.cell (some x)))(k:Ψ x Z):k9 i loc Z Ψ:=⟨c,x,h,g,k⟩
theorem js(k:Ψ x Z):jm x loc Z Ψ:=k
theorem jE(h:Wa loc Z fun x Zw1=>Wb loc Zw1 fun y Zw2=>wY op x y Zw2 Ψ):jQ op Wa Wb loc Z Ψ:=h
theorem i_cmp(h:Wa loc Z fun x Zw1=>Wb loc Zw1 fun y Zw2=>vG op x y Zw2 Ψ):qCmp op Wa Wb loc Z Ψ:=h
theorem Vl(h:Wa loc Z fun x Zw1=>wNeg x Zw1 Ψ):VY Wa loc Z Ψ:=h
theorem i_ife(h:T loc Z fun c Zw1=>(c=true->Wa loc Zw1 Ψ)∧(c=false->Wb loc Zw1 Ψ)):qIfe T Wa Wb loc Z Ψ:=h
theorem jo(h:Λ [] Z):jq loc Z Λ:=h
theorem jf(h:Wa loc Z fun x Zw1=>L loc Zw1 fun xs Zw2=>Λ (x::xs) Zw2):jg Wa L loc Z Λ:=h
theorem kA(h:L loc Z fun xs Zw1=>xs.length≤1000∧Ψ (.tup xs) Zw1):qo L loc Z Ψ:=h
theorem qS(h:L loc Z fun xs Zw1=>xs.length≤1000∧∀a,Zw1 a=none->Ψ (.ref a) (upd Zw1 a (.list xs))):vV L loc Z Ψ:=h
theorem Vn(h:∀a,Z a=none->Ψ (.ref a) (upd Z a o)):U3 o loc Z Ψ:=h
theorem ka(h:Wa loc Z fun x Zw1=>Wb loc Zw1 fun y Zw2=>yf x y Zw2 Ψ):kl Wa Wb loc Z Ψ:=h
theorem i_slc(h:Wa loc Z fun x Zw1=>Wb loc Zw1 fun l Zw2=>Wc loc Zw2 fun h Zw3=>zN l fun lo=>zN h fun hi=>zM C x lo hi Zw3 Ψ):y6 C Wa Wb Wc loc Z Ψ:=h
theorem jbZ{id:Bn}(h:Wa loc Z fun x Zw1=>∃d,x=.ref d∧jcX id d Zw1∧Ψ (.bm id (.ref d)) Zw1):jbj id Wa loc Z Ψ:=h
theorem ke(hf:qA f)(h:L loc Z fun xs Zw2=>zP C lv f xs Zw2 Ψ):jy C lv (jm f) L loc Z Ψ:=⟨hf,h⟩
theorem Ux(h:Wa loc Z fun f Zw1=>qA f∧L loc Zw1 fun xs Zw2=>zP C lv f xs Zw2 Ψ):jy C lv Wa L loc Z Ψ:=h
theorem jZ{id:Bn}(h:Wa loc Z fun x Zw1=>MOk id x Zw1∧L loc Zw1 fun xs Zw2=>wB C id (x::xs) Zw2 Ψ):kh C id Wa L loc Z Ψ:=h
theorem kx(h:Wa loc Z fun x Zw1=>∃ad d f,x=.ref ad∧Zw1 ad=some (.inst SMA d)∧Zw1 d=some (.ns f)∧L loc Zw1 fun xs Zw2=>jC C lv (.ref fa) (x::xs) Zw2 Ψ):kG C lv fa Wa L loc Z Ψ:=h
theorem Vk(h:T loc Z fun b Zw1=>Ξ (!b) Zw1):VL T loc Z Ξ:=h
theorem jz(h:Wa loc Z fun x Zw1=>Wb loc Zw1 fun y Zw2=>vG op x y Zw2 fun c Zw3=>∃b,c=.bool b∧Ξ b Zw3):j4 op Wa Wb loc Z Ξ:=h
theorem qH(h:Wa loc Z fun x Zw1=>OQ x Zw1 fun b=>Ξ b Zw1):wo Wa loc Z Ξ:=h
theorem qI(h:Ξ true Z):k5 loc Z Ξ:=h
theorem kB(h:T loc Z fun b Zw1=>(b=false->Ξ false Zw1)∧(b=true->T' loc Zw1 Ξ)):qh T T' loc Z Ξ:=h
theorem jh(h:S loc Z (q9 S' Φ)):jj S S' loc Z Φ:=h
theorem jb(h:S loc Z Φ):q9 S Φ .next loc Z:=h
theorem jt(h:Φ .next loc Z):jv loc Z Φ:=h
theorem qu(h:Wa loc Z fun v Zw1=>Φ (.ret v) loc Zw1):vc Wa loc Z Φ:=h
theorem kJ(h:Φ f loc Z):kU f loc Z Φ:=h
theorem jU(h:Wa loc Z fun _ Zw1=>Φ .next loc Zw1):kz Wa loc Z Φ:=h
theorem qk(h:T loc Z fun c Zw1=>(c=true->S loc Zw1 Φ)∧(c=false->S' loc Zw1 Φ)):sIf T S S' loc Z Φ:=h
theorem ju(h:Wa loc Z fun v Zw1=>At v loc Zw1 (Φ .next)):jl Wa At loc Z Φ:=h
theorem jr(h:Θ (upd loc i v) Z):jw i v loc Z Θ:=h
theorem zg(h1:loc i=some (.ref c))(h2:Z c=some (.cell v0))(h:Θ loc (upd Z c (.cell (some v)))):UL i v loc Z Θ:=⟨c,v0,h1,h2,h⟩
theorem v7(h:Wa loc Z fun x Zw1=>Wb loc Zw1 fun y Zw2=>wn x y v Zw2 (Θ loc)):KL Wa Wb v loc Z Θ:=h
theorem qy(h:At v loc Z fun lw1 Zw1=>Au v lw1 Zw1 Θ):vO At Au v loc Z Θ:=h
theorem wz(h:Wa loc Z fun v Zw1=>∃xs,v=.tup xs∧xs.length=n∧Φ .next (wSt is.reverse xs.reverse loc) Zw1):wu is n Wa loc Z Φ:=h
theorem YA(h:∃x,loc i=some x∧Wa loc Z fun y Zw1=>Ow x y Zw1 fun r Zw2=>Φ .next (upd loc i r) Zw2):Za i Wa loc Z Φ:=h
theorem Kt(h:Wi loc Z fun xs D Zw1=>∃J:Nat->Loc->Sig->Prop,J 0 loc Zw1∧∀i l o,J i l o->i≤xs.length->D o∧(∀x,xs[i]? =some x->At x l o fun lw1 ow1=>S lw1 ow1 (kc J Φ i))∧(i=xs.length->Φ .next l o)):wP Wi At S loc Z Φ:=h
theorem vo{Κ:List AV->(Sig->Prop)->Sig->Prop}(h:Wa loc Z fun x Zw1=>zj C x Zw1 Κ):w8 C Wa loc Z Κ:=h
theorem Uv{Κ:List AV->(Sig->Prop)->Sig->Prop}(h:Κ (vw s) (fun _=>True) Z):zj C (.str s) Z Κ:=h
theorem vB{Κ:List AV->(Sig->Prop)->Sig->Prop}(h1:vQ C Z a xs)(h:Κ xs (fun τ=>vQ C τ a xs) Z):zj C (.ref a) Z Κ:=⟨xs,h1,h⟩
theorem vZ(J:Nat->Loc->Sig->Prop)(n:Nat)(h0:J n loc Z)(h:∀n l o,J n l o->T l o fun c o'=>(c=false->Φ .next l o')∧(c=true->S l o' (kq J Φ n))):qG T S loc Z Φ:=⟨J,n,h0,h⟩
theorem vd{J:Nat->Loc->Sig->Prop}(hm:m<n)(h:J m loc Z):kq J Φ n .next loc Z:=⟨m,loc,Z,hm,h,.refl _,.refl _⟩
theorem i_cont{J:Nat->Loc->Sig->Prop}(hm:m<n)(h:J m loc Z):kq J Φ n .cont loc Z:=⟨m,loc,Z,hm,h,.refl _,.refl _⟩
theorem kM{J:Nat->Loc->Sig->Prop}(h:J (n+1) loc Z):kc J Φ n .next loc Z:=⟨loc,Z,h,.refl _,.refl _⟩
theorem i_fcont{J:Nat->Loc->Sig->Prop}(h:J (n+1) loc Z):kc J Φ n .cont loc Z:=⟨loc,Z,h,.refl _,.refl _⟩
theorem jP(e:a+b=c)(h:Ψ (.int c) Z):wY .Add (.int a) (.int b) Z Ψ:=by subst e;exact h
theorem wA(e:a-b=c)(h:Ψ (.int c) Z):wY .Sub (.int a) (.int b) Z Ψ:=by subst e;exact h
theorem Ut(ha:a.natAbs<2^64)(e:a*b=c)(h:Ψ (.int c) Z):wY .Mult (.int a) (.int b) Z Ψ:=by subst e;exact ⟨ha,h⟩
theorem Xa(hb:b≠0)(hb2:b.natAbs<1073741824)(e:a.fdiv b=c)(h:Ψ (.int c) Z):wY .FloorDiv (.int a) (.int b) Z Ψ:=by subst e;exact ⟨hb,hb2,h⟩
theorem i_fmul(hb:b.natAbs<2^64)(e:Float64.mul a (Float64.ofInt b)=c)(h:Ψ (.flt c) Z):wY .Mult (.flt a) (.int b) Z Ψ:=by subst e;exact ⟨hb,h⟩
theorem i_fdivf(h1:Float64.isInf (Float64.ofInt b)=false)(h2:Float64.isZero (Float64.ofInt b)=false)(e:Float64.div a (Float64.ofInt b)=c)(h:Ψ (.flt c) Z):wY .Div (.flt a) (.int b) Z Ψ:=by subst e;exact ⟨h1,h2,h⟩
theorem Uu(h:Ψ (.int ((min a b:Nat):Int)) Z):zP C lv (.bi .min) [.int (a:Int),.int (b:Int)] Z Ψ:=by
 have e:(if (b:Int)<(a:Int)then (b:Int)else (a:Int))=((min a b:Nat):Int):=by lia
 show Ψ (.int (if (b:Int)<(a:Int)then (b:Int)else (a:Int))) Z
 rw[e];exact h
theorem jA(h:FNS.contains a=true):a∈FNS:=by simpa using h
theorem i_ltt(h:wLt x y Z Ψ):vG .Lt x y Z Ψ:=h
theorem Ks(he:e=decide (b<a))(h:Ξ e Z):vG .Gt (.int a) (.int b) Z fun c Zw3=>∃b,c=.bool b∧Ξ b Zw3:=⟨_,rfl,he▸h⟩
theorem jbW(he:e=decide (b≤a))(h:Ξ e Z):vG .GtE (.int a) (.int b) Z fun c Zw3=>∃b,c=.bool b∧Ξ b Zw3:=⟨_,rfl,he▸h⟩
theorem yC(he:e=decide (a<b))(h:Ξ e Z):vG .Lt (.int a) (.int b) Z fun c Zw3=>∃b,c=.bool b∧Ξ b Zw3:=⟨_,rfl,he▸h⟩
theorem Vm(he:e=(a==b))(h:Ξ e Z):vG .Eq (.int a) (.int b) Z fun c Zw3=>∃b,c=.bool b∧Ξ b Zw3:=⟨_,rfl,he▸h⟩
end
end
section
set_option genInjectivity false
set_option genSizeOf false
noncomputable def exD(M:PySem.Expr->Type)(x:PySem.Expr)(d:∀e,M e)(nm:∀a b,M (.Name a b):=fun _ _=>d _)(ct:∀a b c,M (.Constant a b c):=fun _ _ _=>d _)(bi:∀a b c d,M (.BinOp a b c d):=fun _ _ _ _=>d _)(un:∀a b c,M (.UnaryOp a b c):=fun _ _ _=>d _)(bo:∀a b c,M (.BoolOp a b c):=fun _ _ _=>d _)(ie:∀a b c d,M (.IfExp a b c d):=fun _ _ _ _=>d _)(cm:∀a b c d,M (.Compare a b c d):=fun _ _ _ _=>d _)(tu:∀a b c,M (.Tuple a b c):=fun _ _ _=>d _)(ls:∀a b,M (.List a b):=fun _ _=>d _)(dc:∀a b c,M (.Dict a b c):=fun _ _ _=>d _)(sb:∀a b c,M (.Subscript a b c):=fun _ _ _=>d _)(sl:∀a b c d,M (.Slice a b c d):=fun _ _ _ _=>d _)(ab:∀a b c,M (.Attribute a b c):=fun _ _ _=>d _)(cl:∀a b c d,M (.Call a b c d):=fun _ _ _ _=>d _)(lc:∀a b c d,M (.ListComp a b c d):=fun _ _ _ _=>d _):M x:=match x with
 | .Name a b=>nm a b
 | .Constant a b c=>ct a b c
 | .BinOp a b c d=>bi a b c d
 | .UnaryOp a b c=>un a b c
 | .BoolOp a b c=>bo a b c
 | .IfExp a b c d=>ie a b c d
 | .Compare a b c d=>cm a b c d
 | .Tuple a b c=>tu a b c
 | .List a b=>ls a b
 | .Dict a b c=>dc a b c
 | .Subscript a b c=>sb a b c
 | .Slice a b c d=>sl a b c d
 | .Attribute a b c=>ab a b c
 | .Call a b c d=>cl a b c d
 | .ListComp a b c d=>lc a b c d
 | .NamedExpr .. =>d _
 | .Lambda .. =>d _
 | .Set .. =>d _
 | .SetComp .. =>d _
 | .DictComp .. =>d _
 | .GeneratorExp .. =>d _
 | .Await .. =>d _
 | .Yield .. =>d _
 | .YieldFrom .. =>d _
 | .FormattedValue .. =>d _
 | .JoinedStr .. =>d _
 | .Starred .. =>d _
noncomputable def ku(e:PySem.Expr):Bool:= !isStarred e
theorem vA(h:ku e=true):∀x p,e≠.Starred x p:=by rintro x p rfl;cases h
noncomputable abbrev FC(o:PySem.Expr):={b:Bool//b=true->∀f a k p,o≠.Call f a k p}
noncomputable def rNC(o:PySem.Expr):FC o:=exD FC o (fun _=>⟨false,fun h=>absurd h Bool.false_ne_true⟩) (fun _ _=>⟨true,nofun⟩) (fun _ _ _=>⟨true,nofun⟩) (sb:=fun _ _ _=>⟨true,nofun⟩) (ab:=fun _ _ _=>⟨true,nofun⟩)
theorem ja8(k:FnW F KS GT)(hs:swapsWith (.Constant (.str b) n p) none pos.line F.env=pure false):SpS F (.Expr (.Constant (.str b) n p) pos) (kU .next):=Yg k q_str hs
def O9(Wo:WE)(Wa:WL):WE:=fun loc Z Ψ=>Wo loc Z fun f Zw1=>f=.ty "tuple" ∧Wa loc Zw1 fun ys Zw2=>∃xs,ys=[.ref jn,.tup xs]∧xs.length≤1000∧Ψ (.mat xs) Zw2
def aDead:WA:=fun _ _ _ _=>False
structure Cg where
 C:Cx
 lv:Nat
 N:List Str
 KS:List NameKind
 GT:List (Str×AV)
 md:Nat
 dl:List Nat
structure En(c:Cg)where
 A:Around
 env:Env
 hh:A.handled=none
 hd:A.depth+c.lv≤500
 hu:A.units+10*c.lv≤1000
 k:FnW ⟨c.C,A,env,c.N,c.lv,hh,hd,hu⟩ c.KS c.GT
 T:zx ⟨c.C,A,env,c.N,c.lv,hh,hd,hu⟩
variable {c:Cg}
noncomputable abbrev En.F(n:En c):Fm:=⟨c.C,n.A,n.env,c.N,c.lv,n.hh,n.hd,n.hu⟩
noncomputable abbrev RE(c:Cg)(x:PySem.Expr):={W:WE//∀n:En c,Sp n.F x W}
noncomputable abbrev RO(c:Cg)(x:Option PySem.Expr):={W:WE//∀n:En c,SpO n.F x W}
noncomputable abbrev RT(c:Cg)(x:PySem.Expr):={W:WT//∀n:En c,SpT n.F x W}
noncomputable abbrev RA(c:Cg)(x:PySem.Expr):={W:WA//∀n:En c,SpA n.F x W}
noncomputable abbrev RS(c:Cg)(x:Stmt):={W:WS//∀n:En c,SpS n.F x W}
noncomputable abbrev RB(c:Cg)(x:List Stmt):={W:WS//∀n:En c,SpB n.F x W}
noncomputable abbrev RI(c:Cg)(t x:PySem.Expr):={W:WI//∀n:En c,SpI n.F t x W}
noncomputable abbrev RL(c:Cg)(x:List PySem.Expr):={W:WL//∀(n:En c) (p:Pos),SpL n.F p x W}
structure Sto where
 e:∀c x,RE c x
 t:∀c x,RT c x
 a:∀c x,RA c x
 s:∀c x,RS c x
theorem wI{a b:Bool}(h:(a&&b)=true):a=true:=(Bool.and_eq_true_iff.mp h).1
theorem wS{a b:Bool}(h:(a&&b)=true):b=true:=(Bool.and_eq_true_iff.mp h).2
noncomputable abbrev vP(c:Cg)(x:Str)(k:NameKind):Bool:=c.N[c.N.idxOf x]? ==some x&&c.KS[c.N.idxOf x]? ==some k
theorem kd1(h:vP c x k=true):c.N[c.N.idxOf x]? =some x:=beq_iff_eq.mp (wI h)
theorem kd2(h:vP c x k=true):c.KS[c.N.idxOf x]? =some k:=beq_iff_eq.mp (wS h)
theorem Xc{α:Type}{f:α->Str}{l:List α}(h:(l.find? (f ·==n)).isSome=true):∃i:Nat,l[i]? =some ((l.find? (f ·==n)).get h)∧f ((l.find? (f ·==n)).get h)=n:=by
 have e:=(Option.some_get h).symm
 obtain ⟨i,hi⟩:=List.getElem?_of_mem (List.mem_of_find?_eq_some e)
 exact ⟨i,hi,beq_iff_eq.mp (List.find?_some e:)⟩
noncomputable def rX{x:PySem.Expr}:RE c x:=⟨Yi,fun _=>q_dead⟩
noncomputable def rTX{x:PySem.Expr}:RT c x:=⟨wo Yi,fun _ _ _ _ _ _ _ h=>False.elim h⟩
noncomputable def rAX{x:PySem.Expr}:RA c x:=⟨aDead,fun _ _ _ _ _ _ _ _ _ _ h=>False.elim h⟩
noncomputable def rSX{x:Stmt}:RS c x:=⟨vb,fun _=>qs_dead⟩
noncomputable def ql(x:Str)(p:Pos):RE c (.Name x p):=
 if h:vP c x .local=true then ⟨_,fun n=>U1 n.k _ (kd1 h) (kd2 h)⟩else
 if h:vP c x .cell=true then ⟨_,fun n=>q_cel n.k _ (kd1 h) (kd2 h) (.inl rfl)⟩else
 if h:(c.GT.find? (·.1==x)).isSome=true then ⟨jm ((c.GT.find? (·.1==x)).get h).2,fun n=>jp (fun i a b=>U2 n.k i (a.trans (congrArg some (Prod.ext b rfl)))) (Xc h)⟩else rX
variable (B:Sto) (c:Cg)
noncomputable def rL(es:List PySem.Expr):es.all ku=true->RL c es:=
 es.rec (fun _=>⟨_,fun _ _=>zZ⟩) fun x r f h=>⟨_,fun n p=>yw (vA (wI h)) ((B.e c x).2 n) ((f (wS h)).2 n p)⟩
noncomputable def rAL(es:List PySem.Expr):es.all ku=true->{W:WAL//∀n:En c,Oo n.F es W}:=
 es.rec (fun _=>⟨_,fun _=>qal_nil⟩) fun x r f h=>⟨_,fun n=>jbb (vA (wI h)) ((B.a c x).2 n) ((f (wS h)).2 n)⟩
noncomputable def rAnd(p:Pos)(es:List PySem.Expr):RT c (.BoolOp .And es p):=
 es.rec ⟨_,fun _=>qt_and0⟩ fun x r f=>⟨_,fun n=>qt_and ((B.t c x).2 n) (f.2 n)⟩
noncomputable def rMS(r:List PySem.Expr):∀t,(t::r).all ku=true->{W:WA//∀n:En c,SpM n.F (t::r) W}:=
 r.rec (fun t h=>⟨_,fun n=>VW (vA (wI h)) ((B.a c t).2 n)⟩) fun u r f t h=>⟨_,fun n=>qm_cons (vA (wI h)) ((B.a c t).2 n) ((f u (wS h)).2 n)⟩
noncomputable def rB(b:List Stmt):RB c b:=
 b.rec ⟨_,fun _=>jba⟩ fun s r f=>if (s::r).all (fun s=>c.dl.contains s.pos.line)=true then ⟨_,fun _=>qb_dead⟩else ⟨_,fun n=>zH ((if c.dl.contains s.pos.line=true then rSX else B.s c s:RS c s).2 n) (f.2 n)⟩
noncomputable def rO(o:Option PySem.Expr):RO c o:=o.rec ⟨_,fun _=>qo_none⟩ fun e=>⟨_,fun n=>qo_some ((B.e c e).2 n)⟩
noncomputable def rIf(l:List PySem.Expr):{W:WT//∀n:En c,On n.F l W}:=match l with
 |[]=>⟨_,fun _=>qf_none⟩
 |[t]=>⟨_,fun n=>qf_one ((B.t c t).2 n)⟩
 |_::_::_=>⟨wo Yi,fun _ _ _ _ _ _ _ h=>False.elim h⟩
variable {c}
noncomputable def rK(v:Const)(k:Nat)(p:Pos):RE c (.Constant v k p):=match v with
 | .int i=>⟨_,fun _=>q_int⟩
 | .float b=>⟨_,fun _=>q_flt⟩
 | .str s=>⟨_,fun _=>q_str⟩
 | .none=>⟨_,fun _=>q_none⟩
 | .bool b=>⟨_,fun _=>q_bool⟩
 | .complex _ _| .bytes _| .ellipsis=>rX
noncomputable def rVC{M:PySem.Expr->Type}(i:PySem.Expr)(d:∀e,M e)(f:∀x p a q,a.all ku=true->M (.Call (.Name x p) a [] q)):M i:=
 exD M i d (cl:=fun g a kws q=>exD (fun g=>M (.Call g a kws q)) g (fun _=>d _) (nm:=fun x p=>match kws with
  |[]=>if h:a.all ku=true then f x p a q h else d _
  |_::_=>d _))
noncomputable def rIV(tg i:PySem.Expr):RI c tg i:=⟨w8 c.C (B.e c i).1,fun n=>qi_val ((B.e c i).2 n)⟩
noncomputable def rI(tg i:PySem.Expr):RI c tg i:=rVC i (rIV B tg) fun x p a q h=>
 if x=Str.ofString "range" then ⟨_,fun n=>ja9 ((ql x p).2 n) ((rL B c a h).2 n q)⟩else
 if x=Str.ofString "enumerate" then exD (fun tg=>RI c tg _) tg (fun _=>rIV B _ _) (tu:=fun _ _ _=>⟨_,fun n=>qi_enum ((ql x p).2 n) ((rL B c a h).2 n q)⟩)else
 if x=Str.ofString "reversed" then match a with
  |[b]=>rVC (M:=fun b=>RI c tg (.Call (.Name x p) [b] [] q)) b (fun _=>rIV B _ _) fun y p' a' q' h'=>⟨_,fun n=>Zb ((ql x p).2 n) ((ql y p').2 n) ((rL B c a' h').2 n q')⟩
  |[]=>rIV B _ _
  |_::_::_=>rIV B _ _
 else rIV B _ _
noncomputable def cB{M:PySem.Expr->Type}(v:PySem.Expr)(d:∀e,M e)(f:∀b k p,M (.Constant (.bool b) k p)):M v:=exD M v d (ct:=fun v k p=>match v with
 | .bool b=>f b k p
 | .int _| .float _| .str _| .none| .complex _ _| .bytes _| .ellipsis=>d _)
noncomputable def rSrt(x:Str)(np:Pos)(e:PySem.Expr)(hs:ku e=true)(q:Pos)(kws:List Keyword):RE c (.Call (.Name x np) [e] kws q):=match kws with
 |[]=>⟨VX c.C false (ql x np).1 (B.e c e).1,fun n=>jbf n.T.X.mat (vA hs) ((ql x np).2 n) ((B.e c e).2 n)⟩
 |[⟨a,v,kp⟩]=>if h:a=some (Str.ofString "reverse")then cB (M:=fun v=>RE c (.Call (.Name x np) [e] [⟨a,v,kp⟩] q)) v (fun _=>rX) fun b k bp=>⟨VX c.C b (ql x np).1 (B.e c e).1,fun n=>h▸Zc n.T.X.mat (vA hs) ((ql x np).2 n) ((B.e c e).2 n)⟩else rX
 |[⟨a,ek,ap⟩,⟨b,v,kp⟩]=>if h:a=some (Str.ofString "key")∧b=some (Str.ofString "reverse")then cB (M:=fun v=>RE c (.Call (.Name x np) [e] [⟨a,ek,ap⟩,⟨b,v,kp⟩] q)) v (fun _=>rX) fun b k bp=>⟨jbi c.C b (ql x np).1 (B.e c e).1 (B.e c ek).1,fun n=>h.1▸h.2▸Zd n.T.X.mat (vA hs) ((ql x np).2 n) ((B.e c e).2 n) ((B.e c ek).2 n)⟩else rX
 |_::_::_::_=>rX
noncomputable def rLM(x:Str)(np:Pos)(b:PySem.Expr)(q:Pos):RE c (.Call (.Name x np) [b] [] q):=
 exD (fun b=>RE c (.Call (.Name x np) [b] [] q)) b (fun _=>rX) (cl:=fun g as ks q2=>exD (fun g=>RE c (.Call _ [.Call g as ks q2] [] q)) g (fun _=>rX) (nm:=fun y np2=>match as,ks with
  |[m,v],[]=>exD (fun m=>RE c (.Call _ [.Call _ [m,v] [] q2] [] q)) m (fun _=>rX) (ab:=fun mo y' ap=>exD (fun mo=>RE c (.Call _ [.Call _ [.Attribute mo y' ap,v] [] q2] [] q)) mo (fun _=>rX) (nm:=fun mn mp=>exD (fun v=>RE c (.Call _ [.Call _ [_,v] [] q2] [] q)) v (fun _=>rX) (nm:=fun z zp=>
   if h:y'=Str.ofString "_make" ∧vP c z .local=true then Nat.casesOn (motive:=fun l=>c.lv=l->RE c _) c.lv (fun _=>rX) (fun l hl=>⟨z7 c.C l (c.N.idxOf z) (ql x np).1 (ql y np2).1 (ql mn mp).1,fun n=>h.1▸Ze n.k n.T hl _ (kd1 h.2) (kd2 h.2) ((ql x np).2 n) ((ql y np2).2 n) ((ql mn mp).2 n)⟩) rfl else rX)))
  |[],_=>rX
  |[_],_=>rX
  |[_,_],_::_=>rX
  |_::_::_::_,_=>rX))
noncomputable def rCN(x:Str)(np:Pos)(args:List PySem.Expr)(kws:List Keyword)(q:Pos):RE c (.Call (.Name x np) args kws q):=
 if h:args.all ku=true then
  if x=Str.ofString "sorted" then match args with
   |[a]=>rSrt B x np a (wI h) q kws
   |[]=>rX
   |_::_::_=>rX
  else match kws with
   |[]=>if (c.md==117&&x==Str.ofString "len")=true then match args with
     |[a]=>⟨_,fun n=>q_lenM n.T.X.mat (vA (wI h)) ((ql x np).2 n) ((B.e c a).2 n)⟩
     |[]=>rX
     |_::_::_=>rX
    else if x=Str.ofString "list" then match args with
     |[b]=>rLM x np b q
     |[]=>rX
     |_::_::_=>rX
    else ⟨jy c.C c.lv (ql x np).1 (rL B c args h).1,fun n=>O8 ((ql x np).2 n) ((rL B c args h).2 n q)⟩
   |_::_=>rX
 else rX
noncomputable def bns:List Bn:=[.append,.pop,.dget,.dsetd,.join,.count]
noncomputable def rCM(o:PySem.Expr)(y:Str)(ap:Pos)(args:List PySem.Expr)(q:Pos)(h1:(rNC o).1=true)(h2:args.length<25)(h3:(ap.endLine==q.line)=true)(h4:args.all ku=true):RE c (.Call (.Attribute o y ap) args [] q):=
 if h:(MTS.find? (·.1==y)).isSome=true then ⟨kG c.C c.lv ((MTS.find? (·.1==y)).get h).2 (B.e c o).1 (rL B c args h4).1,fun n=>jp (fun i a b=>Yh i (a.trans (congrArg some (Prod.ext b rfl))) ((rNC o).2 h1) h2 h3 ((B.e c o).2 n) ((rL B c args h4).2 n q)) (Xc h)⟩else
 if h:(bns.find? (·.meth==y)).isSome=true then ⟨kh c.C ((bns.find? (·.meth==y)).get h) (B.e c o).1 (rL B c args h4).1,fun n=>jp (fun i _ b=>q_bmeth _ b ((rNC o).2 h1) h2 h3 ((B.e c o).2 n) ((rL B c args h4).2 n q)) (Xc h)⟩else
 if h:y=Str.ofString "__new__" then exD (fun o=>RE c (.Call (.Attribute o y ap) args [] q)) o (fun _=>rX) (nm:=fun x p=>⟨O9 (ql x p).1 (rL B c args h4).1,fun n=>h▸jbe n.T.X.mat h2 h3 ((ql x p).2 n) ((rL B c args h4).2 n q)⟩)else
 if h:y=Str.ofString "sort" then match args with
  |[]=>⟨_,fun n=>h▸q_sort n.T.X.mat ((rNC o).2 h1) h3 ((B.e c o).2 n)⟩
  |_::_=>rX
 else rX
noncomputable abbrev FI(i:PySem.Expr):={b:Bool//b=true->∀env x,foldedSetIterable i env x=pure x}
noncomputable def rNS(i:PySem.Expr):FI i:=exD FI i (fun _=>⟨false,fun h=>absurd h Bool.false_ne_true⟩) (fun _ _=>⟨true,fun _ _ _=>rfl⟩) (fun _ _ _=>⟨true,fun _ _ _=>rfl⟩) (fun _ _ _ _=>⟨true,fun _ _ _=>rfl⟩) (sb:=fun _ _ _=>⟨true,fun _ _ _=>rfl⟩) (ab:=fun _ _ _=>⟨true,fun _ _ _=>rfl⟩) (cl:=fun _ _ _ _=>⟨true,fun _ _ _=>rfl⟩)
noncomputable def cNm(s:Scope):List (Str×NameKind):=s.names.filter fun p=>p.2==.local&& !(p.1==(".0" :Str))||p.2==.free
noncomputable def cN(s:Scope):List Str:=(cNm s).map (·.1)
noncomputable def cKS(s:Scope):List NameKind:=(cNm s).map fun p=>bif p.2==.local then .local else .cell
noncomputable def cFM(s:Scope)(N:List Str):List (Nat×Nat):=(s.names.filter fun p=>p.2==.free).map fun p=>((cN s).idxOf p.1,N.idxOf p.1)
noncomputable def cGI(s:Scope):List Nat:=(List.range GTA.length).filter fun i=>(GTA[i]?.map fun p=>s.names.lookup p.1)==some (some .globalImplicit)
@[reducible] noncomputable def cCg(c:Cg)(s:Scope):Cg:=⟨c.C,c.lv,cN s,cKS s,k8 (cGI s),c.md,c.dl⟩
noncomputable def En.comp(n:En c)(s:Scope)(Cad:Addr)(ck:FnW (cFm n.F s (cN s) Cad) (cKS s) (k8 (cGI s))):En (cCg c s):=⟨n.A,compEnvC s (vE n.env s.names []) Cad n.env,n.hh,n.hd,n.hu,ck,n.T.X,n.T.g,n.T.b⟩
@[reducible] noncomputable def cOk(c:Cg)(s:Scope)(i:PySem.Expr):Bool:=yK s (cN s) (cKS s) (cFM s c.N) c.N c.KS (cGI s)&&(rNS i).1
noncomputable def rLC(e tg i:PySem.Expr)(f:List PySem.Expr)(s:Scope)(q:Pos){a:Int}(ha:a=0)(h:cOk c s i=true):RE c (.ListComp e [⟨tg,i,f,a⟩] s q):=
 ⟨qC (cFM s c.N) (rI B tg i).1 (B.a (cCg c s) tg).1 (rIf B (cCg c s) f).1 (B.e (cCg c s) e).1,fun n=>ha▸q_comp n.k n.T rfl _ _ _ _ (wI h) ((rI B tg i).2 n) (fun Cad ck=>(B.a (cCg c s) tg).2 (n.comp s Cad ck)) (fun Cad ck=>(rIf B (cCg c s) f).2 (n.comp s Cad ck)) (fun Cad ck=>(B.e (cCg c s) e).2 (n.comp s Cad ck)) ((rNS i).2 (wS h) _)⟩
noncomputable def rSC(x:Str)(np:Pos)(e tg i:PySem.Expr)(f:List PySem.Expr)(s:Scope)(q p:Pos){a:Int}(ha:a=0)(h:cOk c s i=true)(hk:vP c x .local=true)(hw:(np.line==q.line&& !(s.names.any fun(m,k)=>m==x&&(k==.local||k==.cell)))=true):RS c (.Assign [.Name x np] (.ListComp e [⟨tg,i,f,a⟩] s q) p):=
 ⟨UY (c.N.idxOf x) (rLC B e tg i f s q ha h).1,fun n=>ha▸qs_comp n.k n.T rfl _ (kd1 hk) (kd2 hk) _ _ _ _ (wI h) ((rI B tg i).2 n) (fun Cad ck=>(B.a (cCg c s) tg).2 (n.comp s Cad ck)) (fun Cad ck=>(rIf B (cCg c s) f).2 (n.comp s Cad ck)) (fun Cad ck=>(B.e (cCg c s) e).2 (n.comp s Cad ck)) ((rNS i).2 (wS h) _) hw⟩
noncomputable abbrev toN(l:List (Str×Pos)):List PySem.Expr:=l.map fun p=>.Name p.1 p.2
noncomputable abbrev FN'(ts:List PySem.Expr):=Option {l:List (Str×Pos)//ts=toN l}
noncomputable def rNm(ts:List PySem.Expr):FN' ts:=ts.rec (some ⟨[],rfl⟩) fun t r o=>o.bind fun l=>exD (fun t=>FN' (t::r)) t (fun _=>none) fun x p=>some ⟨(x,p)::l.1,congrArg (PySem.Expr.Name x p::·) l.2⟩
noncomputable def swN(f:Str->Bool)(l:List (Str×Pos)):List Str:=l.filterMap fun p=>if (f p.1&&p.2.line==(l.head?.map (·.2.line)).getD 0)=true then some p.1 else none
noncomputable def swB(b1 b3 b4 b5:Bool)(n:List Str):Option (Option (List Str)):=bif b1 then some none else bif b3 then some none else bif b4 then some none else bif b5 then none else some (some n)
noncomputable def swL(b1 b2 b3 b4 b5:Bool)(u:Sem (Option (List Str)))(n:List Str):Sem (Option (List Str)):=if b1=true then pure none else if b2=true then pure none else if b3=true then pure none else if b4=true then pure none else if b5=true then u else pure (some n)
theorem swS{b1 b3 b4 b5:Bool}:swL b1 false b3 b4 b5 u n=(swB b1 b3 b4 b5 n).elim u pure:=by
 cases b1<;>cases b3<;>cases b4<;>cases b5<;>rfl
noncomputable def swV(vs:List PySem.Expr)(k:Nat)(n:List Str):Option (Option (List Str)):=swB (!(k==2||k==3)||vs.length !=k) (n.length !=k||n.eraseDups.length !=n.length) (vs.all (foldedForSure 8)) (vs.all (constantsAlone 8)) n
noncomputable abbrev swOk(c:Cg)(l:List (Str×Pos))(vs:List PySem.Expr):Bool:=vs.all ku&&l.all (fun p=>vP c p.1 .local||vP c p.1 .cell)
theorem kd_loc(n:En c)(h:(vP c x .local||vP c x .cell)=true):(n.env.kindOf x==some .local)=vP c x .local:=by
 cases e:vP c x .local with
 |true=>rw[n.k.kinds _ _ _ (kd1 e) (kd2 e)];rfl
 |false=>rw[e,Bool.false_or]at h;rw[n.k.kinds _ _ _ (kd1 h) (kd2 h)];rfl
theorem jb6{α β:Type}{f g:α->Option β}{l:List α}(h:∀x∈l,f x=g x):l.filterMap f=l.filterMap g:=by
 induction l with
 |nil=>rfl
 |cons x r ih=>rw[List.filterMap_cons,List.filterMap_cons,h x List.mem_cons_self,ih fun y hy=>h y (List.mem_cons_of_mem _ hy)]
theorem jay(n:En c)(e:swOk c l vs=true)(h:swV vs l.length (swN (vP c · .local) l)=some w):swappedStores [.Tuple (toN l) kw1 p] (.Tuple vs kw2 p') n.env=pure w:=by
 have e1:∀f:PySem.Expr->Option Str,(∀x p,f (.Name x p)=if (n.env.kindOf x==some .local&&p.line==((toN l).head?.map (·.pos.line)).getD 0)=true then some x else none)->(toN l).filterMap f=swN (vP c · .local) l:=fun f hf=>by
  rw[List.filterMap_map]
  refine jb6 fun q hq=>(hf _ _).trans ?_
  rw[kd_loc n (List.all_eq_true.mp (wS e) q hq)]
  cases l<;>rfl
 show swL (_||n.env.blockKind !=.function) (vs.any isStarred) _ _ _ _ _=_
 rw[show n.env.blockKind=.function by delta Env.blockKind;rw[n.k.kind];rfl,show (ScopeKind.function !=ScopeKind.function)=false from rfl,Bool.or_false,e1 _ fun _ _=>rfl,List.length_map,show vs.any isStarred=false by have:=wI e;unfold ku at this;rw[←List.not_any_eq_all_not]at this;exact Bool.not_eq_true' _▸this]
 exact swS.trans (by delta swV at h;rw[h];rfl)
noncomputable def rEE(x:PySem.Expr):RE c x:=exD (RE c) x (fun _=>rX) ql rK
 (fun l _ r _=>⟨_,fun n=>q_bin ((B.e c l).2 n) ((B.e c r).2 n)⟩)
 (fun op x _=>match op with
  | .USub=>⟨_,fun n=>q_neg ((B.e c x).2 n)⟩
  | .Invert| .Not| .UAdd=>rX)
 (ie:=fun t b o _=>⟨_,fun n=>q_ife ((B.t c t).2 n) ((B.e c b).2 n) ((B.e c o).2 n)⟩)
 (cm:=fun l ops rs _=>match ops,rs with
  |[op],[r]=>if h:behindInMarks op r=false then ⟨_,fun n=>q_cmp ((B.e c l).2 n) ((B.e c r).2 n) h⟩else rX
  |_,_=>rX)
 (tu:=fun es _ p=>if h:es.all ku=true then ⟨_,fun n=>q_tup ((rL B c es h).2 n p)⟩else rX)
 (ls:=fun es p=>if h:es.all ku=true then ⟨_,fun n=>q_lst ((rL B c es h).2 n p)⟩else rX)
 (dc:=fun ks vs _=>match ks,vs with
  |[],[]=>if c.md=224 then ⟨_,fun _=>q_dctI⟩else ⟨_,fun _=>q_dctS⟩
  |[],_::_=>rX
  |_::_,_=>rX)
 (sb:=fun v i p=>exD (fun i=>RE c (.Subscript v i p)) i (fun i=>⟨_,fun n=>q_sub ((B.e c v).2 n) ((B.e c i).2 n)⟩) (sl:=fun lo hi st p'=>match st with
  |none=>⟨y6 c.C (B.e c v).1 (rO B c lo).1 (rO B c hi).1,fun n=>q_slc ((B.e c v).2 n) ((rO B c lo).2 n) ((rO B c hi).2 n)⟩
  |some _=>rX))
 (ab:=fun o y p=>if h:(rNC o).1=true then
   if e:(FN[FN.idxOf y]? ==some y)=true then ⟨_,fun n=>jbg _ (beq_iff_eq.mp e) ((rNC o).2 h) ((B.e c o).2 n)⟩else
   if e:y=Str.ofString "get" then ⟨_,fun n=>jbh .dget e.symm ((rNC o).2 h) ((B.e c o).2 n)⟩else
   if e:y=Str.ofString "__contains__" then
    if exD (fun _=>Bool) o (fun _=>false) (ab:=fun _ _ _=>true)=true then ⟨_,fun n=>jbh .shas e.symm ((rNC o).2 h) ((B.e c o).2 n)⟩else ⟨_,fun n=>jbh .dhas e.symm ((rNC o).2 h) ((B.e c o).2 n)⟩
   else rX else rX)
 (cl:=fun f args kws q=>exD (fun f=>RE c (.Call f args kws q)) f (fun _=>rX) (nm:=fun x p=>rCN B x p args kws q) (ab:=fun o y ap=>match kws with
  |[]=>if h:((rNC o).1&&(decide (args.length<25)&&(ap.endLine==q.line&&args.all ku)))=true then rCM B o y ap args q (wI h) (of_decide_eq_true (wI (wS h))) (wI (wS (wS h))) (wS (wS (wS h)))else rX
  |_::_=>rX))
 (lc:=fun e g s q=>match g with
  |[⟨tg,i,f,a⟩]=>if h:a=0∧cOk c s i=true then rLC B e tg i f s q h.1 h.2 else rX
  |[]=>rX
  |_::_::_=>rX)
noncomputable def rTV{x:PySem.Expr}(h:∀env w,isTrue x env w=(do let v←w;standAt x.pos;holding [v] (truthy v))):RT c x:=⟨_,fun n=>qt_val ((B.e c x).2 n) (h n.env)⟩
noncomputable def rTT(x:PySem.Expr):RT c x:=exD (RT c) x (fun _=>rTX) (fun _ _=>rTV B fun _ _=>rfl) (fun _ _ _=>rTV B fun _ _=>rfl) (fun _ _ _ _=>rTV B fun _ _=>rfl)
 (fun op x _=>match op with
  | .Not=>⟨_,fun n=>qt_not ((B.t c x).2 n)⟩
  | .Invert| .USub| .UAdd=>rTX)
 (fun op xs p=>match op with
  | .And=>rAnd B c p xs
  | .Or=>rTX)
 (cm:=fun l ops rs _=>match ops,rs with
  |[op],[r]=>if h:behindInMarks op r=false then ⟨_,fun n=>qt_cmp ((B.e c l).2 n) ((B.e c r).2 n) h⟩else rTX
  |[ow1,ow2],[m,r]=>if h:lastMarks [ow1,ow2] [m,r]=false then ⟨_,fun n=>ja5 ((B.e c l).2 n) ((B.e c m).2 n) ((B.e c r).2 n) h⟩else rTX
  |_,_=>rTX)
 (sb:=fun _ _ _=>rTV B fun _ _=>rfl) (ab:=fun _ _ _=>rTV B fun _ _=>rfl) (cl:=fun _ _ _ _=>rTV B fun _ _=>rfl)
noncomputable def rAA(x:PySem.Expr):RA c x:=exD (RA c) x (fun _=>rAX) (fun x p=>if h:vP c x .local=true then ⟨_,fun n=>jbc n.k _ (kd1 h) (kd2 h)⟩else if h:vP c x .cell=true then ⟨_,fun n=>jbd n.k _ (kd1 h) (kd2 h)⟩else rAX)
 (tu:=fun ts _ _=>if h:ts.all ku=true then if (c.md==231&&ts.length==3)=true then ⟨_,fun n=>qa_tupM n.T.X.mat ((rAL B c ts h).2 n)⟩else ⟨_,fun n=>qa_tup ((rAL B c ts h).2 n)⟩else rAX)
 (sb:=fun o k _=>⟨_,fun n=>qa_itm ((B.e c o).2 n) ((B.e c k).2 n)⟩)
 (ab:=fun o y _=>if e:(FN[FN.idxOf y]? ==some y)=true then ⟨_,fun n=>qa_fld _ (beq_iff_eq.mp e) ((B.e c o).2 n)⟩else rAX)
noncomputable abbrev FP(e:PySem.Expr):={k:Nat//(k≤1->∀t r l env,swapsWithSole (t::r) e l env=pure false)∧(k=0->∀us k' p r env,swappedStores (.Tuple us k' p::r) e env=pure none)}
noncomputable def rP0{e:PySem.Expr}(h1:∀t l env,swapsWith e (some t) l env=pure false)(h2:∀us k' p env,swappedStores [.Tuple us k' p] e env=pure none):FP e:=⟨0,fun _ t r _ _=>List.rec (motive:=fun r=>swapsWithSole (t::r) e _ _=_) (h1 _ _ _) (fun _ _ _=>rfl) r,fun _ us k' p r _=>List.rec (motive:=fun r=>swappedStores (.Tuple us k' p::r) e _=_) (h2 _ _ _ _) (fun _ _ _=>rfl) r⟩
noncomputable def rP1{e:PySem.Expr}(h1:∀t l env,swapsWith e (some t) l env=pure false):FP e:=⟨1,fun _ t r _ _=>List.rec (motive:=fun r=>swapsWithSole (t::r) e _ _=_) (h1 _ _ _) (fun _ _ _=>rfl) r,fun h=>absurd h (of_decide_eq_true rfl)⟩
noncomputable def rP(e:PySem.Expr):FP e:=exD FP e (fun _=>⟨2,fun h=>absurd h (of_decide_eq_true rfl),fun h=>absurd h (of_decide_eq_true rfl)⟩) (fun _ _=>rP0 (fun _ _ _=>rfl) fun _ _ _ _=>rfl) (fun _ _ _=>rP0 (fun _ _ _=>rfl) fun _ _ _ _=>rfl) (fun _ _ _ _=>rP0 (fun _ _ _=>rfl) fun _ _ _ _=>rfl) (fun _ _ _=>rP0 (fun _ _ _=>rfl) fun _ _ _ _=>rfl)
 (ie:=fun _ _ _ _=>rP0 (fun _ _ _=>rfl) fun _ _ _ _=>rfl) (tu:=fun _ _ _=>rP1 fun _ _ _=>rfl) (ls:=fun _ _=>rP1 fun _ _ _=>rfl) (dc:=fun _ _ _=>rP0 (fun _ _ _=>rfl) fun _ _ _ _=>rfl) (sb:=fun _ _ _=>rP0 (fun _ _ _=>rfl) fun _ _ _ _=>rfl) (ab:=fun _ _ _=>rP0 (fun _ _ _=>rfl) fun _ _ _ _=>rfl) (cl:=fun _ _ _ _=>rP0 (fun _ _ _=>rfl) fun _ _ _ _=>rfl)
noncomputable abbrev FT(t:PySem.Expr):={b:Bool//b=true->∀r e env,swappedStores (t::r) e env=pure none}
noncomputable def rFT(t:PySem.Expr):FT t:=exD FT t (fun _=>⟨false,fun h=>absurd h Bool.false_ne_true⟩) (fun _ _=>⟨true,fun _ r _ _=>List.rec (motive:=fun r=>swappedStores (_::r) _ _=_) rfl (fun _ _ _=>rfl) r⟩) (sb:=fun _ _ _=>⟨true,fun _ r _ _=>List.rec (motive:=fun r=>swappedStores (_::r) _ _=_) rfl (fun _ _ _=>rfl) r⟩) (ab:=fun _ _ _=>⟨true,fun _ r _ _=>List.rec (motive:=fun r=>swappedStores (_::r) _ _=_) rfl (fun _ _ _=>rfl) r⟩)
noncomputable def rAs(t:PySem.Expr)(r:List PySem.Expr)(e:PySem.Expr)(p:Pos)(hs:(t::r).all ku=true):RS c (.Assign (t::r) e p):=
 if h:(decide ((rP e).1≤1)&&(rFT t).1)=true then ⟨_,fun n=>vL ((B.e c e).2 n) ((rMS B c r t hs).2 n) ((rP e).2.1 (of_decide_eq_true (wI h)) _ _ _ _) ((rFT t).2 (wS h) _ _ _)⟩else
 (exD (fun t=>(t::r).all ku=true->RS c (.Assign (t::r) e p)) t (fun _ _=>rSX)
  (nm:=fun x np hs=>match r with
   |[]=>exD (fun e=>RS c (.Assign [.Name x np] e p)) e (fun _=>rSX) (lc:=fun el g s q=>match g with
    |[⟨tg,i,f,a⟩]=>if h:a=0∧cOk c s i=true then
      if h':vP c x .cell=true then ⟨jl (rLC B el tg i f s q h.1 h.2).1 (UL (c.N.idxOf x)),fun n=>vL ((rLC B el tg i f s q h.1 h.2).2 n) (VW (vA (wI hs)) (jbd n.k _ (kd1 h') (kd2 h'))) (VN n.k _ (kd1 h') (kd2 h')) rfl⟩else
      if h':(vP c x .local&&(np.line==q.line&& !(s.names.any fun(m,k)=>m==x&&(k==.local||k==.cell))))=true then rSC B x np el tg i f s q p h.1 h.2 (wI h') (wS h')else rSX
     else rSX
    |[]=>rSX
    |_::_::_=>rSX)
   |_::_=>rSX)
  (tu:=fun us k p' hs=>
   if h:(rP e).1=0 then ⟨_,fun n=>vL ((B.e c e).2 n) ((rMS B c r _ hs).2 n) ((rP e).2.1 (Nat.le_trans (Nat.le_of_eq h) (Nat.zero_le 1)) _ _ _ _) ((rP e).2.2 h _ _ _ _ _)⟩else match r with
   |[]=>(exD (fun e=>RE c e->RS c (.Assign [.Tuple us k p'] e p)) e (fun _ _=>rSX) (tu:=fun vs k' q E=>match rNm us with
    |none=>rSX
    |some ⟨l,hl⟩=>if h:swOk c l vs=true then match e:swV vs l.length (swN (vP c · .local) l)with
      |some none=>⟨jl E.1 (rMS B c [] _ hs).1,fun n=>by subst hl;exact vL (E.2 n) ((rMS B c [] _ hs).2 n) rfl (jay n h e)⟩
      |some (some ns)=>if h':((((ns.map c.N.idxOf).map (c.N[·]?))==ns.map some)&&(((ns.map c.N.idxOf).map (c.KS[·]?)).all (·==some NameKind.local)))=true then ⟨wu (ns.map c.N.idxOf) ns.length E.1,fun n=>by subst hl;exact qs_swap n.k _ (E.2 n) rfl (jay n h e) (beq_iff_eq.mp (wI h')) (wS h')⟩else rSX
      |none=>rSX
     else rSX)) (B.e c e)
   |_::_=>rSX)) hs
noncomputable def rSS(s:Stmt):RS c s:=match s with
 | .Return v _=>match v with
  |none=>⟨_,fun _=>qs_ret0⟩
  |some e=>⟨_,fun n=>ja7 ((B.e c e).2 n)⟩
 | .Pass _=>⟨_,fun _=>qs_pass⟩
 | .Break _=>⟨_,fun _=>qs_brk⟩
 | .Continue _=>⟨_,fun _=>qs_cont⟩
 | .Expr e p=>exD (fun e=>RS c (.Expr e p)) e (fun _=>rSX) (ct:=fun v _ _=>match v with
   | .str _=>⟨_,fun n=>ja8 n.k rfl⟩
   | .int _| .float _| .bool _| .none| .complex _ _| .bytes _| .ellipsis=>rSX) (cl:=fun _ _ _ _=>⟨_,fun n=>Yg n.k ((B.e c _).2 n) rfl⟩)
 | .If t b o _=>⟨_,fun n=>qs_if ((B.t c t).2 n) ((rB B c b).2 n) ((rB B c o).2 n)⟩
 | .Try b hs o fb _=>match hs,fb with
  |_::_,[]=>⟨_,fun n=>qs_try ((rB B c b).2 n) ((rB B c o).2 n)⟩
  |[],_=>rSX
  |_::_,_::_=>rSX
 | .While t b o _=>match o with
  |[]=>⟨_,fun n=>ja6 ((B.t c t).2 n) ((rB B c b).2 n)⟩
  |_::_=>rSX
 | .For t i b o _=>match o with
  |[]=>if h:(rNS i).1=true then ⟨_,fun n=>qs_for ((rI B t i).2 n) ((B.a c t).2 n) ((rB B c b).2 n) ((rNS i).2 h _)⟩else rSX
  |_::_=>rSX
 | .AugAssign t op e p=>exD (fun t=>RS c (.AugAssign t op e p)) t (fun _=>rSX) fun x np=>if h:op=.Add∧vP c x .local=true then ⟨_,fun n=>h.1▸qs_aug n.k _ (kd1 h.2) (kd2 h.2) ((B.e c e).2 n)⟩else rSX
 | .Assign ts e p=>match ts with
  |[]=>rSX
  |t::r=>if h:(t::r).all ku=true then rAs B t r e p h else rSX
 | .FunctionDef .. | .AsyncFunctionDef .. | .ClassDef .. | .Delete .. | .TypeAlias .. | .AnnAssign .. | .AsyncFor .. | .With .. | .AsyncWith .. | .Match .. | .Raise .. | .TryStar .. | .Assert .. | .Import .. | .ImportFrom .. | .Global .. | .Nonlocal .. =>rSX
noncomputable def sto(k:Nat):Sto:=k.rec ⟨fun _ _=>rX,fun _ _=>rTX,fun _ _=>rAX,fun _ _=>rSX⟩ fun _ B=>⟨fun _=>rEE B,fun _=>rTT B,fun _=>rAA B,fun _=>rSS B⟩
theorem kj{W:WS}{st:Stmt}(n:En c)(h:(rB (sto 12) c (jR st)).1=W):SpB n.F (jR st) W:=h▸(rB (sto 12) c (jR st)).2 n
end
section
noncomputable def yM(p:Arguments)(dV:Value)(q:Str)(args:Args):Sem (List (Str×Value)):=bindArgs {(default:FuncData)with params:=p,defaults:=dV,kwdefaults:=.none,qualname:=q} args
theorem qX(fd:FuncData)(args:Args)(h:fd.kwdefaults=.none):bindArgs fd args=yM fd.params fd.defaults fd.qualname args:=by
 obtain ⟨f1,f2,f3,f4,f5,f6,f7,f8,f9,f10,f11,f12,f13,f14,f15⟩:=fd
 dsimp only at h
 subst h
 rfl
theorem Xm{C:Cx}{st:Stmt}{dV:Value}{N:List Str}{a b c:AV}(h:∀q u v w,yM (k6 st) dV q ⟨[u,v,w],[]⟩=pure ((N.take 3).zip [u,v,w])):yT C st dV N 3 [a,b,c] [a,b,c]:=fun z fd h1 h2 h3 _ _ vs hv=>by
 refine yU ?_ hv.three;rintro u v w rfl _
 exact ⟨_,hv,.of_eq (by rw[qX fd _ h3,h1,h2];exact h _ _ _ _)⟩
theorem wG{C:Cx}{st:Stmt}{dV:Value}{N:List Str}{a b:AV}(h:∀q u v,yM (k6 st) dV q ⟨[u,v],[]⟩=pure ((N.take 2).zip [u,v])):yT C st dV N 2 [a,b] [a,b]:=fun z fd h1 h2 h3 _ _ vs hv=>by
 refine ky ?_ hv.two;rintro u v rfl _
 exact ⟨_,hv,.of_eq (by rw[qX fd _ h3,h1,h2];exact h _ _ _)⟩
theorem wd{C:Cx}{st:Stmt}{dV:Value}{N:List Str}{a:AV}(h:∀q u,yM (k6 st) dV q ⟨[u],[]⟩=pure ((N.take 1).zip [u])):yT C st dV N 1 [a] [a]:=fun z fd h1 h2 h3 _ _ vs hv=>by
 refine jp ?_ hv.one;rintro u rfl _
 exact ⟨_,hv,.of_eq (by rw[qX fd _ h3,h1,h2];exact h _ _)⟩
theorem chk314:jV (jD 17) [Str.ofString "heap",Str.ofString "startpos",Str.ofString "pos",Str.ofString "newitem",Str.ofString "parentpos",Str.ofString "parent"] (.replicate 6 .local) [] [] 3=true:=by decide+kernel
def w314_0(C:Cx)(lv:Nat):WS:=jj (kU .cont) jv
def w314_1(C:Cx)(lv:Nat):WS:=jj (jl (jd 4) (jw 2)) (w314_0 C lv)
def w314_2(C:Cx)(lv:Nat):WS:=jj (jl (jd 5) (KL (jd 0) (jd 2))) (w314_1 C lv)
def w314_3(C:Cx)(lv:Nat):WS:=jj (kU .brk) jv
def w314_4(C:Cx)(lv:Nat):WS:=jj (sIf (j4 .Lt (jd 3) (jd 5)) (w314_2 C lv) jv) (w314_3 C lv)
def w314_5(C:Cx)(lv:Nat):WS:=jj (jl (kl (jd 0) (jd 4)) (jw 5)) (w314_4 C lv)
def w314_6(C:Cx)(lv:Nat):WS:=jj (jl (jQ .RShift (jQ .Sub (jd 2) (jm (.int 1))) (jm (.int 1))) (jw 4)) (w314_5 C lv)
def OU(C:Cx)(lv:Nat):WS:=jj (jl (jd 3) (KL (jd 0) (jd 2))) jv
def w314_8(C:Cx)(lv:Nat):WS:=jj (qG (j4 .Gt (jd 2) (jd 1)) (w314_6 C lv)) (OU C lv)
def Z6(C:Cx)(lv:Nat):WS:=jj (jl (kl (jd 0) (jd 2)) (jw 3)) (w314_8 C lv)
theorem der314(C:Cx)(lv:Nat):(rB (sto 12) ⟨C,lv,[Str.ofString "heap",Str.ofString "startpos",Str.ofString "pos",Str.ofString "newitem",Str.ofString "parentpos",Str.ofString "parent"],(.replicate 6 .local),k8 [],0,[]⟩ (jR (jD 17))).1=Z6 C lv:=by kernel_rfl!
theorem half(q:Nat)(h:0<q):(((q:Int)-1).fdiv (2^Int.toNat 1))=(((q-1)/2:Nat):Int):=by
 rw[Int.fdiv_eq_ediv_of_nonneg _ (by decide)]
 show ((q:Int)-1)/2=_
 lia
theorem half_lt(h:q≤n+1):(q-1)/2≤n:=by omega
theorem YC(h:q<n):(q-1)/2<n:=by omega
def J314(Z:Sig)(a:Addr)(s L:Nat)(x:AV)(fin:List AV×Nat)(n:Nat)(ll:Loc)(o:Sig):Prop:=
 ∃q lc,q≤n∧q<L∧lc.length=L∧(∀x∈lc,Hp x)∧vC x s n q lc=fin∧ll 0=some (.ref a)∧ll 1=some (.int (s:Int))∧ll 2=some (.int (q:Int))∧ll 3=some x∧o=upd Z a (.list lc)
section
variable {C:Cx} {lv:Nat} {a:Addr} {s:Nat} {l:List AV} {Z:Sig} {Ψ:K1} {x:AV} {loc:Loc}
theorem vc314e{q:Nat}{lc:List AV}(hq:q<lc.length)(hl:lc.length≤1000)(e0:loc 0=some (.ref a))(e2:loc 2=some (.int (q:Int)))(e3:loc 3=some x)(h:Ψ .none (upd Z a (.list (lc.set q x)))):OU C lv loc (upd Z a (.list lc)) (j9 Ψ):=
 jh<|ju<|ja e3<|v7<|ja e0<|ja e2<|ve jc hq hl<|jb<|jt<|by rw[j6];exact h
theorem vc314{p:Nat}(hp:p<l.length)(hl:l.length≤1000)(hh:∀x∈l,Hp x)(ha:Z a=some (.list l))(e0:loc 0=some (.ref a))(e1:loc 1=some (.int (s:Int)))(e2:loc 2=some (.int (p:Int)))(h:Ψ .none (upd Z a (.list (Ky l s p)))):Z6 C lv loc Z (j9 Ψ):=by
 refine jh<|ju<|ka<|ja e0<|ja e2<|jO ha (qW hp) hl<|jr<|jb<|jh<|vZ (J314 Z a s l.length (l.getD p .none) (vC (l.getD p .none) s p p l)) p ⟨p,l,Nat.le_refl _,hp,rfl,hh,rfl,e0,e1,e2,rfl,(yh ha).symm⟩ ?_
 rintro n ll o ⟨q,lc,hq,hq2,hlc,hhc,hd,e0,e1,e2,e3,rfl⟩
 have hq3:q<lc.length:=hlc▸hq2
 have hl3:lc.length≤1000:=hlc▸hl
 have fin:vC (l.getD p .none) s n q lc=(lc,q)->OU C lv ll (upd Z a (.list lc)) (j9 Ψ):=fun e=>vc314e hq3 hl3 e0 e2 e3 (by delta Ky at h;rw[←hd,e]at h;exact h)
 refine jz<|ja e2<|ja e1<|Ks rfl ⟨fun hc=> ?_,fun hc=> ?_⟩
 ·have hc:=of_decide_eq_false hc
  exact fin (by cases n with|zero=>rfl|succ n=>rw[yH,if_neg (fun h=>hc (Int.ofNat_lt.mpr h))])
 ·have hc:=Int.ofNat_lt.mp (of_decide_eq_true hc)
  obtain ⟨n,rfl⟩:∃m,n=m+1:=⟨n-1,by lia⟩
  have hlt:=YC hq3
  refine jh<|ju<|jE<|jE<|ja e2<|js<|(show wY _ _ _ _ _ from⟨by decide,?_⟩)
  rw[half q (Nat.lt_of_le_of_lt (Nat.zero_le _) hc)]
  refine jr<|jb<|jh<|ju<|ka<|ja e0<|ja rfl<|jO jc (qW hlt) hl3<|jr<|jb<|jh<|qk<|jz<|ja e3<|ja rfl<|i_ltt<|ZU (hh _ (kW hp)) (hhc _ (kW hlt)) ⟨_,rfl,fun hb=> ?_,fun hb=> ?_⟩
  ·refine jh<|ju<|ja rfl<|v7<|ja e0<|ja e2<|ve jc hq3 hl3<|jb<|jh<|ju<|ja rfl<|jr<|jb<|jh<|kJ<|i_cont (Φ:=q9 (OU C lv) (j9 Ψ)) (Nat.lt_succ_self _) ?_
   refine ⟨(q-1)/2,_,half_lt hq,YC hq2,by rw[List.length_set];exact hlc,Ku hhc (hhc _ (kW hlt)),?_,e0,e1,rfl,e3,j6⟩
   rw[←hd,yH,if_pos hc,if_pos hb]
  ·refine jt<|jb<|jh<|kJ<|fin ?_
   rw[yH,if_pos hc,if_neg (by rw[hb];exact Bool.false_ne_true)]
end
theorem spec314{C:Cx}(X:PC C)(lv:Nat){a:Addr}{s p:Nat}{l:List AV}{Z:Sig}{Ψ:K1}(ha:Z a=some (.list l))(hp:p<l.length)(hl:l.length≤1000)(hh:∀x∈l,Hp x)(h:Ψ .none (upd Z a (.list (Ky l s p)))):jC C (lv+1) (.ref 314) [.ref a,.int (s:Int),.int (p:Int)] Z Ψ:=
 jM X (X.fn 6 rfl) chk314 rfl (Xm fun _ _ _ _=>rfl) fun A env x1 x2 x3 cs z k T hcd hcl hcn hcf R tk=>SpB.use (kj ⟨_,_,_,_,_,k,T⟩ (der314 _ _)) R tk (vc314 hp hl hh ha rfl rfl rfl h)
end
section
theorem chk321:jV (jD 18) [Str.ofString "heap",Str.ofString "pos",Str.ofString "endpos",Str.ofString "startpos",Str.ofString "newitem",Str.ofString "childpos",Str.ofString "rightpos"] (.replicate 7 .local) [] [0,20] 2=true:=by decide+kernel
def w321_0(C:Cx)(lv:Nat):WS:=jj (jl (jd 6) (jw 5)) jv
def w321_1(C:Cx)(lv:Nat):WS:=jj (jl (jQ .Add (jQ .Mult (jm (.int 2)) (jd 1)) (jm (.int 1))) (jw 5)) jv
def w321_2(C:Cx)(lv:Nat):WS:=jj (jl (jd 5) (jw 1)) (w321_1 C lv)
def Z5(C:Cx)(lv:Nat):WS:=jj (jl (kl (jd 0) (jd 5)) (KL (jd 0) (jd 1))) (w321_2 C lv)
def w321_4(C:Cx)(lv:Nat):WS:=jj (sIf (qh (j4 .Lt (jd 6) (jd 2)) (qh (VL (j4 .Lt (kl (jd 0) (jd 5)) (kl (jd 0) (jd 6)))) k5)) (w321_0 C lv) jv) (Z5 C lv)
def w321_5(C:Cx)(lv:Nat):WS:=jj (jl (jQ .Add (jd 5) (jm (.int 1))) (jw 6)) (w321_4 C lv)
def w321_6(C:Cx)(lv:Nat):WS:=jj (kz (jy C lv (jm (.ref 314)) (jg (jd 0) (jg (jd 3) (jg (jd 1) jq))))) jv
def OT(C:Cx)(lv:Nat):WS:=jj (jl (jd 4) (KL (jd 0) (jd 1))) (w321_6 C lv)
def w321_8(C:Cx)(lv:Nat):WS:=jj (qG (j4 .Lt (jd 5) (jd 2)) (w321_5 C lv)) (OT C lv)
def w321_9(C:Cx)(lv:Nat):WS:=jj (jl (jQ .Add (jQ .Mult (jm (.int 2)) (jd 1)) (jm (.int 1))) (jw 5)) (w321_8 C lv)
def w321_10(C:Cx)(lv:Nat):WS:=jj (jl (kl (jd 0) (jd 1)) (jw 4)) (w321_9 C lv)
def w321_11(C:Cx)(lv:Nat):WS:=jj (jl (jd 1) (jw 3)) (w321_10 C lv)
def XE(C:Cx)(lv:Nat):WS:=jj (jl (jy C lv (jm (.bi .len)) (jg (jd 0) jq)) (jw 2)) (w321_11 C lv)
theorem der321(C:Cx)(lv:Nat):(rB (sto 12) ⟨C,lv,[Str.ofString "heap",Str.ofString "pos",Str.ofString "endpos",Str.ofString "startpos",Str.ofString "newitem",Str.ofString "childpos",Str.ofString "rightpos"],(.replicate 7 .local),k8 [0,20],0,[]⟩ (jR (jD 18))).1=XE C lv:=by kernel_rfl!
def J321(Z:Sig)(a:Addr)(p L:Nat)(x:AV)(fin:List AV×Nat)(n:Nat)(ll:Loc)(o:Sig):Prop:=
 ∃q lc,L≤n+q∧q<L∧lc.length=L∧(∀x∈lc,Hp x)∧upF n q lc=fin∧ll 0=some (.ref a)∧ll 1=some (.int (q:Int))∧ll 2=some (.int (L:Int))∧ll 3=some (.int (p:Int))∧ll 4=some x∧ll 5=some (.int ((2*q+1:Nat):Int))∧o=upd Z a (.list lc)
theorem Kr(h:loc i=some (.ref a))(h1:vQ C Z a l)(h2:l.length≤1000)(k:Ψ (.int (l.length:Int)) Z):jy C lv (jm (.bi .len)) (jg (jd i) jq) loc Z Ψ:=
 ⟨trivial,_,h,l,h1,h2,k⟩
theorem jS(h:Z a=some (.list l)):vQ C Z a l:=.inr h
theorem YV(h:2*q+1<l.length):j5 l q<l.length:=by delta j5;split<;>omega
theorem YX:q<j5 l q:=by delta j5;split<;>lia
theorem fuel_up(h:L≤n+1+q)(h2:q<q'):L≤n+q':=by lia
section
variable {C:Cx} {lv:Nat} {a:Addr} {l:List AV} {Z:Sig} {Ψ:K1} {x:AV} {loc:Loc}
theorem vc321e(X:PC C){p q:Nat}{lc:List AV}(hq:q<lc.length)(hl:lc.length≤1000)(hh:∀x∈lc,Hp x)(hx:Hp x)(e0:loc 0=some (.ref a))(e1:loc 1=some (.int (q:Int)))(e3:loc 3=some (.int (p:Int)))(e4:loc 4=some x)(h:Ψ .none (upd Z a (.list (Ky (lc.set q x) p q)))):OT C (lv+1) loc (upd Z a (.list lc)) (j9 Ψ):=by
 refine jh<|ju<|ja e4<|v7<|ja e0<|ja e1<|ve jc hq hl<|jb<|jh<|jU<|ke (jA rfl)<|jf<|ja e0<|jf<|ja e3<|jf<|ja e1<|jo ⟨jA rfl,?_⟩
 rw[j6]
 exact spec314 X lv jc (by rw[List.length_set];exact hq) (by rw[List.length_set];exact hl) (Ku hh hx) (jb<|jt<|by rw[j6];exact h)
theorem vc321(X:PC C){p:Nat}(hp:p<l.length)(hl:l.length≤1000)(hh:∀x∈l,Hp x)(ha:Z a=some (.list l))(e0:loc 0=some (.ref a))(e1:loc 1=some (.int (p:Int)))(h:Ψ .none (upd Z a (.list (upP l p)))):XE C (lv+1) loc Z (j9 Ψ):=by
 refine jh<|ju<|Kr e0 (jS ha) hl<|jr<|jb<|jh<|ju<|ja e1<|jr<|jb<|jh<|ju<|ka<|ja e0<|ja e1<|jO ha (qW hp) hl<|jr<|jb<|jh<|ju<|jE<|jE<|js<|ja e1<|Ut (c:=((2*p:Nat):Int)) (by decide) rfl<|js<|jP (c:=((2*p+1:Nat):Int)) rfl<|jr<|jb<|jh<|vZ (J321 Z a p l.length (l.getD p .none) (upF (l.length-p) p l)) (l.length-p) ⟨p,l,by lia,hp,rfl,hh,rfl,e0,e1,rfl,rfl,rfl,rfl,(yh ha).symm⟩ ?_
 rintro n ll o ⟨q,lc,hq,hq2,hlc,hhc,hd,e0,e1,e2,e3,e4,e5,rfl⟩
 have hq3:q<lc.length:=hlc▸hq2
 have hl3:lc.length≤1000:=hlc▸hl
 refine jz<|ja e5<|ja e2<|yC rfl ⟨fun hc=> ?_,fun hc=> ?_⟩
 ·have hc:=of_decide_eq_false hc
  refine vc321e X hq3 hl3 hhc (hh _ (kW hp)) e0 e1 e3 e4 ?_
  have:upF n q lc=(lc,q):=by
   cases n with
   |zero=>rfl
   |succ n=>rw[XZ,if_neg (fun h=>hc (Int.ofNat_lt.mpr (hlc▸h)))]
  delta upP at h
  rw[←hd,this]at h
  exact h
 ·have hc:=Int.ofNat_lt.mp (of_decide_eq_true hc)
  have hc3:2*q+1<lc.length:=hlc▸hc
  obtain ⟨n,rfl⟩:∃m,n=m+1:=⟨n-1,by lia⟩
  have hs:=YV hc3
  have rest:∀ll':Loc,ll' 0=some (.ref a)->ll' 1=some (.int (q:Int))->ll' 2=some (.int (l.length:Int))->ll' 3=some (.int (p:Int))->ll' 4=some (l.getD p .none)->ll' 5=some (.int ((j5 lc q:Nat):Int))->
    Z5 C (lv+1) ll' (upd Z a (.list lc)) (kq (J321 Z a p l.length (l.getD p .none) (upF (l.length-p) p l)) (q9 (OT C (lv+1)) (j9 Ψ)) (n+1)):=fun ll' e0 e1 e2 e3 e4 e5=>by
   refine jh<|ju<|ka<|ja e0<|ja e5<|jO jc (qW hs) hl3<|v7<|ja e0<|ja e1<|ve jc hq3 hl3<|jb<|jh<|ju<|ja e5<|jr<|jb<|jh<|ju<|jE<|jE<|js<|ja rfl<|Ut (c:=((2*j5 lc q:Nat):Int)) (by decide) rfl<|js<|jP (c:=((2*j5 lc q+1:Nat):Int)) rfl<|jr<|jb<|jt<|vd (Φ:=q9 (OT C (lv+1)) (j9 Ψ)) (Nat.lt_succ_self _) ?_
   refine ⟨j5 lc q,_,fuel_up hq YX,hlc▸hs,by rw[List.length_set];exact hlc,Ku hhc (hhc _ (kW hs)),?_,e0,rfl,e2,e3,e4,rfl,j6⟩
   rw[←hd,XZ,if_pos hc3]
  refine jh<|ju<|jE<|ja e5<|js<|jP (c:=((2*q+2:Nat):Int)) rfl<|jr<|jb<|jh<|qk<|kB<|jz<|ja rfl<|ja e2<|yC rfl ⟨fun hr=> ?_,fun hr=> ?_⟩
  ·have hr:=of_decide_eq_false hr
   refine ⟨(fun h=>nomatch h),fun _=>jt<|jb<|rest _ e0 e1 e2 e3 e4 ?_⟩
   delta j5
   rw[if_neg (fun h=>hr (Int.ofNat_lt.mpr (hlc▸h.1)))]
   exact e5
  ·have hr:=Int.ofNat_lt.mp (of_decide_eq_true hr)
   have hr3:2*q+2<lc.length:=hlc▸hr
   refine kB<|Vk<|jz<|ka<|ja e0<|ja e5<|jO jc (qW hc3) hl3<|ka<|ja e0<|ja rfl<|jO jc (qW hr3) hl3<|i_ltt<|ZU (hhc _ (kW hc3)) (hhc _ (kW hr3)) ⟨_,rfl,?_⟩
   refine ⟨fun hb=>⟨(fun h=>nomatch h),fun _=>jt<|jb<|rest _ e0 e1 e2 e3 e4 ?_⟩,fun hb=>qI ⟨fun _=>jh<|ju<|ja rfl<|jr<|jb<|jt<|jb<|rest _ e0 e1 e2 e3 e4 ?_,(fun h=>nomatch h)⟩⟩
   ·delta j5
    rw[if_neg (fun h=>by rw[h.2]at hb;cases hb)]
    exact e5
   ·delta j5
    rw[if_pos ⟨hr3,by simpa using hb⟩]
    rfl
end
theorem O3{C:Cx}(X:PC C)(lv:Nat){a:Addr}{p:Nat}{l:List AV}{Z:Sig}{Ψ:K1}(ha:Z a=some (.list l))(hp:p<l.length)(hl:l.length≤1000)(hh:∀x∈l,Hp x)(h:Ψ .none (upd Z a (.list (upP l p)))):jC C (lv+2) (.ref 321) [.ref a,.int (p:Int)] Z Ψ:=
 jM X (X.fn 7 rfl) chk321 rfl (wG fun _ _ _=>rfl) fun A env x1 x2 x3 cs z k T hcd hcl hcn hcf R tk=>SpB.use (kj ⟨_,_,_,_,_,k,T⟩ (der321 _ _)) R tk (vc321 X hp hl hh ha rfl rfl h)
end
section
theorem qU{l:List AV}{i:Nat}{v:AV}(h:i<l.length):(l.set i v).getD i .none=v:=by simp[List.getD_eq_getElem?_getD,h]
theorem kF{l:List AV}{i j:Nat}{v:AV}(h:i≠j):(l.set i v).getD j .none=l.getD j .none:=by simp[List.getD_eq_getElem?_getD,List.getElem?_set_ne h]
theorem zX{l:List AV}{i:Nat}:l.set i (l.getD i .none)=l:=by
 by_cases h:i<l.length
 ·rw[List.getD_eq_getElem?_getD,List.getElem?_eq_getElem h];exact List.set_getElem_self h
 ·exact List.set_eq_of_length_le (Nat.le_of_not_lt h)
theorem UW{l:List AV}{i j:Nat}{x:AV}(hi:i<l.length)(hj:j<l.length)(h:i≠j):((l.set i (l.getD j .none)).set j x).Perm (l.set i x):=by
 have hi':i<(l.set i x).toArray.size:=by simpa using hi
 have hj':j<(l.set i x).toArray.size:=by simpa using hj
 have:=Array.perm_iff_toList_perm.mp (Array.swap_perm hi' hj')
 rw[Array.swap_def]at this
 simp only[Array.toList_set,List.getElem_toArray,List.set_set,List.getElem_set_self]at this
 rw[List.getElem_set_ne h]at this
 rwa [List.getD_eq_getElem?_getD,List.getElem?_eq_getElem hj]
theorem vk(h:0<i):(i-1)/2<i:=by lia
theorem Uc(h:0<i):(i-1)/2=q↔i=2*q+1∨i=2*q+2:=by lia
theorem Xj{x:AV}{s n:Nat}:∀(q:Nat) (l:List AV),q<l.length->((vC x s n q l).1.set (vC x s n q l).2 x).Perm (l.set q x)∧(vC x s n q l).1.length=l.length∧(vC x s n q l).2<l.length:=by
 induction n with
 |zero=>exact fun q l h=>⟨.refl _,rfl,h⟩
 |succ n ih=>
  intro q l h
  rw[yH]
  split
  ·rename_i hs
   have hp:=Nat.lt_of_le_of_lt (Nat.le_trans (Nat.div_le_self (q-1) 2) (Nat.sub_le _ _)) h
   split
   ·have ih:=ih ((q-1)/2) (l.set q (l.getD ((q-1)/2) .none)) (by rw[List.length_set];exact hp)
    rw[List.length_set]at ih
    exact ⟨ih.1.trans (UW h hp (Nat.ne_of_gt (vk (Nat.lt_of_le_of_lt (Nat.zero_le _) hs)))),ih.2⟩
   ·exact ⟨.refl _,rfl,h⟩
  ·exact ⟨.refl _,rfl,h⟩
theorem Xi{l:List AV}{s q:Nat}(h:q<l.length):(Ky l s q).Perm l:=by
 have:=(Xj (x:=l.getD q .none) (s:=s) (n:=q) q l h).1
 rwa [zX]at this
theorem YW:q<j5 l q:=by delta j5;split<;>lia
theorem Ox(h:2*q+1<l.length):j5 l q<l.length:=by
 delta j5;split
 ·rename_i h';exact h'.1
 ·exact h
theorem UP{x:AV}:∀(n q:Nat) (l:List AV),q<l.length->((upF n q l).1.set (upF n q l).2 x).Perm (l.set q x)∧(upF n q l).1.length=l.length∧(upF n q l).2<l.length:=by
 intro v__
 induction v__ with
 |zero=>
  intro q l h
  exact ⟨.refl _,rfl,h⟩
 |succ n ih=>
  intro q l h
  rw[XZ]
  split
  ·rename_i hs
   have hp:=Ox hs
   have ih:=ih (j5 l q) (l.set q (l.getD (j5 l q) .none)) (by rw[List.length_set];exact hp)
   simp only[List.length_set]at ih
   exact ⟨ih.1.trans (UW h hp (Nat.ne_of_lt YW)),ih.2⟩
  ·exact ⟨.refl _,rfl,h⟩
theorem yi{l:List AV}{p:Nat}(h:p<l.length):(upP l p).Perm l:=by
 have h1:=UP (x:=l.getD p .none) (l.length-p) p l h
 simp only[zX]at h1
 exact (Xi (by simp only[List.length_set,h1.2.1];exact h1.2.2)).trans h1.1
inductive Bel(s:Nat):Nat->Prop
 |self:Bel s s
 |kid {q c:Nat}:Bel s q->(c=2*q+1∨c=2*q+2)->Bel s c
theorem Bel.le(h:Bel s q):s≤q:=by
 induction h with
 |self=>exact Nat.le_refl _
 |kid _ h ih=>lia
theorem Bel.up(h:Bel s q)(hq:s<q):Bel s ((q-1)/2):=by
 cases h with
 |self=>exact absurd hq (Nat.lt_irrefl _)
 |kid h1 h2=>rwa [(Uc (by lia)).mpr h2]
section
variable (r:AV->Int) (G:AV->Prop)
def qm(l:List AV)(s:Nat):Prop:=∀i,0<i->i<l.length->s≤(i-1)/2->r (l.getD ((i-1)/2) .none)≤r (l.getD i .none)
structure Hole(l:List AV)(s q:Nat):Prop where
 A:∀i,0<i->i<l.length->s≤(i-1)/2->i≠q->(i-1)/2≠q->r (l.getD ((i-1)/2) .none)≤r (l.getD i .none)
 C:s<q->∀i,0<i->i<l.length->(i-1)/2=q->r (l.getD ((q-1)/2) .none)≤r (l.getD i .none)
variable {r G}
theorem ZH(hr:∀u v,G u->G v->ltA u v=decide (r u<r v)){x:AV}{s:Nat}(hx:G x):∀(n q:Nat) (l:List AV),q≤n->q<l.length->Bel s q->(∀y∈l,G y)->Hole r l s q->(∀i,0<i->i<l.length->(i-1)/2=q->r x≤r (l.getD i .none))->qm r ((vC x s n q l).1.set (vC x s n q l).2 x) s:=by
 have stop:∀(q:Nat) (l:List AV),q<l.length->Hole r l s q->(∀i,0<i->i<l.length->(i-1)/2=q->r x≤r (l.getD i .none))->(s<q->r (l.getD ((q-1)/2) .none)≤r x)->s≤q->qm r (l.set q x) s:=fun q l hq H B hp hs i h0 hi hsi=>by
  rw[List.length_set]at hi
  by_cases h1:i=q
  ·subst h1
   have:=vk h0
   rw[qU hq,kF (Nat.ne_of_gt this)]
   exact hp (Nat.lt_of_le_of_lt hsi this)
  ·rw[kF (fun e=>h1 e.symm)]
   by_cases h2:(i-1)/2=q
   ·rw[h2,qU hq];exact B i h0 hi h2
   ·rw[kF (fun e=>h2 e.symm)];exact H.A i h0 hi hsi h1 h2
 intro n
 induction n with
 |zero=>
  intro q l hn hq hd hG H B
  have:q=0:=Nat.le_zero.mp hn
  subst this
  exact stop 0 l hq H B (fun h=>absurd h (Nat.not_lt_zero _)) hd.le
 |succ n ih=>
  intro q l hn hq hd hG H B
  rw[yH]
  split
  ·rename_i hs
   have hpl:=vk (Nat.lt_of_le_of_lt (Nat.zero_le _) hs)
   have hp:(q-1)/2<l.length:=Nat.lt_trans hpl hq
   have hsp:=(hd.up hs).le
   rw[hr _ _ hx (hG _ (kW hp))]
   split
   ·rename_i hlt
    have hlt:=of_decide_eq_true hlt
    have f1:∀i,i≠q->(l.set q (l.getD ((q-1)/2) .none)).getD i .none=l.getD i .none:=fun i hi=>kF (Ne.symm hi)
    haveI fq:(l.set q (l.getD ((q-1)/2) .none)).getD q .none=l.getD ((q-1)/2) .none:=qU hq
    refine ih ((q-1)/2) _ (Nat.le_of_lt_succ (Nat.lt_of_lt_of_le hpl hn)) (by rw[List.length_set];exact hp) (hd.up hs) (fun y hy=>by
     rcases zJ hy with rfl|hy
     ·exact hG _ (kW hp)
     ·exact hG y hy) ⟨fun i h0 hi hsi h1 h2=> ?_,fun hs2 i h0 hi h2=> ?_⟩ fun i h0 hi h2=> ?_
    ·rw[List.length_set]at hi
     haveI hiq:i≠q:=fun e=>h2 (e▸rfl)
     rw[f1 i hiq]
     by_cases h3:(i-1)/2=q
     ·rw[h3,fq];exact H.C hs i h0 hi h3
     ·rw[f1 _ h3];exact H.A i h0 hi hsi hiq h3
    ·rw[List.length_set]at hi
     have hpp:r (l.getD (((q-1)/2-1)/2) .none)≤r (l.getD ((q-1)/2) .none):=by
      have h0p:0<(q-1)/2:=Nat.lt_of_le_of_lt (Nat.zero_le _) hs2
      refine H.A _ h0p hp ((hd.up hs).up hs2).le (Nat.ne_of_lt hpl) (Nat.ne_of_lt (Nat.lt_trans (vk h0p) hpl))
     rw[f1 _ (Nat.ne_of_lt (Nat.lt_trans (vk (Nat.lt_of_le_of_lt (Nat.zero_le _) hs2)) hpl))]
     by_cases h3:i=q
     ·rw[h3,fq];exact hpp
     ·rw[f1 i h3]
      refine Int.le_trans hpp ?_
      have:=H.A i h0 hi (h2▸hsp) h3 (h2▸(Nat.ne_of_lt hpl))
      rwa [h2]at this
    ·rw[List.length_set]at hi
     by_cases h3:i=q
     ·rw[h3,fq];exact Int.le_of_lt hlt
     ·rw[f1 i h3]
      have:=H.A i h0 hi (h2▸hsp) h3 (h2▸(Nat.ne_of_lt hpl))
      rw[h2]at this
      exact Int.le_trans (Int.le_of_lt hlt) this
   ·rename_i hlt
    exact stop q l hq H B (fun _=>Int.not_lt.mp fun h=>hlt (decide_eq_true h)) hd.le
  ·rename_i hs
   exact stop q l hq H B (fun h=>absurd h hs) hd.le
theorem up_hole(hr:∀u v,G u->G v->ltA u v=decide (r u<r v)){s:Nat}:∀(n q:Nat) (l:List AV),l.length≤n+q->q<l.length->Bel s q->(∀y∈l,G y)->Hole r l s q->Hole r (upF n q l).1 s (upF n q l).2∧l.length≤2*(upF n q l).2+1∧Bel s (upF n q l).2:=by
 intro n
 induction n with
 |zero=>intro q l hn hq;rw[Nat.zero_add]at hn;exact absurd hq (Nat.not_lt.mpr hn)
 |succ n ih=>
  intro q l hn hq hd hG H
  rw[XZ]
  split
  ·rename_i hs
   have hc:=Ox hs
   have hck:j5 l q=2*q+1∨j5 l q=2*q+2:=by delta j5;split;exact .inr rfl;exact .inl rfl
   have hmin:∀i,(i=2*q+1∨i=2*q+2)->i<l.length->r (l.getD (j5 l q) .none)≤r (l.getD i .none):=fun i hi hl=>by
    delta j5
    by_cases h2:2*q+2<l.length
    ·rw[hr _ _ (hG _ (kW hs)) (hG _ (kW h2))]
     by_cases h3:r (l.getD (2*q+1) .none)<r (l.getD (2*q+2) .none)
     ·rw[if_neg (fun h=>of_decide_eq_false h.2 h3)]
      rcases hi with rfl|rfl
      ·exact Int.le_refl _
      ·exact Int.le_of_lt h3
     ·rw[if_pos ⟨h2,decide_eq_false h3⟩]
      rcases hi with rfl|rfl
      ·exact Int.not_lt.mp h3
      ·exact Int.le_refl _
    ·rw[if_neg (fun h=>h2 h.1)]
     rcases hi with rfl|rfl
     ·exact Int.le_refl _
     ·exact absurd hl h2
   generalize hce:j5 l q=c at hc hck hmin⊢
   have hc0:0<c:=by lia
   have hcp:(c-1)/2=q:=(Uc hc0).mpr hck
   have hqc:q<c:=hcp▸vk hc0
   have f1:∀i,i≠q->(l.set q (l.getD c .none)).getD i .none=l.getD i .none:=fun i hi=>kF (Ne.symm hi)
   haveI fq:(l.set q (l.getD c .none)).getD q .none=l.getD c .none:=qU hq
   have:=ih c (l.set q (l.getD c .none)) (by rw[List.length_set];lia) (by rw[List.length_set];exact hc) (hd.kid hck) (fun y hy=>by
     rcases zJ hy with rfl|hy
     ·exact hG _ (kW hc)
     ·exact hG y hy) ⟨fun i h0 hi hsi h1 h2=> ?_,fun hs2 i h0 hi h2=> ?_⟩
   ·rw[List.length_set]at this;exact this
   ·rw[List.length_set]at hi
    by_cases h3:i=q
    ·cases h3
     simp only[fq,f1 _ (Nat.ne_of_lt (vk h0))]
     exact H.C (Nat.lt_of_le_of_lt hsi (vk h0)) c hc0 hc hcp
    ·rw[f1 i h3]
     by_cases h4:(i-1)/2=q
     ·simp only[h4,fq];exact hmin i ((Uc h0).mp h4) hi
     ·rw[f1 _ h4];exact H.A i h0 hi hsi h3 h4
   ·rw[List.length_set]at hi
    have hic:c<i:=h2▸vk h0
    simp only[hcp,fq,f1 i (Nat.ne_of_gt (Nat.lt_trans hqc hic))]
    have:=H.A i h0 hi (by rw[h2];exact Nat.le_of_lt hs2) (Nat.ne_of_gt (Nat.lt_trans hqc hic)) (by rw[h2];exact Nat.ne_of_gt hqc)
    rwa [h2]at this
  ·rename_i hs
   exact ⟨H,Nat.le_of_not_lt hs,hd⟩
theorem UO(hr:∀u v,G u->G v->ltA u v=decide (r u<r v)){l:List AV}{p:Nat}(hp:p<l.length)(hG:∀y∈l,G y)(h:qm r l (p+1)):qm r (upP l p) p:=by
 refine wO (fun h1 h2 h3=> ?_) (up_hole hr (l.length-p) p l (by lia) hp .self hG (⟨fun i h0 hi hs h1 h2=>h i h0 hi (Nat.lt_of_le_of_ne hs (Ne.symm h2)),fun h=>absurd h (Nat.lt_irrefl _)⟩))
 refine wO (fun q1 q2 q3=> ?_) (UP (x:=l.getD p .none) (l.length-p) p l hp)
 rw[zX]at q1
 delta upP
 generalize (upF (l.length-p) p l).1=l1 at*
 generalize (upF (l.length-p) p l).2=q at*
 haveI hq:q<l1.length:=q2▸q3
 have ne:∀i,0<i->i<l1.length->(i-1)/2≠q:=fun i h0 hi e=>by
  have:=(Uc h0).mp e
  lia
 delta Ky
 rw[qU hq]
 refine ZH hr (hG _ (kW hp)) q q _ (Nat.le_refl _) (by rw[List.length_set];exact hq) h3 (fun y hy=>hG y (q1.mem_iff.mp hy)) ⟨fun i h0 hi hs h4 h5=> ?_,fun _ i h0 hi h4=> ?_⟩ fun i h0 hi h4=> ?_
 ·rw[List.length_set]at hi
  rw[kF (Ne.symm h4),kF (Ne.symm h5)]
  exact h1.A i h0 hi hs h4 h5
 ·rw[List.length_set]at hi;exact absurd h4 (ne i h0 hi)
 ·rw[List.length_set]at hi;exact absurd h4 (ne i h0 hi)
theorem jb2(h:qm r l 0):∀i,i<l.length->r (l.getD 0 .none)≤r (l.getD i .none):=fun i=>by
 induction i using Nat.strongRecOn with
 |ind i ih=>
  intro hi
  by_cases h0:0<i
  ·exact Int.le_trans (ih _ (vk h0) (Nat.lt_trans (vk h0) hi)) (h i h0 hi (Nat.zero_le _))
  ·have:i=0:=Nat.eq_zero_of_not_pos h0
   subst this;exact Int.le_refl _
end
noncomputable def hpF:Nat->List AV->List AV
 |0,l=>l
 |k+1,l=>hpF k (upP l k)
theorem hpF_s{k:Nat}{l:List AV}:hpF (k+1) l=hpF k (upP l k):=rfl
theorem jb0:∀(k:Nat) (l:List AV),k≤l.length->(hpF k l).Perm l:=by
 intro v__
 induction v__ with
 |zero=>
  intro l _
  exact .refl _
 |succ k ih=>
  intro l h
  have h1:=yi (l:=l) (p:=k) h
  exact (ih _ (h1.length_eq▸(Nat.le_of_succ_le h))).trans h1
theorem jb1{r:AV->Int}{G:AV->Prop}(hr:∀u v,G u->G v->ltA u v=decide (r u<r v)):∀(k:Nat) (l:List AV),k≤l.length->(∀y∈l,G y)->qm r l k->qm r (hpF k l) 0:=by
 intro v__
 induction v__ with
 |zero=>
  intro l _ _ h
  exact h
 |succ k ih=>
  intro l hk hG h
  have h1:=yi (l:=l) (p:=k) hk
  exact ih _ (h1.length_eq▸(Nat.le_of_succ_le hk)) (fun y hy=>hG y (h1.mem_iff.mp hy)) (UO hr hk hG h)
theorem Zz{r:AV->Int}:qm r l (l.length/2):=fun i h0 hi h=>by lia
end
section
theorem chk307:jV (jD 15) [Str.ofString "x",Str.ofString "n",Str.ofString "i"] [.local,.local,.local] [] [0,6,4,21] 1=true:=by decide+kernel
def w307_0(C:Cx)(lv:Nat):WS:=jj (kz (jy C lv (jm (.ref 321)) (jg (jd 0) (jg (jd 2) jq)))) jv
def w307_1(C:Cx)(lv:Nat):WS:=jj (wP (YB (jm (.ty "reversed")) (jm (.ty "range")) (jg (jQ .FloorDiv (jd 1) (jm (.int 2))) jq)) (jw 2) (w307_0 C lv)) jv
def w307_2(C:Cx)(lv:Nat):WS:=jj (jl (jy C lv (jm (.bi .len)) (jg (jd 0) jq)) (jw 1)) (w307_1 C lv)
def Z7(C:Cx)(lv:Nat):WS:=jj (kU .next) (w307_2 C lv)
theorem der307(C:Cx)(lv:Nat):(rB (sto 12) ⟨C,lv,[Str.ofString "x",Str.ofString "n",Str.ofString "i"],[.local,.local,.local],k8 [0,6,4,21],0,[]⟩ (jR (jD 15))).1=Z7 C lv:=by kernel_rfl!
theorem chk293:jV (jD 12) [Str.ofString "heap",Str.ofString "lastelt",Str.ofString "returnitem"] [.local,.local,.local] [] [21] 1=true:=by decide+kernel
def w293_0(C:Cx)(lv:Nat):WS:=jj (vc (jd 2)) jv
def w293_1(C:Cx)(lv:Nat):WS:=jj (kz (jy C lv (jm (.ref 321)) (jg (jd 0) (jg (jm (.int 0)) jq)))) (w293_0 C lv)
def w293_2(C:Cx)(lv:Nat):WS:=jj (jl (jd 1) (KL (jd 0) (jm (.int 0)))) (w293_1 C lv)
def w293_3(C:Cx)(lv:Nat):WS:=jj (jl (kl (jd 0) (jm (.int 0))) (jw 2)) (w293_2 C lv)
def w293_4(C:Cx)(lv:Nat):WS:=jj (vc (jd 1)) jv
def w293_5(C:Cx)(lv:Nat):WS:=jj (sIf (wo (jd 0)) (w293_3 C lv) jv) (w293_4 C lv)
def w293_6(C:Cx)(lv:Nat):WS:=jj (jl (kh C .pop (jd 0) jq) (jw 1)) (w293_5 C lv)
def Z9(C:Cx)(lv:Nat):WS:=jj (kU .next) (w293_6 C lv)
theorem der293(C:Cx)(lv:Nat):(rB (sto 12) ⟨C,lv,[Str.ofString "heap",Str.ofString "lastelt",Str.ofString "returnitem"],[.local,.local,.local],k8 [21],0,[]⟩ (jR (jD 12))).1=Z9 C lv:=by kernel_rfl!
theorem chk300:jV (jD 13) [Str.ofString "heap",Str.ofString "item",Str.ofString "returnitem"] [.local,.local,.local] [] [21] 2=true:=by decide+kernel
def w300_0(C:Cx)(lv:Nat):WS:=jj (vc (jd 2)) jv
def w300_1(C:Cx)(lv:Nat):WS:=jj (kz (jy C lv (jm (.ref 321)) (jg (jd 0) (jg (jm (.int 0)) jq)))) (w300_0 C lv)
def w300_2(C:Cx)(lv:Nat):WS:=jj (jl (jd 1) (KL (jd 0) (jm (.int 0)))) (w300_1 C lv)
def w300_3(C:Cx)(lv:Nat):WS:=jj (jl (kl (jd 0) (jm (.int 0))) (jw 2)) (w300_2 C lv)
def Z8(C:Cx)(lv:Nat):WS:=jj (kU .next) (w300_3 C lv)
theorem der300(C:Cx)(lv:Nat):(rB (sto 12) ⟨C,lv,[Str.ofString "heap",Str.ofString "item",Str.ofString "returnitem"],[.local,.local,.local],k8 [21],0,[]⟩ (jR (jD 13))).1=Z8 C lv:=by kernel_rfl!
theorem perm_hp{l l':List AV}(h:l'.Perm l)(hh:∀x∈l,Hp x):∀x∈l',Hp x:=fun x hx=>hh x (h.mem_iff.mp hx)
theorem vf(h:(vK a c n)[i]? =some x):i<n∧x=.int (a+i*c):=by
 delta vK at h
 rw[List.getElem?_map]at h
 refine jp ?_ (Option.map_eq_some_iff.mp h);rintro j hj rfl
 refine kg (fun h1 h2=> ?_) (List.getElem?_eq_some_iff.mp hj)
 rw[List.length_range]at h1
 rw[List.getElem_range]at h2
 subst h2
 exact ⟨h1,rfl⟩
theorem qt:(vK a c n).length=n:=by simp[vK]
theorem down_ix{n i:Nat}(h:i<n):((n:Int)-1+(i:Nat)* -1)=((n-1-i:Nat):Int):=by omega
theorem half_of(n:Nat):((n:Nat):Int).fdiv 2=((n/2:Nat):Int):=by rw[Int.fdiv_eq_ediv_of_nonneg _ (by decide)];rfl
def J307(Z:Sig)(a:Addr)(l:List AV)(i:Nat)(ll:Loc)(o:Sig):Prop:=
 ∃lc,lc.Perm l∧hpF (l.length/2-i) lc=hpF (l.length/2) l∧ll 0=some (.ref a)∧o=upd Z a (.list lc)
section
variable {C:Cx} {lv:Nat} {a:Addr} {l:List AV} {Z:Sig} {Ψ:K1} {x:AV} {loc:Loc}
theorem vc307(X:PC C)(hl:l.length≤1000)(hh:∀x∈l,Hp x)(ha:Z a=some (.list l))(e0:loc 0=some (.ref a))(h:Ψ .none (upd Z a (.list (hpF (l.length/2) l)))):Z7 C (lv+2) loc Z (j9 Ψ):=by
 have hn:((l.length/2:Nat):Int).toNat=l.length/2:=rfl
 refine jh<|kJ<|jb<|jh<|ju<|Kr e0 (jS ha) hl<|jr<|jb<|jh ⟨rfl,trivial,jf<|jE<|ja rfl<|js<|Xa (by decide) (by decide) (half_of _)<|jo ⟨rfl,rfl,Int.natCast_nonneg _,by lia,J307 Z a l,⟨l,.refl _,rfl,e0,(yh ha).symm⟩,?_⟩⟩
 rintro i ll o ⟨lc,hp,hd,e0,rfl⟩ hi
 rw[hn,qt]at hi⊢
 refine ⟨trivial,fun x hx=> ?_,fun he=> ?_⟩
 ·refine kC ?_ (vf hx);rintro h1 rfl
  have hk:l.length/2-i=(l.length/2-1-i)+1:=by lia
  have hlt:l.length/2-1-i<lc.length:=by rw[hp.length_eq];lia
  refine jr<|jh<|jU<|ke (jA rfl)<|jf<|ja e0<|jf<|ja rfl<|jo ⟨jA rfl,?_⟩
  rw[down_ix h1]
  refine O3 X lv jc hlt (by rw[hp.length_eq];exact hl) (perm_hp hp hh)<|jb<|jt<|kM (Φ:=q9 jv (j9 Ψ)) ⟨_,(yi hlt).trans hp,?_,e0,j6⟩
  rw[←hd,hk,hpF_s,Nat.sub_sub,Nat.add_comm 1 i]
 ·subst he
  rw[Nat.sub_self]at hd
  exact jb<|jt<|by rw[show lc=_ from hd];exact h
theorem vc300(X:PC C)(h0:0<l.length)(hl:l.length≤1000)(hh:∀x∈l,Hp x)(hv:Hp v)(ha:Z a=some (.list l))(e0:loc 0=some (.ref a))(e1:loc 1=some v)(h:Ψ (l.getD 0 .none) (upd Z a (.list (upP (l.set 0 v) 0)))):Z8 C (lv+2) loc Z (j9 Ψ):=by
 refine jh<|kJ<|jb<|jh<|ju<|ka<|ja e0<|js<|jO (i:=0) ha (qW h0) hl<|jr<|jb<|jh<|ju<|ja e1<|v7<|ja e0<|js<|ve (i:=0) ha h0 hl<|jb<|jh<|jU<|ke (jA rfl)<|jf<|ja e0<|jf<|js<|jo ⟨jA rfl,?_⟩
 refine O3 X lv (p:=0) jc (by rw[List.length_set];exact h0) (by rw[List.length_set];exact hl) (Ku hh hv)<|jb<|jh<|qu<|ja rfl ?_
 rw[j6];exact h
theorem vc293(X:PC C)(hl:l.length≤999)(hh:∀x∈l,Hp x)(hv:Hp v)(ha:Z a=some (.list (l++[v])))(e0:loc 0=some (.ref a))(h:Ψ ((l++[v]).getD 0 .none) (upd Z a (.list (if l=[]then []else upP (l.set 0 v) 0)))):Z9 C (lv+2) loc Z (j9 Ψ):=by
 refine jh<|kJ<|jb<|jh<|ju<|jZ<|ja e0 ⟨⟨_,ha⟩,jo ⟨l,v,ha,by lia,jr<|jb<|jh<|qk<|qH<|ja e0 ⟨l,jc,by lia,fun hc=> ?_,fun hc=> ?_⟩⟩⟩
 ·have h0:0<l.length:=List.length_pos_iff.mpr fun e=>by rw[e]at hc;cases hc
  have hne:l≠[]:=List.length_pos_iff.mp h0
  rw[if_neg hne]at h
  have hg:(l++[v]).getD 0 .none=l.getD 0 .none:=by rw[List.getD_eq_getElem?_getD,List.getElem?_append_left h0,List.getD_eq_getElem?_getD]
  rw[hg]at h
  refine jh<|ju<|ka<|ja e0<|js<|jO (i:=0) jc (qW h0) (by lia)<|jr<|jb<|jh<|ju<|ja rfl<|v7<|ja e0<|js<|ve (i:=0) jc h0 (by lia)<|jb<|jh<|jU<|ke (jA rfl)<|jf<|ja e0<|jf<|js<|jo ⟨jA rfl,?_⟩
  refine O3 X lv (p:=0) jc (by rw[List.length_set];exact h0) (by rw[List.length_set];lia) (Ku hh hv)<|jb<|jh<|qu<|ja rfl ?_
  rw[j6,j6];exact h
 ·have hn:l=[]:=by
   cases l with
   |nil=>rfl
   |cons x l=>cases hc
  subst hn
  exact jt<|jb<|jh<|qu<|ja rfl h
end
theorem spec307(X:PC C)(lv:Nat)(ha:Z a=some (.list l))(hl:l.length≤1000)(hh:∀x∈l,Hp x)(h:Ψ .none (upd Z a (.list (hpF (l.length/2) l)))):jC C (lv+3) (.ref 307) [.ref a] Z Ψ:=
 jM X (X.fn 5 rfl) chk307 rfl (wd fun _ _=>rfl) fun A env x1 x2 x3 cs z k T hcd hcl hcn hcf R tk=>SpB.use (kj ⟨_,_,_,_,_,k,T⟩ (der307 _ _)) R tk (vc307 X hl hh ha rfl h)
theorem spec300(X:PC C)(lv:Nat)(ha:Z a=some (.list l))(h0:0<l.length)(hl:l.length≤1000)(hh:∀x∈l,Hp x)(hv:Hp v)(h:Ψ (l.getD 0 .none) (upd Z a (.list (upP (l.set 0 v) 0)))):jC C (lv+3) (.ref 300) [.ref a,v] Z Ψ:=
 jM X (X.fn 4 rfl) chk300 rfl (wG fun _ _ _=>rfl) fun A env x1 x2 x3 cs z k T hcd hcl hcn hcf R tk=>SpB.use (kj ⟨_,_,_,_,_,k,T⟩ (der300 _ _)) R tk (vc300 X h0 hl hh hv ha rfl rfl h)
theorem spec293(X:PC C)(lv:Nat)(ha:Z a=some (.list (l++[v])))(hl:l.length≤999)(hh:∀x∈l,Hp x)(hv:Hp v)(h:Ψ ((l++[v]).getD 0 .none) (upd Z a (.list (if l=[]then []else upP (l.set 0 v) 0)))):jC C (lv+3) (.ref 293) [.ref a] Z Ψ:=
 jM X (X.fn 3 rfl) chk293 rfl (wd fun _ _=>rfl) fun A env x1 x2 x3 cs z k T hcd hcl hcn hcf R tk=>SpB.use (kj ⟨_,_,_,_,_,k,T⟩ (der293 _ _)) R tk (vc293 X hl hh hv ha rfl h)
end
section
theorem vR{κ α:Type}[DecidableEq κ]{p:κ×α}{l:List (κ×α)}{k:κ}:dAt (p::l) k=if p.1=k then some p.2 else dAt l k:=by
 delta dAt
 by_cases h:p.1=k
 ·simp[h]
 ·simp[h]
theorem dAt_map{κ α:Type}[DecidableEq κ]{k k':κ}{v:α}:∀l:List (κ×α),dAt (l.map fun kv=>if kv.1=k then (kv.1,v)else kv) k'=if k'=k∧l.any (fun kv=>decide (kv.1=k))=true then some v else dAt l k':=by
 intro v__
 induction v__ with
 |nil=>
  simp[dAt]
 |cons p l ih=>
  simp only[List.map_cons,vR,ih,List.any_cons,vR]
  by_cases h1:p.1=k
  ·rw[if_pos h1]
   by_cases h2:k'=k
   ·subst h2;simp[h1]
   ·have:¬p.1=k':=fun e=>h2 (e.symm.trans h1)
    simp[h2,this]
  ·rw[if_neg h1]
   by_cases h2:p.1=k'
   ·have:¬k'=k:=fun e=>h1 (h2.trans e)
    simp[h2,this]
   ·rw[if_neg h2,if_neg h2,decide_eq_false h1,Bool.false_or]
theorem wb{κ α:Type}[DecidableEq κ]{k k':κ}{v:α}:∀l:List (κ×α),dAt (l++[(k,v)]) k'=(dAt l k').or (if k'=k then some v else none):=by
 intro v__
 induction v__ with
 |nil=>
  rw[List.nil_append,vR];simp[dAt,eq_comm]
 |cons p l ih=>
  simp only[List.cons_append,vR,ih,vR]
  split<;>simp
theorem dAt_any{κ α:Type}[DecidableEq κ]{k:κ}:∀{l:List (κ×α)},l.any (fun kv=>decide (kv.1=k))=(dAt l k).isSome:=by
 intro v__
 induction v__ with
 |nil=>
  exact rfl
 |cons p l ih=>
  simp only[List.any_cons,vR,ih]
  split<;>simp[*]
theorem UD{κ α:Type}[DecidableEq κ]{k k':κ}{v:α}{l:List (κ×α)}:dAt (zF l k v) k'=if k'=k then some v else dAt l k':=by
 delta zF
 split
 ·rename_i h
  rw[dAt_map,h];simp
 ·rename_i h
  rw[wb]
  rw[dAt_any]at h
  by_cases h2:k'=k
  ·subst h2
   have:dAt l k'=none:=by simpa using h
   simp[this]
  ·simp[h2]
theorem yI{κ α:Type}[DecidableEq κ]{k:κ}{v:α}{l:List (κ×α)}:(zF l k v).length≤l.length+1:=by
 delta zF;split<;>simp
noncomputable def shr(m n:Nat):UInt64:=if n=0 then 0x3ff0000000000000 else Float64.div (Float64.mul 0x4000000000000000 (Float64.ofInt m)) (Float64.ofInt n)
theorem shr_ok:∀n:Nat,n<15->n≠0->Float64.isInf (Float64.ofInt n)=false∧Float64.isZero (Float64.ofInt n)=false:=by decide+kernel
def jN(Z o:Sig)(d:Addr):Prop:=∀a x,a≠d->Z a=some x->o a=some x
theorem jN.refl:jN Z Z d:=fun _ _ _ e=>e
theorem jN.trans(x:jN Z o d)(y:jN o o' d):jN Z o' d:=fun a v h e=>y a v h (x a v h e)
theorem jN.new(h:jN Z o d)(ha:Z a=none):jN Z (upd o a x) d:=fun b v hb e=>by
 rw[ji (fun q=>by exact kH ha (q▸e))];exact h b v hb e
theorem jN.put(h:jN Z o d):jN Z (upd o d x) d:=fun b v hb e=>(ji hb)▸(h b v hb e)
noncomputable abbrev sg(c:Nat):Str:=⟨#[c]⟩
theorem y1(h:sg a=sg b):a=b:=by injection h with h;simpa using h
def Bag(l:List (Str×AV))(b:List Nat):Prop:=∀c,dAt l (sg c)=if 0<b.count c then some (.int (b.count c:Nat))else none
noncomputable def idxs(c:Nat):Nat->List Nat->List AV
 |_,[]=>[]
 |j,x::b=>if x=c then .int (j:Nat)::idxs c (j+1) b else idxs c (j+1) b
theorem w7{c j x:Nat}{b:List Nat}:idxs c j (x::b)=if x=c then .int (j:Nat)::idxs c (j+1) b else idxs c (j+1) b:=rfl
def Idx(Z:Sig)(l:List (Str×AV))(b:List Nat):Prop:=∀c,if c∈b then∃x,dAt l (sg c)=some (.ref x)∧Z x=some (.list (idxs c 0 b))else dAt l (sg c)=none
structure Mf(f:Nat->Option AV)(A B:Str):Prop where
 j:f 0=some .none
 a:f 1=some (.str A)
 b:f 2=some (.str B)
 au:f 3=some (.bool true)
structure Mc(kp:Nat)(Z:Sig)(f:Nat->Option AV)(B:List Nat):Prop where
 mb:f 4=some .none∨∃(mb:Addr) (ts:List Tri),f 4=some (.ref mb)∧Z mb=some (.list (ts.map ko))∧ts.length≤1000∧(∀t∈ts,0≤t.2.2∧t.2.2≤1000)∧(ts.map (·.2.2)).sum=(kp:Int)
 fb:f 6=some .none∨∃fb l,f 6=some (.ref fb)∧Z fb=some (.dS l)∧Bag l B
 bj:∃bj l,f 7=some (.ref bj)∧Z bj=some (.dS l)∧Idx Z l B
 bk:∃bk,f 8=some (.ref bk)∧Z bk=some .set0
theorem Mc.keep{f g:Nat->Option AV}(x:Mc kp Z f B)(k:jN Z o d)(hd:Z d=some (.ns g)):Mc kp o f B:=by
 have ne:∀a y,Z a=some y->(∀g,y≠.ns g)->o a=some y:=fun a y e h=>k a y (fun q=>by rw[q,hd]at e;cases e;exact h _ rfl) e
 refine ⟨?_,?_,?_,?_⟩
 ·rcases x.mb with h|⟨mb,ts,h1,h2,h3⟩
  ·exact .inl h
  ·exact .inr ⟨mb,ts,h1,ne _ _ h2 (fun _ h=>nomatch h),h3⟩
 ·rcases x.fb with h|⟨fb,l,h1,h2,h3⟩
  ·exact .inl h
  ·exact .inr ⟨fb,l,h1,ne _ _ h2 (fun _ h=>nomatch h),h3⟩
 ·refine qb (fun bj l h1 h2 h3=> ?_) x.bj
  refine ⟨bj,l,h1,ne _ _ h2 (fun _ h=>nomatch h),fun c=> ?_⟩
  have:=h3 c
  split at this
  ·rename_i hc
   rw[if_pos hc]
   refine jp (fun y q1 q2=> ?_) this
   exact ⟨y,q1,ne _ _ q2 (fun _ h=>nomatch h)⟩
  ·rename_i hc
   rw[if_neg hc];exact this
 ·refine jp (fun bk h1 h2=> ?_) x.bk
  exact ⟨bk,h1,ne _ _ h2 (fun _ h=>nomatch h)⟩
structure Mt(kp:Nat)(Z:Sig)(m d:Addr)(A B:Str):Prop where
 im:Z m=some (.inst SMA d)
 ex:∃f,Z d=some (.ns f)∧Mf f A B∧Mc kp Z f B.cps.toList
theorem Mt.ne(x:Mt kp Z m d A B):m≠d:=by
 refine jp (fun f h _=> ?_) x.ex
 rintro rfl;cases x.im.symm.trans h
section
variable {C:Cx} {lv:Nat} {loc:Loc} {Z:Sig} {Ψ:K1} {Θ:Loc->Sig->Prop} {i v:Nat} {m d:Addr} {f:Nat->Option AV} {x:AV}
theorem j7(h:loc v=some (.ref m))(h1:Z m=some (.inst SMA d))(h2:Z d=some (.ns f))(h3:f i=some x)(k:Ψ x Z):qQ i (jd v) loc Z Ψ:=⟨_,h,m,d,f,x,rfl,h1,h2,h3,k⟩
theorem kL(h:loc v=some (.ref m))(h1:Z m=some (.inst SMA d))(h2:Z d=some (.ns f))(k:Θ loc (upd Z d (.ns (upd f i y)))):wk i (jd v) y loc Z Θ:=⟨_,h,m,d,f,rfl,h1,h2,k⟩
theorem qf(hs:s.length≤1000)(h:∀Ψ':K1,Ψ' (.str s) Z->W loc Z Ψ')(k:Ψ (.int (s.length:Nat)) Z):jy C lv (jm (.bi .len)) (jg W jq) loc Z Ψ:=⟨trivial,h _ ⟨hs,k⟩⟩
end
end
section
theorem chk173:jV (jD 5) [Str.ofString "matches",Str.ofString "length"] [.local,.local] [] [] 2=true:=by decide+kernel
def w173_0(C:Cx)(lv:Nat):WS:=jj (vc (jQ .Div (jQ .Mult (jm (.flt 0x4000000000000000)) (jd 0)) (jd 1))) jv
def w173_1(C:Cx)(lv:Nat):WS:=jj (vc (jm (.flt 0x3ff0000000000000))) jv
def jan(C:Cx)(lv:Nat):WS:=jj (sIf (wo (jd 1)) (w173_0 C lv) jv) (w173_1 C lv)
theorem der173(C:Cx)(lv:Nat):(rB (sto 12) ⟨C,lv,[Str.ofString "matches",Str.ofString "length"],[.local,.local],k8 [],0,[]⟩ (jR (jD 5))).1=jan C lv:=by kernel_rfl!
theorem chk267:jV (jL 6 12) [Str.ofString "self",Str.ofString "la",Str.ofString "lb"] [.local,.local,.local] [] [0,11,1] 1=true:=by decide+kernel
def w267_0(C:Cx)(lv:Nat):WS:=jj (vc (jy C lv (jm (.ref 173)) (jg (jy C lv (jm (.bi .min)) (jg (jd 1) (jg (jd 2) jq))) (jg (jQ .Add (jd 1) (jd 2)) jq)))) jv
def w267_1(C:Cx)(lv:Nat):WS:=jj (wu [1,2] 2 (qo (jg (jy C lv (jm (.bi .len)) (jg (qQ 1 (jd 0)) jq)) (jg (jy C lv (jm (.bi .len)) (jg (qQ 2 (jd 0)) jq)) jq)))) (w267_0 C lv)
def jac(C:Cx)(lv:Nat):WS:=jj (kU .next) (w267_1 C lv)
theorem der267(C:Cx)(lv:Nat):(rB (sto 12) ⟨C,lv,[Str.ofString "self",Str.ofString "la",Str.ofString "lb"],[.local,.local,.local],k8 [0,11,1],0,[]⟩ (jR (jL 6 12))).1=jac C lv:=by kernel_rfl!
section
variable {C:Cx} {lv:Nat} {loc:Loc} {Z:Sig} {Ψ:K1} {m d:Addr} {f:Nat->Option AV} {A B:Str}
theorem vc173{a n:Nat}(hn:n<15)(ha:a<15)(e0:loc 0=some (.int (a:Int)))(e1:loc 1=some (.int (n:Int)))(h:Ψ (.flt (shr a n)) Z):jan C lv loc Z (j9 Ψ):=by
 refine jh<|qk<|qH<|ja e1 ⟨fun hc=> ?_,fun hc=> ?_⟩
 ·have hn0:n≠0:=fun e=>by subst e;exact absurd hc (by decide)
  have:=shr_ok n hn hn0
  refine jh<|qu<|jE<|jE<|js<|ja e0<|i_fmul (by omega) rfl<|ja e1<|i_fdivf this.1 this.2 (c:=shr a n) (by delta shr;rw[if_neg hn0]) h
 ·have hn0:n=0:=by
   have:((n:Int) !=0)=false:=hc
   simpa using this
  subst hn0
  exact jt<|jb<|jh<|qu<|js h
theorem O5(X:PC C){a n:Nat}(hn:n<15)(ha:a<15)(h:Ψ (.flt (shr a n)) Z):jC C (lv+1) (.ref 173) [.int (a:Int),.int (n:Int)] Z Ψ:=
 jM X (X.fn 0 rfl) chk173 rfl (wG fun _ _ _=>rfl) fun A env x1 x2 x3 cs z k T hcd hcl hcn hcf R tk=>SpB.use (kj ⟨_,_,_,_,_,k,T⟩ (der173 _ _)) R tk (vc173 hn ha rfl rfl h)
theorem vc267(X:PC C)(hm:Z m=some (.inst SMA d))(hd:Z d=some (.ns f))(hf:Mf f A B)(hA:A.length<8)(hB:B.length<8)(e0:loc 0=some (.ref m))(h:Ψ (.flt (shr (min A.length B.length) (A.length+B.length))) Z):jac C (lv+1) loc Z (j9 Ψ):=by
 refine jh<|kJ<|jb<|jh<|wz<|kA<|jf<|qf (s:=A) (Nat.le_trans (Nat.le_of_lt hA) (by decide)) (fun _ k=>j7 e0 hm hd hf.a k)<|jf<|qf (s:=B) (Nat.le_trans (Nat.le_of_lt hB) (by decide)) (fun _ k=>j7 e0 hm hd hf.b k)<|jo ⟨Nat.le_of_ble_eq_true rfl,_,rfl,rfl,?_⟩
 refine jb<|jh<|qu<|ke (jA rfl)<|jf<|ke trivial<|jf<|ja rfl<|jf<|ja rfl<|jo<|Uu<|jf<|jE<|ja rfl<|ja rfl<|jP (c:=((A.length+B.length:Nat):Int)) rfl<|jo ⟨jA rfl,O5 X (by lia) (by lia) h⟩
theorem X8(X:PC C)(hm:Z m=some (.inst SMA d))(hd:Z d=some (.ns f))(hf:Mf f A B)(hA:A.length<8)(hB:B.length<8)(h:Ψ (.flt (shr (min A.length B.length) (A.length+B.length))) Z):jC C (lv+2) (.ref 267) [.ref m] Z Ψ:=
 jM X (X.fn 24 rfl) chk267 rfl (wd fun _ _=>rfl) fun A env x1 x2 x3 cs z k T hcd hcl hcn hcf R tk=>SpB.use (kj ⟨_,_,_,_,_,k,T⟩ (der267 _ _)) R tk (vc267 X hm hd hf hA hB rfl h)
end
end
section
theorem chk260:jV (jL 6 11) [Str.ofString "self",Str.ofString "fullbcount",Str.ofString "elt",Str.ofString "avail",Str.ofString "availhas",Str.ofString "matches",Str.ofString "numb"] (.replicate 7 .local) [] [11,0] 1=true:=by decide+kernel
def w260_0(C:Cx)(lv:Nat):WS:=jj (jl (jQ .Add (kh C .dget (jd 1) (jg (jd 2) (jg (jm (.int 0)) jq))) (jm (.int 1))) (KL (jd 1) (jd 2))) jv
def w260_1(C:Cx)(lv:Nat):WS:=jj (wP (w8 C (qQ 2 (jd 0))) (jw 2) (w260_0 C lv)) jv
def w260_2(C:Cx)(lv:Nat):WS:=jj (jl (U3 (.dS [])) (vO (wk 6 (jd 0)) (jw 1))) (w260_1 C lv)
def w260_3(C:Cx)(lv:Nat):WS:=jj (jl (kl (jd 3) (jd 2)) (jw 6)) jv
def w260_4(C:Cx)(lv:Nat):WS:=jj (jl (kh C .dget (jd 1) (jg (jd 2) (jg (jm (.int 0)) jq))) (jw 6)) jv
def w260_5(C:Cx)(lv:Nat):WS:=jj (jl (jQ .Add (jd 5) (jm (.int 1))) (jw 5)) jv
def w260_6(C:Cx)(lv:Nat):WS:=jj (sIf (j4 .Gt (jd 6) (jm (.int 0))) (w260_5 C lv) jv) jv
def jad(C:Cx)(lv:Nat):WS:=jj (jl (jQ .Sub (jd 6) (jm (.int 1))) (KL (jd 3) (jd 2))) (w260_6 C lv)
def w260_8(C:Cx)(lv:Nat):WS:=jj (sIf (wo (jy C lv (jd 4) (jg (jd 2) jq))) (w260_3 C lv) (w260_4 C lv)) (jad C lv)
def OV(C:Cx)(lv:Nat):WS:=jj (vc (jy C lv (jm (.ref 173)) (jg (jd 5) (jg (jQ .Add (jy C lv (jm (.bi .len)) (jg (qQ 1 (jd 0)) jq)) (jy C lv (jm (.bi .len)) (jg (qQ 2 (jd 0)) jq))) jq)))) jv
def w260_10(C:Cx)(lv:Nat):WS:=jj (wP (w8 C (qQ 1 (jd 0))) (jw 2) (w260_8 C lv)) (OV C lv)
def w260_11(C:Cx)(lv:Nat):WS:=jj (wu [4,5] 2 (qo (jg (jbj .dhas (jd 3)) (jg (jm (.int 0)) jq)))) (w260_10 C lv)
def w260_12(C:Cx)(lv:Nat):WS:=jj (jl (U3 (.dS [])) (jw 3)) (w260_11 C lv)
def XH(C:Cx)(lv:Nat):WS:=jj (jl (qQ 6 (jd 0)) (jw 1)) (w260_12 C lv)
def w260_14(C:Cx)(lv:Nat):WS:=jj (sIf (j4 .Is (qQ 6 (jd 0)) (jm .none)) (w260_2 C lv) jv) (XH C lv)
def XG(C:Cx)(lv:Nat):WS:=jj (kU .next) (w260_14 C lv)
theorem der260(C:Cx)(lv:Nat):(rB (sto 12) ⟨C,lv,[Str.ofString "self",Str.ofString "fullbcount",Str.ofString "elt",Str.ofString "avail",Str.ofString "availhas",Str.ofString "matches",Str.ofString "numb"],(.replicate 7 .local),k8 [11,0],0,[]⟩ (jR (jL 6 11))).1=XG C lv:=by kernel_rfl!
noncomputable def mQ(b a:List Nat):Nat->Nat
 |0=>0
 |i+1=>mQ b a i+if (a.take i).count (a.getD i 0)<b.count (a.getD i 0)then 1 else 0
theorem mQ_s{b a:List Nat}{i:Nat}:mQ b a (i+1)=mQ b a i+if (a.take i).count (a.getD i 0)<b.count (a.getD i 0)then 1 else 0:=rfl
theorem mQ_le:∀i,mQ b a i≤i:=by
 intro v__
 induction v__ with
 |zero=>
  exact Nat.le_refl _
 |succ i ih=>
  rw[mQ_s];split;exact Nat.succ_le_succ (ih);exact Nat.le_succ_of_le (ih)
def Av(b p:List Nat)(l:List (Str×AV)):Prop:=∀c,dAt l (sg c)=if c∈p then some (.int ((b.count c:Nat)-(p.count c:Nat):Int))else none
theorem OC{s:Str}{i:Nat}{x:AV}(h:(vw s)[i]? =some x):∃c,s.cps.toList[i]? =some c∧x=.str (sg c):=by
 delta vw at h
 rw[List.getElem?_map]at h
 refine jp ?_ (Option.map_eq_some_iff.mp h);rintro c hc rfl
 exact ⟨c,hc,rfl⟩
theorem OB:(vw s).length=s.length:=by simp[vw,Str.length]
theorem qE{l:List Nat}{i c:Nat}(h:l[i]? =some c):l.take (i+1)=l.take i++[c]:=by rw[List.take_add_one,h];rfl
theorem yc{l:List Nat}{c x:Nat}:(l++[x]).count c=l.count c+if x=c then 1 else 0:=by simp[List.count_append,List.count_singleton]
theorem bag_put{l:List (Str×AV)}{p:List Nat}{x:Nat}(h:Bag l p):Bag (zF l (sg x) (.int ((p.count x:Nat)+1:Int))) (p++[x]):=fun c=>by
 rw[UD,yc]
 by_cases e:c=x
 ·subst e
  rw[if_pos rfl,if_pos rfl,if_pos (Nat.succ_pos _)];rfl
 ·rw[if_neg (fun q=>e (y1 q)),if_neg (show¬x=c from fun q=>e q.symm),Nat.add_zero];exact h c
theorem YN(h:Bag l p):(dAt l (sg x)).getD (.int 0)=.int (p.count x:Nat):=by
 rw[h x]
 by_cases e:0<p.count x
 ·rw[if_pos e];rfl
 ·rw[if_neg e,Nat.eq_zero_of_not_pos e];rfl
theorem jcJ{b p:List Nat}{l:List (Str×AV)}{x:Nat}(h:Av b p l):Av b (p++[x]) (zF l (sg x) (.int (((b.count x:Nat)-(p.count x:Nat):Int)-1))):=fun c=>by
 rw[UD,yc]
 by_cases e:c=x
 ·subst e
  rw[if_pos rfl,if_pos rfl,if_pos (by simp)]
  congr 2
  lia
 ·rw[if_neg (fun q=>e (y1 q)),if_neg (show¬x=c from fun q=>e q.symm),h c,Nat.add_zero]
  simp[e]
section
variable {C:Cx} {lv:Nat} {loc:Loc} {Z:Sig} {Ψ:K1} {m d fb:Addr} {f:Nat->Option AV} {A B:Str}
def J260(Z:Sig)(m fb av:Addr)(A B:Str)(i:Nat)(ll:Loc)(o:Sig):Prop:=
 ∃l,Av B.cps.toList (A.cps.toList.take i) l∧l.length≤i∧ll 0=some (.ref m)∧ll 1=some (.ref fb)∧ll 3=some (.ref av)∧ll 4=some (.bm .dhas (.ref av))∧ll 5=some (.int (mQ B.cps.toList A.cps.toList i:Nat))∧o=upd Z av (.dS l)
theorem jar(X:PC C)(hm:Z m=some (.inst SMA d))(hd:Z d=some (.ns f))(hf:Mf f A B)(h6:f 6=some (.ref fb)){lf:List (Str×AV)}(hfb:Z fb=some (.dS lf))(hB:Bag lf B.cps.toList)(hA:A.length<8)(hBl:B.length<8)(e0:loc 0=some (.ref m))
  (h:∀av l,Z av=none->Ψ (.flt (shr (mQ B.cps.toList A.cps.toList A.length) (A.length+B.length))) (upd Z av (.dS l))):XH C (lv+1) loc Z (j9 Ψ):=by
 refine jh<|ju<|j7 e0 hm hd h6<|jr<|jb<|jh<|ju<|Vn fun av hav=>jr<|jb<|jh<|wz<|kA<|jf<|jbZ<|ja rfl ⟨av,rfl,.inl ⟨_,jc⟩,jf<|js<|jo ⟨Nat.le_of_ble_eq_true rfl,_,rfl,rfl,?_⟩⟩
 have hm':∀l,upd Z av (.dS l) m=some (.inst SMA d):=fun l=>je hav hm
 have hd':∀l,upd Z av (.dS l) d=some (.ns f):=fun l=>je hav hd
 have hfb':∀l,upd Z av (.dS l) fb=some (.dS lf):=fun l=>je hav hfb
 refine jb<|jh<|Kt<|vo<|j7 e0 (hm' _) (hd' _) hf.a<|Uv ⟨J260 Z m fb av A B,⟨[],fun c=>by simp[dAt],Nat.le_refl _,e0,rfl,rfl,rfl,rfl,rfl⟩,?_⟩
 rintro i ll o ⟨l,hl,hle,e0,e1,e3,e4,e5,rfl⟩ hi
 rw[OB]at hi⊢
 refine ⟨trivial,fun x hx=> ?_,fun he=> ?_⟩
 ·refine jp ?_ (OC hx);rintro c hc rfl
  have hcg:A.cps.toList.getD i 0=c:=by rw[List.getD_eq_getElem?_getD,hc];rfl
  have hle2:l.length≤1000:=by lia
  have rest:∀ll':Loc,ll' 0=some (.ref m)->ll' 1=some (.ref fb)->ll' 2=some (.str (sg c))->ll' 3=some (.ref av)->ll' 4=some (.bm .dhas (.ref av))->ll' 5=some (.int (mQ B.cps.toList A.cps.toList i:Nat))->ll' 6=some (.int ((B.cps.toList.count c:Nat)-((A.cps.toList.take i).count c:Nat):Int))->
    jad C (lv+1) ll' (upd Z av (.dS l)) (kc (J260 Z m fb av A B) (q9 (OV C (lv+1)) (j9 Ψ)) i):=fun ll' e0 e1 e2 e3 e4 e5 e6=>by
   refine jh<|ju<|jE<|ja e6<|js<|wA rfl<|v7<|ja e3<|ja e2 ⟨l,jc,hle2,jb<|jh<|qk<|jz<|ja e6<|js<|Ks rfl ⟨fun hb=> ?_,fun hb=> ?_⟩⟩
   ·rw[j6]
    refine jh<|ju<|jE<|ja e5<|js<|jP rfl<|jr<|jb<|jt<|jb<|jt<|kM (Φ:=q9 (OV C (lv+1)) (j9 Ψ)) ⟨_,by rw[qE hc];exact jcJ hl,Nat.le_trans yI (Nat.succ_le_succ hle),e0,e1,e3,e4,?_,rfl⟩
    have hb:=of_decide_eq_true hb
    rw[mQ_s,hcg,if_pos (by lia)];rfl
   ·rw[j6]
    refine jt<|jb<|jt<|kM (Φ:=q9 (OV C (lv+1)) (j9 Ψ)) ⟨_,by rw[qE hc];exact jcJ hl,Nat.le_trans yI (Nat.succ_le_succ hle),e0,e1,e3,e4,?_,rfl⟩
    have hb:=of_decide_eq_false hb
    rw[mQ_s,hcg,if_neg (by lia)];exact e5
  refine jr<|jh<|qk<|qH<|Ux<|ja e4 ⟨trivial,jf<|ja rfl<|jo ⟨.inr (.inl rfl),l,jc,?_,?_⟩⟩
  ·intro hb
   have hb:(dAt l (sg c)).isSome=true:=hb
   have hin:c∈A.cps.toList.take i:=by
    rw[hl c]at hb;split at hb
    ·rename_i h;exact h
    ·cases hb
   exact jh<|ju<|ka<|ja e3<|ja rfl ⟨l,_,jc,by rw[hl c,if_pos hin],jr<|jb<|jt<|jb<|rest _ e0 e1 rfl e3 e4 e5 rfl⟩
  ·intro hb
   have hb:(dAt l (sg c)).isSome=false:=hb
   have hin:c∉A.cps.toList.take i:=fun h=>by rw[hl c,if_pos h]at hb;cases hb
   refine jh<|ju<|jZ<|ja e1 ⟨.inl ⟨_,hfb' l⟩,jf<|ja rfl<|jf<|js<|jo ⟨lf,hfb' l,?_⟩⟩
   rw[YN hB]
   refine jr<|jb<|jt<|jb<|rest _ e0 e1 rfl e3 e4 e5 ?_
   rw[List.count_eq_zero.mpr hin]
   show some (AV.int _)=some (AV.int _)
   congr 2
 ·subst he
  have h1:=mQ_le (b:=B.cps.toList) (a:=A.cps.toList) A.length
  refine jb<|jh<|qu<|ke (jA rfl)<|jf<|ja e5<|jf<|jE<|qf (s:=A) (Nat.le_trans (Nat.le_of_lt hA) (by decide)) (fun _ k=>j7 e0 (hm' _) (hd' _) hf.a k)<|qf (s:=B) (Nat.le_trans (Nat.le_of_lt hBl) (by decide)) (fun _ k=>j7 e0 (hm' _) (hd' _) hf.b k)<|jP (c:=((A.length+B.length:Nat):Int)) rfl<|jo ⟨jA rfl,O5 X (by lia) (by lia) (h av l hav)⟩
def J260a(Z:Sig)(m fb:Addr)(B:Str)(i:Nat)(ll:Loc)(o:Sig):Prop:=
 ∃l,Bag l (B.cps.toList.take i)∧l.length≤i∧ll 0=some (.ref m)∧ll 1=some (.ref fb)∧o=upd Z fb (.dS l)
theorem vc260(X:PC C){kp:Nat}(M:Mt kp Z m d A B)(hA:A.length<8)(hBl:B.length<8)(e0:loc 0=some (.ref m))
  (h:∀o,jN Z o d->Mt kp o m d A B->Ψ (.flt (shr (mQ B.cps.toList A.cps.toList A.length) (A.length+B.length))) o):XG C (lv+1) loc Z (j9 Ψ):=by
 refine jX (fun f hd hf hc=> ?_) M.ex
 refine jh<|kJ<|jb<|jh<|qk<|jz ?_
 rcases hc.fb with h6|⟨fb,lf,h6,hfb,hB⟩
 ·refine j7 e0 M.im hd h6<|js ⟨_,rfl,fun _=> ?_,(fun h=>nomatch h)⟩
  refine jh<|ju<|Vn fun fb hfb=>qy<|kL e0 (je hfb M.im) (je hfb hd)<|jr<|jb<|jh ?_
  have hne:d≠fb:=fun e=>by exact kH hfb (e▸hd)
  have hm1:∀l,upd (upd (upd Z fb (.dS [])) d (.ns (upd f 6 (.ref fb)))) fb (.dS l) m=some (.inst SMA d):=fun l=>by
   rw[ji (fun e=>by have:=M.im;exact kH hfb (e▸this)),ji M.ne];exact je hfb M.im
  have hd1:∀l,upd (upd (upd Z fb (.dS [])) d (.ns (upd f 6 (.ref fb)))) fb (.dS l) d=some (.ns (upd f 6 (.ref fb))):=fun l=>by rw[ji hne,jc]
  have hself:upd (upd Z fb (.dS [])) d (.ns (upd f 6 (.ref fb)))=upd (upd (upd Z fb (.dS [])) d (.ns (upd f 6 (.ref fb)))) fb (.dS []):=(yh (by rw[ji (Ne.symm hne),jc])).symm
  have hf1:Mf (upd f 6 (.ref fb)) A B:=⟨hf.j,hf.a,hf.b,hf.au⟩
  have keep:∀l,jN Z (upd (upd (upd Z fb (.dS [])) d (.ns (upd f 6 (.ref fb)))) fb (.dS l)) d:=fun l=>((jN.refl.new hfb).put).new hfb
  rw[hself]
  generalize upd (upd Z fb (.dS [])) d (.ns (upd f 6 (.ref fb)))=Z1 at hm1 hd1 keep⊢
  refine Kt<|vo<|j7 e0 (hm1 _) (hd1 _) hf1.b<|Uv ⟨J260a Z1 m fb B,⟨[],fun c=>by simp[dAt],Nat.le_refl _,e0,rfl,rfl⟩,?_⟩
  rintro i ll o ⟨l,hl,hle,e0,e1,rfl⟩ hi
  rw[OB]at hi⊢
  refine ⟨trivial,fun x hx=> ?_,fun he=> ?_⟩
  ·refine jp ?_ (OC hx);rintro c hc rfl
   refine jr<|jh<|ju<|jE<|jZ<|ja e1 ⟨.inl ⟨_,jc⟩,jf<|ja rfl<|jf<|js<|jo ⟨l,jc,?_⟩⟩
   rw[YN hl]
   refine js<|jP rfl<|v7<|ja e1<|ja rfl ⟨l,jc,by lia,jb<|jt ?_⟩
   rw[j6]
   exact kM ⟨_,by rw[qE hc];exact bag_put hl,Nat.le_trans yI (Nat.succ_le_succ hle),e0,e1,rfl⟩
  ·subst he
   refine jb<|jt<|jb ?_
   have hlB:B.cps.toList.take B.length=B.cps.toList:=List.take_of_length_le (by simp[Str.length])
   rw[hlB]at hl
   refine jar X (hm1 l) (hd1 l) hf1 rfl jc hl hA hBl e0 fun av l2 hav=>h _ ((keep l).trans (jN.refl.new hav)) ⟨je hav (hm1 l),_,je hav (hd1 l),hf1,?_⟩
   have k2:jN (upd Z1 fb (.dS l)) (upd (upd Z1 fb (.dS l)) av (.dS l2)) d:=jN.refl.new hav
   have:=hc.keep ((keep l).trans k2) hd
   exact ⟨this.mb,.inr ⟨fb,l,rfl,k2 _ _ (Ne.symm hne) jc,hl⟩,this.bj,this.bk⟩
 ·refine j7 e0 M.im hd h6<|js ⟨_,rfl,(fun h=>nomatch h),fun _=>jt<|jb<|jar X M.im hd hf h6 hfb hB hA hBl e0 fun av l hav=>h _ (jN.refl.new hav) ⟨je hav M.im,f,je hav hd,hf,hc.keep (jN.refl.new hav) hd⟩⟩
theorem X9(X:PC C)(M:Mt kp Z m d A B)(hA:A.length<8)(hBl:B.length<8)(h:∀o,jN Z o d->Mt kp o m d A B->Ψ (.flt (shr (mQ B.cps.toList A.cps.toList A.length) (A.length+B.length))) o):jC C (lv+2) (.ref 260) [.ref m] Z Ψ:=
 jM X (X.fn 23 rfl) chk260 rfl (wd fun _ _=>rfl) fun A env x1 x2 x3 cs z k T hcd hcl hcn hcf R tk=>SpB.use (kj ⟨_,_,_,_,_,k,T⟩ (der260 _ _)) R tk (vc260 X M hA hBl rfl h)
end
end
section
noncomputable def lcp(l m:List Nat):Nat:=l.rec (motive:=fun _=>List Nat->Nat) (fun _=>0) (fun a _ r m=>m.casesOn 0 fun b m=>if a=b then r m+1 else 0) m
noncomputable def yx(r c:Nat×Nat×Nat):Nat×Nat×Nat:=if r.1<c.1 then c else r
noncomputable def vI(f:Nat->Nat->Nat×Nat×Nat)(i j:Nat)(r:Nat×Nat×Nat):Nat×Nat×Nat:=j.rec r fun j x=>yx x (f i j)
theorem rowR_s:vI f i (j+1) r=yx (vI f i j r) (f i j):=rfl
noncomputable def Om(f:Nat->Nat->Nat×Nat×Nat)(n:Nat)(r:Nat×Nat×Nat)(i:Nat):Nat×Nat×Nat:=i.rec r fun i x=>vI f i n x
theorem allR_s:Om f n r (i+1)=vI f i n (Om f n r i):=rfl
noncomputable def lcpF(a b:List Nat)(i j:Nat):Nat×Nat×Nat:=(lcp (a.drop i) (b.drop j),i,j)
noncomputable def j8(a b:List Nat):Nat×Nat×Nat:=Om (lcpF a b) b.length (0,0,0) a.length
noncomputable def wy:Nat->List Nat->List Nat->Nat
 |0,_,_=>0
 |n+1,a,b=>if (j8 a b).1=0 then 0 else (j8 a b).1+wy n (a.take (j8 a b).2.1) (b.take (j8 a b).2.2)+wy n (a.drop ((j8 a b).2.1+(j8 a b).1)) (b.drop ((j8 a b).2.2+(j8 a b).1))
theorem vY{n:Nat}{a b:List Nat}:wy (n+1) a b=if (j8 a b).1=0 then 0 else (j8 a b).1+wy n (a.take (j8 a b).2.1) (b.take (j8 a b).2.2)+wy n (a.drop ((j8 a b).2.1+(j8 a b).1)) (b.drop ((j8 a b).2.2+(j8 a b).1)):=rfl
noncomputable def kept(a b:List Nat):Nat:=wy a.length a b
noncomputable abbrev MtK(Z:Sig)(m d:Addr)(A B:Str):Prop:=Mt (kept A.cps.toList B.cps.toList) Z m d A B
section
variable {C:Cx} {lv:Nat} {loc:Loc} {Z:Sig} {Ψ:K1} {Θ:Loc->Sig->Prop} {Ξ:Bool->Sig->Prop}
theorem jN.fresh(k:jN Z o d)(hd:o d=some g)(hy:o y=none):Z y=none:=by
 cases e:Z y with
 |none=>rfl
 |some v=>
  by_cases h:y=d
  ·subst h;rw[hd]at hy;cases hy
  ·rw[k y v h e]at hy;cases hy
theorem zf:∀(p:List Nat) (j:Nat),idxs c j (p++[y])=idxs c j p++if y=c then [.int ((j+p.length:Nat):Int)]else []:=by
 intro v__
 induction v__ with
 |nil=>
  intro j
  rw[List.nil_append];show _=[]++_;rw[List.nil_append,w7];rfl
 |cons x p ih=>
  intro j
  rw[List.cons_append,w7,w7,ih (j+1),List.length_cons,Nat.add_assoc,Nat.add_comm 1]
  split<;>rfl
theorem i_nei(he:e= !(a==b))(h:Ξ e Z):vG .NotEq (.int a) (.int b) Z fun c Zw3=>∃b,c=.bool b∧Ξ b Zw3:=⟨_,rfl,he▸h⟩
theorem jbT(h:∀a,Z a=none->Ψ (.ref a) (upd Z a .set0)):jy C lv (jm (.ty "set")) jq loc Z Ψ:=⟨trivial,ZK h⟩
end
end
section
theorem chk110:jV (jL 4 4) [Str.ofString "_cls",Str.ofString "a",Str.ofString "b",Str.ofString "size"] [.local,.local,.local,.local] [] [26] 4=true:=by decide+kernel
def w110_0(C:Cx)(lv:Nat):WS:=jj (vc (O9 (jm (.ty "tuple")) (jg (jd 0) (jg (qo (jg (jd 1) (jg (jd 2) (jg (jd 3) jq)))) jq)))) jv
def jap(C:Cx)(lv:Nat):WS:=jj (kU .next) (w110_0 C lv)
theorem der110(C:Cx)(lv:Nat):(rB (sto 12) ⟨C,lv,[Str.ofString "_cls",Str.ofString "a",Str.ofString "b",Str.ofString "size"],[.local,.local,.local,.local],k8 [26],0,[]⟩ (jR (jL 4 4))).1=jap C lv:=by kernel_rfl!
theorem chk117:jV (jL 4 5) [Str.ofString "cls",Str.ofString "iterable",Str.ofString "result"] [.local,.local,.local] [] [26,0] 2=true:=by decide+kernel
def w117_0(C:Cx)(lv:Nat):WS:=jj (vc (jd 2)) jv
def w117_1(C:Cx)(lv:Nat):WS:=jj (sIf (j4 .NotEq (qLenM (jm (.bi .len)) (jd 2)) (jm (.int 3))) vb jv) (w117_0 C lv)
def w117_2(C:Cx)(lv:Nat):WS:=jj (jl (O9 (jm (.ty "tuple")) (jg (jd 0) (jg (jd 1) jq))) (jw 2)) (w117_1 C lv)
def jao(C:Cx)(lv:Nat):WS:=jj (kU .next) (w117_2 C lv)
theorem der117(C:Cx)(lv:Nat):(rB (sto 12) ⟨C,lv,[Str.ofString "cls",Str.ofString "iterable",Str.ofString "result"],[.local,.local,.local],k8 [26,0],117,[39]⟩ (jR (jL 4 5))).1=jao C lv:=by kernel_rfl!
theorem binds4{C:Cx}{st:Stmt}{dV:Value}{N:List Str}{a b c d:AV}(h:∀q u v w x,yM (k6 st) dV q ⟨[u,v,w,x],[]⟩=pure ((N.take 4).zip [u,v,w,x])):yT C st dV N 4 [a,b,c,d] [a,b,c,d]:=fun z fd h1 h2 h3 _ _ vs hv=>by
 have h0:=hv
 obtain ⟨u,_,rfl,_,v,_,rfl,_,w,_,rfl,_,x,_,rfl,_,rfl⟩:=hv
 exact ⟨_,h0,.of_eq (by rw[qX fd _ h3,h1,h2];exact h _ _ _ _ _)⟩
section
variable {C:Cx} {lv:Nat} {loc:Loc} {Z:Sig} {Ψ:K1}
theorem vc110(e0:loc 0=some (.ref jn))(e1:loc 1=some a)(e2:loc 2=some b)(e3:loc 3=some c)(h:Ψ (.mat [a,b,c]) Z):jap C lv loc Z (j9 Ψ):=
 jh<|kJ<|jb<|jh<|qu ⟨rfl,jf<|ja e0<|jf<|kA<|jf<|ja e1<|jf<|ja e2<|jf<|ja e3<|jo ⟨Nat.le_of_ble_eq_true rfl,jo ⟨_,rfl,Nat.le_of_ble_eq_true rfl,h⟩⟩⟩
theorem spec163(X:PC C){a b c:AV}(h:Ψ (.mat [a,b,c]) Z):jC C (lv+2) (.ref jn) [a,b,c] Z Ψ:=
 VB X.mat (jM (np:=4) (ys:=[.ref jn,a,b,c]) X (X.fn 13 rfl) chk110 rfl (binds4 fun _ _ _ _ _=>rfl) fun A env x1 x2 x3 cs z k T hcd hcl hcn hcf R tk=>SpB.use (kj ⟨_,_,_,_,_,k,T⟩ (der110 _ _)) R tk (vc110 rfl rfl rfl rfl ⟨⟨_,rfl⟩,h⟩))
theorem vc117(e0:loc 0=some (.ref jn))(e1:loc 1=some (.tup [a,b,c]))(h:Ψ (.mat [a,b,c]) Z):jao C lv loc Z (j9 Ψ):=
 jh<|kJ<|jb<|jh<|ju ⟨rfl,jf<|ja e0<|jf<|ja e1<|jo ⟨_,rfl,Nat.le_of_ble_eq_true rfl,jr<|jb<|jh<|qk<|jz ⟨rfl,ja rfl ⟨_,rfl,Nat.le_of_ble_eq_true rfl,js<|i_nei rfl ⟨(fun h=>nomatch h),fun _=>jt<|jb<|jh<|qu<|ja rfl h⟩⟩⟩⟩⟩
theorem spec117(X:PC C)(h:Ψ (ko t) Z):jC C (lv+1) (.ref 117) [.ref jn,vJ t] Z Ψ:=
 jM X (X.fn 14 rfl) chk117 rfl (wG fun _ _ _=>rfl) fun A env x1 x2 x3 cs z k T hcd hcl hcn hcf R tk=>SpB.use (kj ⟨_,_,_,_,_,k,T⟩ (der117 _ _)) R tk (vc117 rfl rfl h)
end
theorem chk202:jV (jL 6 3) [Str.ofString "self",Str.ofString "a"] [.local,.local] [] [] 2=true:=by decide+kernel
def w202_0(C:Cx)(lv:Nat):WS:=jj (kU (.ret .none)) jv
def w202_1(C:Cx)(lv:Nat):WS:=jj (jl (jm .none) (vO (wk 4 (jd 0)) (wk 5 (jd 0)))) jv
def w202_2(C:Cx)(lv:Nat):WS:=jj (jl (jd 1) (wk 1 (jd 0))) (w202_1 C lv)
def w202_3(C:Cx)(lv:Nat):WS:=jj (sIf (j4 .Is (jd 1) (qQ 1 (jd 0))) (w202_0 C lv) jv) (w202_2 C lv)
def jak(C:Cx)(lv:Nat):WS:=jj (kU .next) (w202_3 C lv)
theorem der202(C:Cx)(lv:Nat):(rB (sto 12) ⟨C,lv,[Str.ofString "self",Str.ofString "a"],[.local,.local],k8 [],0,[]⟩ (jR (jL 6 3))).1=jak C lv:=by kernel_rfl!
section
variable {C:Cx} {lv:Nat} {loc:Loc} {Z:Sig} {Ψ:K1} {m d:Addr} {f:Nat->Option AV} {a A B:Str}
theorem i_is{Ξ:Bool->Sig->Prop}(hw:w=.none∨∃A,w=.str A)(h:Ξ false Z)(k:w=.str a->Ξ true Z):vG .Is (.str a) w Z fun c Zw3=>∃b,c=.bool b∧Ξ b Zw3:=by
 rcases hw with rfl|⟨A,rfl⟩
 ·exact ⟨_,rfl,h⟩
 ·exact ⟨⟨_,rfl,h⟩,fun e=>⟨_,rfl,k (by rw[e])⟩⟩
theorem vc202(hm:Z m=some (.inst SMA d))(hd:Z d=some (.ns f))(h1:f 1=some w)(hw:w=.none∨∃A,w=.str A)(e0:loc 0=some (.ref m))(e1:loc 1=some (.str a))(h:Ψ .none (upd Z d (.ns (upd (upd (upd f 1 (.str a)) 4 .none) 5 .none))))(hs:w=.str a->Ψ .none Z):jak C lv loc Z (j9 Ψ):=by
 have hne:m≠d:=by rintro rfl;cases hd.symm.trans hm
 refine jh<|kJ<|jb<|jh<|qk<|jz<|ja e1<|j7 e0 hm hd h1<|i_is hw ⟨(fun h=>nomatch h),fun _=> ?_⟩ fun e=>⟨fun _=>jh<|kJ<|hs e,(fun h=>nomatch h)⟩
 have hm1:∀g,upd Z d (.ns g) m=some (.inst SMA d):=fun g=>by rw[ji hne];exact hm
 refine jt<|jb<|jh<|ju<|ja e1<|kL e0 hm hd<|jb<|jh<|ju<|js<|qy<|kL e0 (hm1 _) jc ?_
 rw[j6]
 refine kL e0 (hm1 _) jc ?_
 rw[j6]
 exact jb<|jt h
theorem Yb(X:PC C)(hm:Z m=some (.inst SMA d))(hd:Z d=some (.ns f))(h1:f 1=some w)(hw:w=.none∨∃A,w=.str A)(h:Ψ .none (upd Z d (.ns (upd (upd (upd f 1 (.str a)) 4 .none) 5 .none))))(hs:w=.str a->Ψ .none Z):jC C (lv+1) (.ref 202) [.ref m,.str a] Z Ψ:=
 jM X (X.fn 17 rfl) chk202 rfl (wG fun _ _ _=>rfl) fun A env x1 x2 x3 cs z k T hcd hcl hcn hcf R tk=>SpB.use (kj ⟨_,_,_,_,_,k,T⟩ (der202 _ _)) R tk (vc202 hm hd h1 hw rfl rfl h hs)
theorem jby(X:PC C)(M:MtK Z m d A B)(h:∀o,jN Z o d->MtK o m d a B->Ψ .none o):jC C (lv+1) (.ref 202) [.ref m,.str a] Z Ψ:=by
 refine jX (fun f hd hf hc=> ?_) M.ex
 refine Yb X M.im hd hf.a (.inr ⟨A,rfl⟩) (h _ jN.refl.put ⟨by rw[ji M.ne];exact M.im,_,jc,⟨hf.j,rfl,hf.b,hf.au⟩,?_⟩) fun e=> ?_
 ·have:=hc.keep (jN.refl.put (x:=.ns (upd (upd (upd f 1 (.str a)) 4 .none) 5 .none))) hd
  exact ⟨.inl rfl,this.fb,this.bj,this.bk⟩
 ·injection e with e;subst e
  exact h _ .refl M
end
end
section
theorem chk216:jV (jL 6 5) [Str.ofString "self",Str.ofString "b",Str.ofString "b2j",Str.ofString "i",Str.ofString "elt",Str.ofString "indices",Str.ofString "junk",Str.ofString "isjunk",Str.ofString "popular",Str.ofString "n",Str.ofString "ntest",Str.ofString "idxs"] (.replicate 12 .local) [] [5,7,0] 1=true:=by decide+kernel
def w216_0(C:Cx)(lv:Nat):WS:=jj (kz (kh C .append (jd 5) (jg (jd 3) jq))) jv
def w216_1(C:Cx)(lv:Nat):WS:=jj (jl (kh C .dsetd (jd 2) (jg (jd 4) (jg (vV jq) jq))) (jw 5)) (w216_0 C lv)
def w216_2(C:Cx)(lv:Nat):WS:=jj (sIf (qh (wo (qQ 3 (jd 0))) (qh (j4 .GtE (jd 9) (jm (.int 200))) k5)) vb jv) jv
def w216_3(C:Cx)(lv:Nat):WS:=jj (jl (jy C lv (jm (.bi .len)) (jg (jd 1) jq)) (jw 9)) (w216_2 C lv)
def jai(C:Cx)(lv:Nat):WS:=jj (jl (jy C lv (jm (.ty "set")) jq) (vO (wk 9 (jd 0)) (jw 8))) (w216_3 C lv)
def w216_5(C:Cx)(lv:Nat):WS:=jj (sIf (wo (jd 7)) vb jv) (jai C lv)
def w216_6(C:Cx)(lv:Nat):WS:=jj (jl (qQ 0 (jd 0)) (jw 7)) (w216_5 C lv)
def w216_7(C:Cx)(lv:Nat):WS:=jj (jl (jy C lv (jm (.ty "set")) jq) (vO (wk 8 (jd 0)) (jw 6))) (w216_6 C lv)
def w216_8(C:Cx)(lv:Nat):WS:=jj (wP (iEnum (jm (.ty "enumerate")) (jg (jd 1) jq)) (yQ 2 (jK (jw 3) (jK (jw 4) qY))) (w216_1 C lv)) (w216_7 C lv)
def w216_9(C:Cx)(lv:Nat):WS:=jj (jl (U3 (.dS [])) (vO (wk 7 (jd 0)) (jw 2))) (w216_8 C lv)
def XY(C:Cx)(lv:Nat):WS:=jj (jl (qQ 2 (jd 0)) (jw 1)) (w216_9 C lv)
theorem der216(C:Cx)(lv:Nat):(rB (sto 12) ⟨C,lv,[Str.ofString "self",Str.ofString "b",Str.ofString "b2j",Str.ofString "i",Str.ofString "elt",Str.ofString "indices",Str.ofString "junk",Str.ofString "isjunk",Str.ofString "popular",Str.ofString "n",Str.ofString "ntest",Str.ofString "idxs"],(.replicate 12 .local),k8 [5,7,0],0,[246,249,254,255,258]⟩ (jR (jL 6 5))).1=XY C lv:=by kernel_rfl!
theorem chk209:jV (jL 6 4) [Str.ofString "self",Str.ofString "b"] [.local,.local] [] [] 2=true:=by decide+kernel
def w209_0(C:Cx)(lv:Nat):WS:=jj (kU (.ret .none)) jv
def w209_1(C:Cx)(lv:Nat):WS:=jj (kz (kG C lv 216 (jd 0) jq)) jv
def w209_2(C:Cx)(lv:Nat):WS:=jj (jl (jm .none) (wk 6 (jd 0))) (w209_1 C lv)
def w209_3(C:Cx)(lv:Nat):WS:=jj (jl (jm .none) (vO (wk 4 (jd 0)) (wk 5 (jd 0)))) (w209_2 C lv)
def w209_4(C:Cx)(lv:Nat):WS:=jj (jl (jd 1) (wk 2 (jd 0))) (w209_3 C lv)
def w209_5(C:Cx)(lv:Nat):WS:=jj (sIf (j4 .Is (jd 1) (qQ 2 (jd 0))) (w209_0 C lv) jv) (w209_4 C lv)
def jaj(C:Cx)(lv:Nat):WS:=jj (kU .next) (w209_5 C lv)
theorem der209(C:Cx)(lv:Nat):(rB (sto 12) ⟨C,lv,[Str.ofString "self",Str.ofString "b"],[.local,.local],k8 [],0,[]⟩ (jR (jL 6 4))).1=jaj C lv:=by kernel_rfl!
theorem chk195:jV (jL 6 2) [Str.ofString "self",Str.ofString "a",Str.ofString "b"] [.local,.local,.local] [] [] 3=true:=by decide+kernel
def w195_0(C:Cx)(lv:Nat):WS:=jj (kz (kG C lv 209 (jd 0) (jg (jd 2) jq))) jv
def w195_1(C:Cx)(lv:Nat):WS:=jj (kz (kG C lv 202 (jd 0) (jg (jd 1) jq))) (w195_0 C lv)
def jal(C:Cx)(lv:Nat):WS:=jj (kU .next) (w195_1 C lv)
theorem der195(C:Cx)(lv:Nat):(rB (sto 12) ⟨C,lv,[Str.ofString "self",Str.ofString "a",Str.ofString "b"],[.local,.local,.local],k8 [],0,[]⟩ (jR (jL 6 2))).1=jal C lv:=by kernel_rfl!
theorem chk188:jV (jL 6 1) [Str.ofString "self",Str.ofString "isjunk",Str.ofString "a",Str.ofString "b",Str.ofString "autojunk"] (.replicate 5 .local) [] [] 5=true:=by decide+kernel
def w188_0(C:Cx)(lv:Nat):WS:=jj (kz (kG C lv 195 (jd 0) (jg (jd 2) (jg (jd 3) jq)))) jv
def w188_1(C:Cx)(lv:Nat):WS:=jj (jl (jd 4) (wk 3 (jd 0))) (w188_0 C lv)
def w188_2(C:Cx)(lv:Nat):WS:=jj (jl (jm .none) (vO (wk 1 (jd 0)) (wk 2 (jd 0)))) (w188_1 C lv)
def w188_3(C:Cx)(lv:Nat):WS:=jj (jl (jd 1) (wk 0 (jd 0))) (w188_2 C lv)
def jam(C:Cx)(lv:Nat):WS:=jj (kU .next) (w188_3 C lv)
theorem der188(C:Cx)(lv:Nat):(rB (sto 12) ⟨C,lv,[Str.ofString "self",Str.ofString "isjunk",Str.ofString "a",Str.ofString "b",Str.ofString "autojunk"],(.replicate 5 .local),k8 [],0,[]⟩ (jR (jL 6 1))).1=jam C lv:=by kernel_rfl!
structure Ix(Z o:Sig)(l:List (Str×AV))(p:List Nat):Prop where
 yes:∀c,c∈p->∃x,dAt l (sg c)=some (.ref x)∧Z x=none∧o x=some (.list (idxs c 0 p))
 no:∀c,c∉p->dAt l (sg c)=none
 inj:∀c c' x,dAt l (sg c)=some (.ref x)->dAt l (sg c')=some (.ref x)->c=c'
theorem Vj:∀{p:List Nat} (j:Nat),c∉p->idxs c j p=[]:=by
 intro v__
 induction v__ with
 |nil=>
  intro _ _
  exact rfl
 |cons x p ih=>
  intro j h
  rw[w7,if_neg (fun e:x=c=>h (e▸List.mem_cons_self)),ih _ fun q=>h (List.mem_cons_of_mem _ q)]
theorem jbR:∀{p:List Nat} (j:Nat),(idxs c j p).length≤p.length:=by
 intro v__
 induction v__ with
 |nil=>
  intro _
  exact Nat.le_refl _
 |cons x p ih=>
  intro j
  rw[w7];split
  ·exact Nat.succ_le_succ (ih _)
  ·exact Nat.le_succ_of_le (ih _)
theorem Ko(h:y≠c):idxs c j (p++[y])=idxs c j p:=by rw[zf,if_neg h,List.append_nil]
theorem Ix.old(h:Ix Z o l p)(hy:y∈p)(hx:dAt l (sg y)=some (.ref x)):Ix Z (upd o x (.list (idxs y 0 (p++[y])))) l (p++[y])where
 yes c hc:=by
  by_cases e:c=y
  ·subst e
   refine jX (fun x' q1 q2 q3=> ?_) (h.yes c hy)
   rw[hx]at q1;cases q1
   exact ⟨x,hx,q2,jc⟩
  ·have hcp:c∈p:=by
    rcases List.mem_append.mp hc with q|q
    ·exact q
    ·exact absurd (List.mem_singleton.mp q) e
   refine jX (fun x' q1 q2 q3=> ?_) (h.yes c hcp)
   refine ⟨x',q1,q2,?_⟩
   rw[ji (fun e':x'=x=>e (h.inj c y x (e'▸q1) hx)),Ko (Ne.symm e)]
   exact q3
 no c hc:=h.no c fun q=>hc (List.mem_append_left _ q)
 inj:=h.inj
theorem Ix.new(h:Ix Z o l p)(hy:y∉p)(ha:o a=none)(hs:Z a=none)(h1:o' a=some (.list (idxs y 0 (p++[y]))))(h2:∀x xs,o x=some (.list xs)->o' x=some (.list xs)):Ix Z o' (l++[(sg y,.ref a)]) (p++[y])where
 yes c hc:=by
  rw[wb]
  by_cases e:c=y
  ·subst e
   rw[h.no c hy,if_pos rfl]
   exact ⟨a,rfl,hs,h1⟩
  ·have hcp:c∈p:=by
    rcases List.mem_append.mp hc with q|q
    ·exact q
    ·exact absurd (List.mem_singleton.mp q) e
   refine jX (fun x' q1 q2 q3=> ?_) (h.yes c hcp)
   rw[q1]
   exact ⟨x',rfl,q2,by rw[Ko (Ne.symm e)];exact h2 _ _ q3⟩
 no c hc:=by
  rw[wb,h.no c fun q=>hc (List.mem_append_left _ q),if_neg fun e=>hc (by rw[y1 e];simp)];rfl
 inj c c' x e1 e2:=by
  have key:∀d,dAt (l++[(sg y,.ref a)]) (sg d)=some (.ref x)->(d=y∧x=a)∨(dAt l (sg d)=some (.ref x)∧x≠a):=fun d e=>by
   rw[wb]at e
   by_cases hd:d∈p
   ·refine jX (fun x' q1 q2 q3=> ?_) (h.yes d hd)
    rw[q1]at e⊢
    cases e
    exact .inr ⟨rfl,fun q=>by rw[q,ha]at q3;cases q3⟩
   ·rw[h.no d hd]at e
    by_cases hdy:sg d=sg y
    ·rw[if_pos hdy]at e;cases e;exact .inl ⟨y1 hdy,rfl⟩
    ·rw[if_neg hdy]at e;cases e
  rcases key c e1 with ⟨p1,p2⟩|⟨p1,p2⟩<;>rcases key c' e2 with ⟨q1,q2⟩|⟨q1,q2⟩
  ·rw[p1,q1]
  ·exact absurd p2 q2
  ·exact absurd q2 p2
  ·exact h.inj c c' x p1 q1
theorem Ix.idx(h:Ix Z o l p):Idx o l p:=fun c=>by
 split
 ·rename_i hc
  refine jX (fun x q1 _ q3=> ?_) (h.yes c hc)
  exact ⟨x,q1,q3⟩
 ·rename_i hc
  exact h.no c hc
theorem jcp{s:Str}{i:Nat}{x:AV}(h:(vp s)[i]? =some x):∃c,s.cps.toList[i]? =some c∧x=.tup [.int (i:Nat),.str (sg c)]:=by
 delta vp at h
 rw[List.getElem?_map]at h
 refine jp ?_ (Option.map_eq_some_iff.mp h);rintro j hj rfl
 refine kg (fun hl e=> ?_) (List.getElem?_eq_some_iff.mp hj)
 rw[List.getElem_range]at e
 subst e
 rw[List.length_range]at hl
 have hl:i<s.cps.toList.length:=by simpa[Str.length]using hl
 refine ⟨_,List.getElem?_eq_getElem hl,?_⟩
 have:s.cps[i]? =some s.cps.toList[i]:=by rw[←Array.getElem?_toList,List.getElem?_eq_getElem hl]
 rw[this];rfl
theorem jco:(vp s).length=s.length:=by simp[vp]
section
variable {C:Cx} {lv:Nat} {loc:Loc} {Z:Sig} {Ψ:K1} {m d:Addr} {f:Nat->Option AV} {a A B:Str}
def J216(Z:Sig)(m d bj:Addr)(f:Nat->Option AV)(B:Str)(i:Nat)(ll:Loc)(o:Sig):Prop:=
 ∃l,Ix Z o l (B.cps.toList.take i)∧l.length≤i∧o bj=some (.dS l)∧o d=some (.ns (upd f 7 (.ref bj)))∧jN Z o d∧ll 0=some (.ref m)∧ll 1=some (.str B)∧ll 2=some (.ref bj)
structure Cb(Z o:Sig)(d:Addr)(f:Nat->Option AV)(B:List Nat):Prop where
 k:jN Z o d
 ex:∃bj bk bp l,o d=some (.ns (upd (upd (upd f 7 (.ref bj)) 8 (.ref bk)) 9 (.ref bp)))∧o bj=some (.dS l)∧Idx o l B∧o bk=some .set0
theorem Idx.mono(h:Idx Z l p)(k:∀x v,Z x=some (.list v)->o x=some (.list v)):Idx o l p:=fun c=>by
 have:=h c
 split
 ·rename_i hc
  rw[if_pos hc]at this
  refine jp (fun x q1 q2=> ?_) this
  exact ⟨x,q1,k _ _ q2⟩
 ·rename_i hc
  rw[if_neg hc]at this;exact this
theorem vc216b(hom':o m=some (.inst SMA d))(hod:o d=some (.ns (upd (upd f 7 (.ref bj)) 8 (.ref bk))))(hob:o bj=some (.dS l))(hok:o bk=some .set0)(hx:Idx o l B.cps.toList)(K:jN Z o d)(h3:f 3=some (.bool true))(hB:B.length<8)(hne:m≠d)(hd:Z d=some (.ns f))(e0:loc 0=some (.ref m))(e1:loc 1=some (.str B))(h:∀o,Cb Z o d f B.cps.toList->Ψ .none o):jai C lv loc o (j9 Ψ):=by
 refine jh<|ju<|jbT fun bp hbp=>qy<|kL e0 (je hbp hom') (je hbp hod)<|jr<|jb<|jh<|ju<|qf (s:=B) (Nat.le_trans (Nat.le_of_lt hB) (by decide)) (fun _ k=>ja e1 k)<|jr<|jb<|jh<|qk<|kB<|qH<|j7 e0 (by rw[ji hne];exact je hbp hom') jc h3 ⟨(fun h=>nomatch h),fun _=>kB<|jz<|ja rfl<|js<|jbW (e:=false) (decide_eq_false (by lia)).symm ⟨fun _=>⟨(fun h=>nomatch h),fun _=>jt<|jb<|jt<|h _ ⟨(K.new (K.fresh hod hbp)).put,bj,bk,bp,l,jc,?_,?_,?_⟩⟩,(fun h=>nomatch h)⟩⟩
 ·rw[ji (fun e=>by rw[e,hod]at hob;cases hob)];exact je hbp hob
 ·exact hx.mono fun x v q=>by rw[ji (fun e=>by rw[e,hod]at q;cases q)];exact je hbp q
 ·rw[ji (fun e=>by rw[e,hod]at hok;cases hok)];exact je hbp hok
theorem vc216(hm:Z m=some (.inst SMA d))(hd:Z d=some (.ns f))(h0:f 0=some .none)(h2:f 2=some (.str B))(h3:f 3=some (.bool true))(hB:B.length<8)(hA:B.cps.all (·<128)=true)(e0:loc 0=some (.ref m))(h:∀o,Cb Z o d f B.cps.toList->Ψ .none o):XY C lv loc Z (j9 Ψ):=by
 have hne:m≠d:=by rintro rfl;rw[hd]at hm;cases hm
 refine jh<|ju<|j7 e0 hm hd h2<|jr<|jb<|jh<|ju<|Vn fun bj hbj=>qy<|kL e0 (je hbj hm) (je hbj hd)<|jr<|jb<|jh<|Kt ⟨rfl,jf<|ja rfl<|jo ⟨B,rfl,hA,?_⟩⟩
 have hbd:bj≠d:=fun e=>by rw[e,hd]at hbj;cases hbj
 have k0:jN Z (upd (upd Z bj (.dS [])) d (.ns (upd f 7 (.ref bj)))) d:=(jN.refl.new hbj).put
 refine ⟨J216 Z m d bj f B,⟨[],⟨fun c hc=>by simp at hc,fun c _=>rfl,fun c c' x e=>by cases e⟩,Nat.le_refl _,by rw[ji hbd,jc],jc,k0,e0,rfl,rfl⟩,?_⟩
 rintro i ll o ⟨l,hl,hle,hob,hod,K,e0,e1,e2⟩ hi
 rw[jco]at hi⊢
 have hom:o m=some (.inst SMA d):=K _ _ hne hm
 refine ⟨trivial,fun x hx=> ?_,fun he=> ?_⟩
 ·refine jp ?_ (jcp hx);rintro c hc rfl
  have hlt:i<B.cps.toList.length:=(List.getElem?_eq_some_iff.mp hc).1
  have htl:(B.cps.toList.take i).length=i:=by rw[List.length_take];lia
  have hle2:l.length≤1000:=by lia
  refine ⟨_,rfl,rfl,_,_,rfl,_,_,rfl,jh<|ju<|jZ<|ja e2 ⟨.inl ⟨_,hob⟩,jf<|ja rfl<|jf<|qS<|jo ⟨Nat.le_of_ble_eq_true rfl,fun y hy=>jo ?_⟩⟩⟩
  have hyb:bj≠y:=fun e=>by rw[e,hy]at hob;cases hob
  have hyd:d≠y:=fun e=>by rw[e,hy]at hod;cases hod
  have hys:Z y=none:=K.fresh hod hy
  have hyx:∀x v,o x=some v->x≠y:=fun x v e q=>by rw[q,hy]at e;cases e
  refine ⟨l,by rw[ji hyb];exact hob,hle2,fun u hu=> ?_,fun hn=> ?_⟩
  ·have hcp:c∈B.cps.toList.take i:=by
    by_cases q:c∈B.cps.toList.take i
    ·exact q
    ·rw[hl.no c q]at hu;cases hu
   refine jX (fun x q1 q2 q3=> ?_) (hl.yes c hcp)
   rw[q1]at hu;cases hu
   have hxy:=hyx _ _ q3
   have hlen:=jbR (c:=c) (p:=B.cps.toList.take i) 0
   rw[htl]at hlen
   refine jr<|jb<|jh<|jU<|jZ<|ja rfl ⟨⟨_,by rw[ji hxy];exact q3⟩,jf<|ja rfl<|jo ⟨_,by rw[ji hxy];exact q3,by lia,jb<|jt<|kM ⟨l,?_,Nat.le_succ_of_le hle,?_,?_,?_,e0,e1,e2⟩⟩⟩
   ·rw[qE hc]
    have e:idxs c 0 (B.cps.toList.take i)++[AV.int (i:Nat)]=idxs c 0 (B.cps.toList.take i++[c]):=by rw[zf,if_pos rfl,htl,Nat.zero_add]
    rw[e]
    have h2:=hl.old hcp q1
    refine ⟨fun c' hc'=> ?_,h2.no,h2.inj⟩
    refine jX (fun x' r1 r2 r3=> ?_) (h2.yes c' hc')
    refine ⟨x',r1,r2,?_⟩
    by_cases e':x'=x
    ·subst e';rw[jc]at r3⊢;exact r3
    ·rw[ji e']at r3⊢;rw[ji (hyx _ _ r3)];exact r3
   ·rw[ji (fun e=>by rw[e,q3]at hob;cases hob),ji hyb];exact hob
   ·rw[ji (fun e=>by rw[e,q3]at hod;cases hod),ji hyd];exact hod
   ·exact ((K.new hys)).new q2
  ·have hcp:c∉B.cps.toList.take i:=fun q=>by
    refine jp (fun x q1 _=> ?_) (hl.yes c q)
    rw[q1]at hn;cases hn
   refine jr<|jb<|jh<|jU<|jZ<|ja rfl ⟨⟨[],by rw[ji (Ne.symm hyb)];exact jc⟩,jf<|ja rfl<|jo ⟨[],by rw[ji (Ne.symm hyb)];exact jc,Nat.le_of_ble_eq_true rfl,jb<|jt<|kM ⟨l++[(sg c,.ref y)],?_,(by rw[List.length_append];exact Nat.succ_le_succ hle),by rw[ji hyb];exact jc,?_,?_,e0,e1,e2⟩⟩⟩
   ·rw[qE hc]
    refine hl.new hcp hy hys ?_ fun x xs hx=> ?_
    ·rw[jc,zf,Vj _ hcp,if_pos rfl,htl,Nat.zero_add]
    ·rw[ji (hyx _ _ hx),ji (fun e=>by rw[e,hob]at hx;cases hx),ji (hyx _ _ hx)];exact hx
   ·rw[ji hyd,ji (Ne.symm hbd),ji hyd];exact hod
   ·exact ((K.new hys).new hbj).new hys
 ·subst he
  have hlB:B.cps.toList.take B.length=B.cps.toList:=List.take_of_length_le (by simp[Str.length])
  rw[hlB]at hl
  have hx:=hl.idx
  refine jb<|jh<|ju<|jbT fun bk hbk=> ?_
  have ne1:∀x v,o x=some v->x≠bk:=fun x v e q=>by rw[q,hbk]at e;cases e
  refine qy<|kL e0 (je hbk hom) (je hbk hod)<|jr<|jb<|jh<|ju<|j7 e0 (by rw[ji hne];exact je hbk hom) jc h0<|jr<|jb<|jh<|qk<|qH<|ja rfl ⟨(fun h=>nomatch h),fun _=>jt<|jb<| ?_⟩
  exact vc216b (hom':=by rw[ji hne];exact je hbk hom) jc (by rw[ji hbd];exact je hbk hob) (by rw[ji (Ne.symm (ne1 _ _ hod))];exact jc) (hx.mono fun x v q=>by rw[ji (fun e=>by rw[e,hod]at q;cases q)];exact je hbk q) ((K.new (K.fresh hod hbk)).put) h3 hB hne hd e0 e1 h
theorem spec216(X:PC C)(hm:Z m=some (.inst SMA d))(hd:Z d=some (.ns f))(h0:f 0=some .none)(h2:f 2=some (.str B))(h3:f 3=some (.bool true))(hB:B.length<8)(hA:B.cps.all (·<128)=true)(h:∀o,Cb Z o d f B.cps.toList->Ψ .none o):jC C (lv+1) (.ref 216) [.ref m] Z Ψ:=
 jM X (X.fn 19 rfl) chk216 rfl (wd fun _ _=>rfl) fun A env x1 x2 x3 cs z k T hcd hcl hcn hcf R tk=>SpB.use (kj ⟨_,_,_,_,_,k,T⟩ (der216 _ _)) R tk (vc216 hm hd h0 h2 h3 hB hA rfl h)
theorem vc209(X:PC C)(hm:Z m=some (.inst SMA d))(hd:Z d=some (.ns f))(h0:f 0=some .none)(h1:f 1=some (.str A))(h2:f 2=some w)(hw:w=.none∨∃A,w=.str A)(h3:f 3=some (.bool true))(hB:B.length<8)(hA:B.cps.all (·<128)=true)(e0:loc 0=some (.ref m))(e1:loc 1=some (.str B))(hs:w=.str B->Ψ .none Z)(h:∀o,jN Z o d->MtK o m d A B->Ψ .none o):jaj C (lv+1) loc Z (j9 Ψ):=by
 have hne:m≠d:=by rintro rfl;rw[hd]at hm;cases hm
 refine jh<|kJ<|jb<|jh<|qk<|jz<|ja e1<|j7 e0 hm hd h2<|i_is hw ⟨(fun h=>nomatch h),fun _=> ?_⟩ fun e=>⟨fun _=>jh<|kJ<|hs e,(fun h=>nomatch h)⟩
 have hm1:∀g,upd Z d (.ns g) m=some (.inst SMA d):=fun g=>by rw[ji hne];exact hm
 refine jt<|jb<|jh<|ju<|ja e1<|kL e0 hm hd<|jb<|jh<|ju<|js<|qy<|kL e0 (hm1 _) jc ?_
 rw[j6]
 refine kL e0 (hm1 _) jc ?_
 rw[j6]
 refine jb<|jh<|ju<|js<|kL e0 (hm1 _) jc ?_
 rw[j6]
 refine jb<|jh<|jU<|kx<|ja e0 ⟨m,d,_,rfl,hm1 _,jc,jo<|spec216 X (hm1 _) jc h0 rfl h3 hB hA fun o Q=> ?_⟩
 refine x4_4 (fun bj bk bp l q1 q2 q3 q4=> ?_) Q.ex
 exact jb<|jt<|h o ((jN.refl.put).trans Q.k) ⟨Q.k _ _ hne (hm1 _),_,q1,⟨h0,h1,rfl,h3⟩,.inl rfl,.inl rfl,⟨bj,l,rfl,q2,q3⟩,bk,rfl,q4⟩
theorem Ya(X:PC C)(hm:Z m=some (.inst SMA d))(hd:Z d=some (.ns f))(h0:f 0=some .none)(h1:f 1=some (.str A))(h2:f 2=some w)(hw:w=.none∨∃A,w=.str A)(h3:f 3=some (.bool true))(hB:B.length<8)(hA:B.cps.all (·<128)=true)(hs:w=.str B->Ψ .none Z)(h:∀o,jN Z o d->MtK o m d A B->Ψ .none o):jC C (lv+2) (.ref 209) [.ref m,.str B] Z Ψ:=
 jM X (X.fn 18 rfl) chk209 rfl (wG fun _ _ _=>rfl) fun _ env x1 x2 x3 cs z k T hcd hcl hcn hcf R tk=>SpB.use (kj ⟨_,_,_,_,_,k,T⟩ (der209 _ _)) R tk (vc209 X hm hd h0 h1 h2 hw h3 hB hA rfl rfl hs h)
theorem mt209(X:PC C)(M:MtK Z m d A B)(hB:b.length<8)(hA:b.cps.all (·<128)=true)(h:∀o,jN Z o d->MtK o m d A b->Ψ .none o):jC C (lv+2) (.ref 209) [.ref m,.str b] Z Ψ:=by
 refine jX (fun f hd hf hc=> ?_) M.ex
 exact Ya X M.im hd hf.j hf.a hf.b (.inr ⟨B,rfl⟩) hf.au hB hA (fun e=>by injection e with e;subst e;exact h _ .refl M) h
theorem vc195(X:PC C)(hm:Z m=some (.inst SMA d))(hd:Z d=some (.ns f))(h0:f 0=some .none)(h1:f 1=some .none)(h2:f 2=some .none)(h3:f 3=some (.bool true))(hB:B.length<8)(hA:B.cps.all (·<128)=true)(e0:loc 0=some (.ref m))(e1:loc 1=some (.str A))(e2:loc 2=some (.str B))(h:∀o,jN Z o d->MtK o m d A B->Ψ .none o):jal C (lv+2) loc Z (j9 Ψ):=by
 have hne:m≠d:=by rintro rfl;rw[hd]at hm;cases hm
 refine jh<|kJ<|jb<|jh<|jU<|kx<|ja e0 ⟨m,d,_,rfl,hm,hd,jf<|ja e1<|jo<|Yb X hm hd h1 (.inl rfl) ?_ (fun e=>nomatch e)⟩
 exact jb<|jh<|jU<|kx<|ja e0 ⟨m,d,_,rfl,by rw[ji hne];exact hm,jc,jf<|ja e2<|jo<|Ya X (by rw[ji hne];exact hm) jc h0 rfl h2 (.inl rfl) h3 hB hA (fun e=>nomatch e) fun o K M=>jb<|jt<|h o (jN.refl.put.trans K) M⟩
theorem spec195(X:PC C)(hm:Z m=some (.inst SMA d))(hd:Z d=some (.ns f))(h0:f 0=some .none)(h1:f 1=some .none)(h2:f 2=some .none)(h3:f 3=some (.bool true))(hB:B.length<8)(hA:B.cps.all (·<128)=true)(h:∀o,jN Z o d->MtK o m d A B->Ψ .none o):jC C (lv+3) (.ref 195) [.ref m,.str A,.str B] Z Ψ:=
 jM X (X.fn 16 rfl) chk195 rfl (Xm fun _ _ _ _=>rfl) fun _ env x1 x2 x3 cs z k T hcd hcl hcn hcf R tk=>SpB.use (kj ⟨_,_,_,_,_,k,T⟩ (der195 _ _)) R tk (vc195 X hm hd h0 h1 h2 h3 hB hA rfl rfl rfl h)
noncomputable abbrev nul:Str:=Str.ofString ""
theorem vc188(X:PC C)(hm:Z m=some (.inst SMA d))(hd:Z d=some (.ns f))(e0:loc 0=some (.ref m))(e1:loc 1=some .none)(e2:loc 2=some (.str nul))(e3:loc 3=some (.str nul))(e4:loc 4=some (.bool true))(h:∀o,jN Z o d->MtK o m d nul nul->Ψ .none o):jam C (lv+3) loc Z (j9 Ψ):=by
 have hne:m≠d:=by rintro rfl;rw[hd]at hm;cases hm
 have hm1:∀g,upd Z d (.ns g) m=some (.inst SMA d):=fun g=>by rw[ji hne];exact hm
 refine jh<|kJ<|jb<|jh<|ju<|ja e1<|kL e0 hm hd<|jb<|jh<|ju<|js<|qy<|kL e0 (hm1 _) jc ?_
 rw[j6]
 refine kL e0 (hm1 _) jc ?_
 rw[j6]
 refine jb<|jh<|ju<|ja e4<|kL e0 (hm1 _) jc ?_
 rw[j6]
 exact jb<|jh<|jU<|kx<|ja e0 ⟨m,d,_,rfl,hm1 _,jc,jf<|ja e2<|jf<|ja e3<|jo<|spec195 X (hm1 _) jc rfl rfl rfl rfl (by decide+kernel) (by decide+kernel) fun o K M=>jb<|jt<|h o (jN.refl.put.trans K) M⟩
theorem bindsD{C:Cx}{st:Stmt}{N:List Str}{a:AV}{T:Addr}{np:Nat}{ys:List AV}{k:Str->Value->Option (Array Value)->Sem (List (Str×Value))}(o:Obj)(items:Array Value)(n:Nat)(ho:C.K.lookup T=some o)(hs:o.data=.seq items n)(hv:∀g:Gh,qK C.tk0 g.T->VRs g ys items.toList)(h₁:∀q u,yM (k6 st) (.ref T) q ⟨[u],[]⟩=seqItems? (.ref T)>>=k q u)(hw2:∀q u,k q u (some items)=pure ((N.take np).zip (u::items.toList))):yT C st (.ref T) N np [a] (a::ys):=fun z fd e1 e2 e3 hK hT vs v=>by
 refine jp ?_ v.one;rintro u rfl hu
 refine ⟨u::items.toList,⟨u,_,rfl,hu,hv _ hT⟩,BindsTo.of_defaults e2 (hK _ _ ho) hs (k:=k fd.qualname u) ?_ (hw2 _ _)⟩
 rw[qX fd _ e3,e1,e2];exact h₁ _ _
theorem spec188(X:PC C)(hm:Z m=some (.inst SMA d))(hd:Z d=some (.ns f))(h:∀o,jN Z o d->MtK o m d nul nul->Ψ .none o):jC C (lv+4) (.ref 188) [.ref m] Z Ψ:=by
 refine x4_6 (fun ob n t u q1 q2 q3 q4 q5 q6=> ?_) X.d181
 exact jM X (X.fn 15 rfl) chk188 rfl (bindsD (ys:=[.none,.str nul,.str nul,.bool true]) ob _ n q1 q2 (fun g T=>⟨_,_,rfl,rfl,_,_,rfl,⟨t,rfl,q3,T _ _ q5⟩,_,_,rfl,⟨u,rfl,q4,T _ _ q6⟩,_,_,rfl,rfl,rfl⟩) (fun _ _=>rfl) (fun _ _=>rfl)) fun _ env x1 x2 x3 cs z k T hcd hcl hcn hcf R tk=>SpB.use (kj ⟨_,_,_,_,_,k,T⟩ (der188 _ _)) R tk (vc188 X hm hd rfl rfl rfl rfl rfl h)
theorem X6(X:PC C)(h:∀x d o,Z x=none->Z d=none->j3 Z o->MtK o x d nul nul->Ψ (.ref x) o):jC C (lv+5) (.ref SMA) [] Z Ψ:=
 ZI X.mks fun x d hx hd hxd=>spec188 X jc (by rw[ji (Ne.symm hxd)];exact jc) fun o K M=>⟨rfl,h x d o hx hd (fun a v e=>K a v (fun q=>by rw[q,hd]at e;cases e) (by rw[ji (fun q=>by rw[q,hx]at e;cases e)];exact je hd e)) M⟩
end
end
def Ahd(i' j' i j:Nat):Prop:=i'<i∨(i'=i∧j'<j)
theorem YM(h:Ahd i' j' i (j+1)):Ahd i' j' i j∨(i'=i∧j'=j):=by
 rcases h with h|⟨h,k⟩
 ·exact .inl (.inl h)
 ·rcases Nat.lt_succ_iff_lt_or_eq.mp k with k|k
  ·exact .inl (.inr ⟨h,k⟩)
  ·exact .inr ⟨h,k⟩
theorem bf_up(h:Ahd i' j' i j):Ahd i' j' i (j+1):=h.imp_right fun h=>⟨h.1,Nat.lt_succ_of_lt h.2⟩
theorem bf_dn(h:Ahd i' j' (i+1) 0)(k:j'<n):Ahd i' j' i n:=by
 rcases h with h|h
 ·rcases Nat.lt_succ_iff_lt_or_eq.mp h with h|h
  ·exact .inl h
  ·exact .inr ⟨h,k⟩
 ·exact absurd h.2 (Nat.not_lt_zero _)
theorem bf_nx(h:Ahd i' j' i n):Ahd i' j' (i+1) 0:=.inl (h.elim Nat.lt_succ_of_lt fun h=>h.1▸Nat.lt_succ_self _)
structure GrI(f:Nat->Nat->Nat×Nat×Nat)(n:Nat)(r0:Nat×Nat×Nat)(i j:Nat)(r:Nat×Nat×Nat):Prop where
 max:∀i' j',j'<n->Ahd i' j' i j->(f i' j').1≤r.1
 ge:r0.1≤r.1
 at_:r=r0∨∃i0 j0,j0<n∧Ahd i0 j0 i j∧r=f i0 j0∧r0.1<r.1∧∀i' j',j'<n->Ahd i' j' i0 j0->(f i' j').1<r.1
theorem GrI.pick{f:Nat->Nat->Nat×Nat×Nat}(hj:j<n)(h:GrI f n r0 i j r):GrI f n r0 i (j+1) (yx r (f i j)):=by
 delta yx
 split
 ·rename_i q
  refine ⟨fun i' j' hn hb=> ?_,Nat.le_of_lt (Nat.lt_of_le_of_lt h.ge q),.inr ⟨i,j,hj,.inr ⟨rfl,Nat.lt_succ_self _⟩,rfl,Nat.lt_of_le_of_lt h.ge q,fun i' j' hn hb=>Nat.lt_of_le_of_lt (h.max _ _ hn hb) q⟩⟩
  rcases YM hb with hb|⟨rfl,rfl⟩
  ·exact Nat.le_of_lt (Nat.lt_of_le_of_lt (h.max _ _ hn hb) q)
  ·exact Nat.le_refl _
 ·rename_i q
  refine ⟨fun i' j' hn hb=> ?_,h.ge,h.at_.imp_right fun h=>yV (fun i0 j0 a b c d e=>⟨i0,j0,a,bf_up b,c,d,e⟩) h⟩
  rcases YM hb with hb|⟨rfl,rfl⟩
  ·exact h.max _ _ hn hb
  ·exact Nat.le_of_not_lt q
theorem GrI.row{f:Nat->Nat->Nat×Nat×Nat}(h:GrI f n r0 i 0 r)(j:Nat)(hj:j≤n):GrI f n r0 i j (vI f i j r):=by
 induction j with
 |zero=>exact h
 |succ j ih=>exact (ih (Nat.le_of_succ_le hj)).pick hj
theorem GrI.all{f:Nat->Nat->Nat×Nat×Nat}(i:Nat):GrI f n r0 i 0 (Om f n r0 i):=by
 induction i with
 |zero=>exact ⟨fun i' j' _ h=>(h.elim (Nat.not_lt_zero _) fun h=>Nat.not_lt_zero _ h.2).elim,Nat.le_refl _,.inl rfl⟩
 |succ i ih=>
  have h:=ih.row n (Nat.le_refl _)
  exact ⟨fun i' j' hn hb=>h.max _ _ hn (bf_dn hb hn),h.ge,h.at_.imp_right fun h=>yV (fun i0 j0 a b c d e=>⟨i0,j0,a,bf_nx b,c,d,e⟩) h⟩
structure Blk(A B:List Nat)(alo ahi blo bhi s p q:Nat):Prop where
 p1:alo≤p
 p2:p+s≤ahi
 q1:blo≤q
 q2:q+s≤bhi
 eq:∀t,t<s->A[p+t]? =B[q+t]?
structure Xr(P:Nat->Nat->Nat->Prop)(p0 q0:Nat)(r:Nat×Nat×Nat):Prop where
 blk:P r.1 r.2.1 r.2.2
 max:∀s p q,P s p q->s≤r.1
 fst:∀p q,0<r.1->P r.1 p q->¬Ahd p q r.2.1 r.2.2
 zero:r.1=0->r.2=(p0,q0)
theorem bf_tri(h:¬Ahd p q p' q')(k:¬Ahd p' q' p q):p=p'∧q=q':=by
 rcases Nat.lt_trichotomy p p' with a|rfl|a
 ·exact absurd (.inl a) h
 ·rcases Nat.lt_trichotomy q q' with b|rfl|b
  ·exact absurd (.inr ⟨rfl,b⟩) h
  ·exact ⟨rfl,rfl⟩
  ·exact absurd (.inr ⟨rfl,b⟩) k
 ·exact absurd (.inl a) k
theorem Xr.eq{P:Nat->Nat->Nat->Prop}(h:Xr P p0 q0 r)(h':Xr P p0 q0 r'):r=r':=by
 have e:r.1=r'.1:=Nat.le_antisymm (h'.max _ _ _ h.blk) (h.max _ _ _ h'.blk)
 refine Prod.ext e ?_
 rcases Nat.eq_zero_or_pos r.1 with z|z
 ·exact (h.zero z).trans (h'.zero (e▸z)).symm
 ·exact kC (fun a b=>Prod.ext a b) (bf_tri (h'.fst _ _ (e▸z) (e▸h.blk)) (h.fst _ _ z (e▸h'.blk)))
theorem GrI.isB{f:Nat->Nat->Nat×Nat×Nat}{P:Nat->Nat->Nat->Prop}(G:GrI f n (0,p0,q0) m 0 r)(h0:P 0 p0 q0)
  (hf:∀i j,i<m->j<n->0<(f i j).1->P (f i j).1 (f i j).2.1 (f i j).2.2)
  (hP:∀s p q,0<s->P s p q->∃i j,i<m∧j<n∧s≤(f i j).1∧∀i0 j0,j0<n->(f i0 j0).1=s->Ahd p q (f i0 j0).2.1 (f i0 j0).2.2->Ahd i j i0 j0):Xr P p0 q0 r:=by
 have hb:P r.1 r.2.1 r.2.2:=by
  rcases G.at_ with e|h
  ·rw[e];exact h0
  ·refine yV (fun i0 j0 a b c d _=> ?_) h
   rw[c]at d⊢
   exact hf _ _ (b.elim id fun h=>absurd h.2 (Nat.not_lt_zero _)) a d
 refine ⟨hb,fun s p q h=> ?_,fun p q z h b=> ?_,fun z=> ?_⟩
 ·rcases Nat.eq_zero_or_pos s with z|z
  ·exact z▸Nat.zero_le _
  ·exact ZQ (fun i j a b c _=>Nat.le_trans c (G.max i j b (.inl a))) (hP s p q z h)
 ·rcases G.at_ with e|h'
  ·rw[e]at z;exact Nat.lt_irrefl _ z
  ·refine yV (fun i0 j0 a _ c _ e=>ZQ (fun i j _ d k l=> ?_) (hP _ p q z h)) h'
   exact Nat.not_lt_of_le k (e i j d (l i0 j0 a (congrArg Prod.fst c.symm) (c▸b)))
 ·rcases G.at_ with e|h'
  ·rw[e]
  ·exact yV (fun i0 j0 _ _ _ d _=>absurd (z▸d) (Nat.lt_irrefl _)) h'
theorem Uo:∀{s:Nat} {l m:List Nat},s≤lcp l m↔s≤l.length∧s≤m.length∧∀t,t<s->l[t]? =m[t]? :=fun{s}=>by
 induction s with
 |zero=>exact ⟨fun _=>⟨Nat.zero_le _,Nat.zero_le _,fun _ h=>absurd h (Nat.not_lt_zero _)⟩,fun _=>Nat.zero_le _⟩
 |succ s ih=>
  intro l m
  cases l with
  |nil=>exact ⟨fun h=>absurd h (Nat.not_succ_le_zero _),fun h=>absurd h.1 (Nat.not_succ_le_zero _)⟩
  |cons a l=>cases m with
   |nil=>exact ⟨fun h=>absurd h (Nat.not_succ_le_zero _),fun h=>absurd h.2.1 (Nat.not_succ_le_zero _)⟩
   |cons b m=>
    show s+1≤(if a=b then lcp l m+1 else 0)↔_
    split
    ·rename_i e
     refine ⟨fun h=> ?_,fun h=>Nat.succ_le_succ (ih.mpr ⟨Nat.le_of_succ_le_succ h.1,Nat.le_of_succ_le_succ h.2.1,fun t ht=>h.2.2 (t+1) (Nat.succ_lt_succ ht)⟩)⟩
     have k:=ih.mp (Nat.le_of_succ_le_succ h)
     refine ⟨Nat.succ_le_succ k.1,Nat.succ_le_succ k.2.1,fun t ht=> ?_⟩
     cases t with
     |zero=>exact congrArg some e
     |succ t=>exact k.2.2 t (Nat.lt_of_succ_lt_succ ht)
    ·rename_i e
     exact ⟨fun h=>absurd h (Nat.not_succ_le_zero _),fun h=>absurd (Option.some.inj (h.2.2 0 (Nat.succ_pos _))) e⟩
theorem Ys(hi:i≤a.length)(hj:j≤b.length):s≤lcp (a.drop i) (b.drop j)↔Blk a b 0 a.length 0 b.length s i j:=by
 rw[Uo]
 simp only[List.length_drop,List.getElem?_drop]
 exact ⟨fun⟨h1,h2,h3⟩=>⟨Nat.zero_le _,Nat.add_comm i s▸Nat.add_le_of_le_sub hi h1,Nat.zero_le _,Nat.add_comm j s▸Nat.add_le_of_le_sub hj h2,h3⟩,fun h=>⟨Nat.le_sub_of_add_le (Nat.add_comm i s▸h.p2),Nat.le_sub_of_add_le (Nat.add_comm j s▸h.q2),h.eq⟩⟩
theorem yN:Xr (Blk a b 0 a.length 0 b.length) 0 0 (j8 a b):=by
 refine (GrI.all (f:=lcpF a b) (n:=b.length) (r0:=(0,0,0)) a.length).isB ⟨Nat.le_refl _,Nat.zero_le _,Nat.le_refl _,Nat.zero_le _,fun t h=>absurd h (Nat.not_lt_zero _)⟩
  (fun i j hi hj _=>(Ys (Nat.le_of_lt hi) (Nat.le_of_lt hj)).mp (Nat.le_refl _)) fun s p q hs h=> ?_
 have hp:=Nat.lt_of_lt_of_le (Nat.lt_add_of_pos_right hs) h.p2
 have hq:=Nat.lt_of_lt_of_le (Nat.lt_add_of_pos_right hs) h.q2
 exact ⟨p,q,hp,hq,(Ys (Nat.le_of_lt hp) (Nat.le_of_lt hq)).mpr h,fun _ _ _ _ h=>h⟩
noncomputable def exN(A B:List Nat)(alo blo i j:Nat):Nat:=i.rec (motive:=fun _=>Nat->Nat) (fun _=>0) (fun i r j=>j.casesOn 0 fun j=>if alo≤i∧blo≤j∧A[i]? =B[j]? then r j+1 else 0) j
theorem exN_s:exN A B alo blo (i+1) (j+1)=if alo≤i∧blo≤j∧A[i]? =B[j]? then exN A B alo blo i j+1 else 0:=rfl
noncomputable def exF(A B:List Nat)(alo blo:Nat)(i j:Nat):Nat×Nat×Nat:=(exN A B alo blo (i+1) (j+1),i+1-exN A B alo blo (i+1) (j+1),j+1-exN A B alo blo (i+1) (j+1))
theorem exN_ge(h1:alo≤p)(h2:blo≤q)(h:∀t,t<s->A[p+t]? =B[q+t]?):s≤exN A B alo blo (p+s) (q+s):=by
 induction s with
 |zero=>exact Nat.zero_le _
 |succ s ih=>
  refine Nat.le_trans (Nat.succ_le_succ (ih fun t ht=>h t (Nat.lt_succ_of_lt ht))) (Nat.le_of_eq ?_)
  exact (if_pos ⟨Nat.le_trans h1 (Nat.le_add_right _ _),Nat.le_trans h2 (Nat.le_add_right _ _),h s (Nat.lt_succ_self s)⟩).symm
theorem jcc:∀{i j:Nat},s≤exN A B alo blo i j->s=0∨∃p q,i=p+s∧j=q+s∧alo≤p∧blo≤q∧∀t,t<s->A[p+t]? =B[q+t]? :=by
 induction s with
 |zero=>exact fun _=>.inl rfl
 |succ s ih=>
  intro i j h
  cases i with
  |zero=>exact absurd h (Nat.not_succ_le_zero _)
  |succ i=>cases j with
   |zero=>exact absurd h (Nat.not_succ_le_zero _)
   |succ j=>
    rw[exN_s]at h
    split at h
    ·rename_i c
     refine .inr ?_
     rcases ih (Nat.le_of_succ_le_succ h)with rfl|h
     ·exact ⟨i,j,rfl,rfl,c.1,c.2.1,fun t ht=>by cases Nat.lt_one_iff.mp ht;exact c.2.2⟩
     ·refine yV (fun p q e1 e2 a b k=>⟨p,q,congrArg (·+1) e1,congrArg (·+1) e2,a,b,fun t ht=> ?_⟩) h
      rcases Nat.lt_succ_iff_lt_or_eq.mp ht with ht|rfl
      ·exact k t ht
      ·have c:=c.2.2;rw[e1,e2]at c;exact c
    ·exact absurd h (Nat.not_succ_le_zero _)
theorem jcb:exN A B alo blo i j≤i∧exN A B alo blo i j≤j:=by
 rcases jcc (Nat.le_refl (exN A B alo blo i j))with h|h
 ·rw[h];exact ⟨Nat.zero_le _,Nat.zero_le _⟩
 ·exact yV (fun p q a b _ _ _=>⟨Nat.le_trans (Nat.le_add_left _ p) (Nat.le_of_eq a.symm),Nat.le_trans (Nat.le_add_left _ q) (Nat.le_of_eq b.symm)⟩) h
noncomputable def flm(A B:List Nat)(alo ahi blo bhi:Nat):Nat×Nat×Nat:=Om (exF A B alo blo) bhi (0,alo,blo) ahi
theorem jcd(h:0<exN A B alo blo (i+1) (j+1)):∃p q,exF A B alo blo i j=(exN A B alo blo (i+1) (j+1),p,q)∧i+1=p+exN A B alo blo (i+1) (j+1)∧j+1=q+exN A B alo blo (i+1) (j+1)∧alo≤p∧blo≤q∧∀t,t<exN A B alo blo (i+1) (j+1)->A[p+t]? =B[q+t]? :=by
 rcases jcc (Nat.le_refl (exN A B alo blo (i+1) (j+1)))with e|k
 ·exact absurd (e▸h:0<0) (Nat.lt_irrefl _)
 ·exact yV (fun p q a b c d k=>⟨p,q,Prod.ext rfl (Prod.ext (Nat.sub_eq_of_eq_add a) (Nat.sub_eq_of_eq_add b)),a,b,c,d,k⟩) k
theorem Uz(h1:alo≤ahi)(h2:blo≤bhi):Xr (Blk A B alo ahi blo bhi) alo blo (flm A B alo ahi blo bhi):=by
 refine (GrI.all (f:=exF A B alo blo) (n:=bhi) (r0:=(0,alo,blo)) ahi).isB ⟨Nat.le_refl _,h1,Nat.le_refl _,h2,fun t h=>absurd h (Nat.not_lt_zero _)⟩ (fun i j hi hj hp=> ?_) fun s p q hs h=> ?_
 ·refine x2_6 (fun p q e a b c d k=> ?_) (jcd hp)
  rw[e];exact ⟨c,a▸hi,d,b▸hj,k⟩
 ·have g:=exN_ge h.p1 h.q1 h.eq
  cases s with
  |zero=>exact absurd hs (Nat.lt_irrefl _)
  |succ s=>
   refine ⟨p+s,q+s,h.p2,h.q2,g,fun i0 j0 hj e b=> ?_⟩
   refine x2_6 (fun p0 q0 e' a c _ _ _=> ?_) (jcd (e.symm▸hs:0<(exF A B alo blo i0 j0).1))
   rw[show exN A B alo blo (i0+1) (j0+1)=s+1 from e]at a c
   cases Nat.succ.inj a
   cases Nat.succ.inj c
   rw[e']at b
   exact Or.imp (fun b=>Nat.add_lt_add_right b s) (fun b=>⟨congrArg (·+s) b.1,Nat.add_lt_add_right b.2 s⟩) b
noncomputable def sl(A:List Nat)(lo hi:Nat):List Nat:=(A.take hi).drop lo
theorem yZ{A:List Nat}{lo hi:Nat}(h:hi≤A.length):(sl A lo hi).length=hi-lo:=by delta sl;rw[List.length_drop,List.length_take,Nat.min_eq_left h]
theorem sl_get{A:List Nat}{lo hi i:Nat}(h:lo+i<hi):(sl A lo hi)[i]? =A[lo+i]? :=by
 delta sl
 rw[List.getElem?_drop,List.getElem?_take_of_lt h]
theorem jaY(h1:alo≤ahi)(h2:blo≤bhi):Blk (sl A alo ahi) (sl B blo bhi) 0 (ahi-alo) 0 (bhi-blo) s p q↔Blk A B alo ahi blo bhi s (alo+p) (blo+q):=by
 have g:∀{A:List Nat} {lo hi p t:Nat},lo+p+s≤hi->t<s->(sl A lo hi)[p+t]? =A[lo+p+t]? :=fun h k=>by
  rw[Nat.add_assoc];exact sl_get (Nat.lt_of_lt_of_le (Nat.add_assoc _ _ _▸Nat.add_lt_add_left k _) h)
 refine ⟨fun h=> ?_,fun h=> ?_⟩
 ·have a:alo+p+s≤ahi:=by rw[Nat.add_assoc,Nat.add_comm];exact Nat.add_le_of_le_sub h1 h.p2
  have b:blo+q+s≤bhi:=by rw[Nat.add_assoc,Nat.add_comm];exact Nat.add_le_of_le_sub h2 h.q2
  exact ⟨Nat.le_add_right _ _,a,Nat.le_add_right _ _,b,fun t ht=>(g a ht).symm.trans ((h.eq t ht).trans (g b ht))⟩
 ·exact ⟨Nat.zero_le _,Nat.le_sub_of_add_le (by rw[Nat.add_comm,←Nat.add_assoc];exact h.p2),Nat.zero_le _,Nat.le_sub_of_add_le (by rw[Nat.add_comm,←Nat.add_assoc];exact h.q2),fun t ht=>(g h.p2 ht).trans ((h.eq t ht).trans (g h.q2 ht).symm)⟩
theorem jb7{A B:List Nat}{alo ahi blo bhi:Nat}(h1:alo≤ahi)(h2:blo≤bhi)(h3:ahi≤A.length)(h4:bhi≤B.length):flm A B alo ahi blo bhi=((j8 (sl A alo ahi) (sl B blo bhi)).1,alo+(j8 (sl A alo ahi) (sl B blo bhi)).2.1,blo+(j8 (sl A alo ahi) (sl B blo bhi)).2.2):=by
 have b:=yN (a:=sl A alo ahi) (b:=sl B blo bhi)
 rw[yZ h3,yZ h4]at b
 have fro:∀{s p q},Blk A B alo ahi blo bhi s p q->∃p' q',p=alo+p'∧q=blo+q'∧Blk (sl A alo ahi) (sl B blo bhi) 0 (ahi-alo) 0 (bhi-blo) s p' q':=fun{s p q} h=>by
  have e1:=(Nat.add_sub_cancel' h.p1).symm
  have e2:=(Nat.add_sub_cancel' h.q1).symm
  exact ⟨_,_,e1,e2,(jaY h1 h2).mpr (e1▸e2▸h)⟩
 refine (Uz h1 h2).eq ⟨(jaY h1 h2).mp b.blk,fun s p q h=>qb (fun p' q' _ _ k=>b.max _ _ _ k) (fro h),fun p q hp h c=>qb (fun p' q' e1 e2 k=> ?_) (fro h),fun z=> ?_⟩
 ·subst e1 e2
  exact b.fst _ _ hp k (c.imp Nat.lt_of_add_lt_add_left fun c=>⟨Nat.add_left_cancel c.1,Nat.lt_of_add_lt_add_left c.2⟩)
 ·have z:=b.zero z
  show (alo+_,blo+_)=_
  rw[z];rfl
section
theorem chk224:jV (jL 6 6) [Str.ofString "self",Str.ofString "alo",Str.ofString "ahi",Str.ofString "blo",Str.ofString "bhi",Str.ofString "a",Str.ofString "b",Str.ofString "b2j",Str.ofString "isbjunk",Str.ofString "besti",Str.ofString "bestj",Str.ofString "bestsize",Str.ofString "j2len",Str.ofString "nothing",Str.ofString "i",Str.ofString "j2lenget",Str.ofString "newj2len",Str.ofString "j",Str.ofString "k"] (.replicate 19 .local) [] [0,4,10] 5=true:=by decide+kernel
def w224_0(C:Cx)(lv:Nat):WS:=jj (kU .cont) jv
def w224_1(C:Cx)(lv:Nat):WS:=jj (kU .brk) jv
def w224_2(C:Cx)(lv:Nat):WS:=jj (wu [9,10,11] 3 (qo (jg (jQ .Add (jQ .Sub (jd 14) (jd 18)) (jm (.int 1))) (jg (jQ .Add (jQ .Sub (jd 17) (jd 18)) (jm (.int 1))) (jg (jd 18) jq))))) jv
def w224_3(C:Cx)(lv:Nat):WS:=jj (sIf (j4 .Gt (jd 18) (jd 11)) (w224_2 C lv) jv) jv
def w224_4(C:Cx)(lv:Nat):WS:=jj (jl (jQ .Add (jy C lv (jd 15) (jg (jQ .Sub (jd 17) (jm (.int 1))) (jg (jm (.int 0)) jq))) (jm (.int 1))) (vO (jw 18) (KL (jd 16) (jd 17)))) (w224_3 C lv)
def w224_5(C:Cx)(lv:Nat):WS:=jj (sIf (j4 .GtE (jd 17) (jd 4)) (w224_1 C lv) jv) (w224_4 C lv)
def jah(C:Cx)(lv:Nat):WS:=jj (sIf (j4 .Lt (jd 17) (jd 3)) (w224_0 C lv) jv) (w224_5 C lv)
def jag(C:Cx)(lv:Nat):WS:=jj (jl (jd 16) (jw 12)) jv
def w224_8(C:Cx)(lv:Nat):WS:=jj (wP (w8 C (kh C .dget (jd 7) (jg (kl (jd 5) (jd 14)) (jg (jd 13) jq)))) (jw 17) (jah C lv)) (jag C lv)
def w224_9(C:Cx)(lv:Nat):WS:=jj (jl (U3 (.dI [])) (jw 16)) (w224_8 C lv)
def XX(C:Cx)(lv:Nat):WS:=jj (jl (jbj .dget (jd 12)) (jw 15)) (w224_9 C lv)
def XW(C:Cx)(lv:Nat):WS:=jj (vc (jy C lv (jm (.ref 163)) (jg (jd 9) (jg (jd 10) (jg (jd 11) jq))))) jv
def XV(C:Cx)(lv:Nat):WS:=jj (qG (qh (j4 .Lt (jQ .Add (jd 9) (jd 11)) (jd 2)) (qh (j4 .Lt (jQ .Add (jd 10) (jd 11)) (jd 4)) (qh (wo (jy C lv (jd 8) (jg (kl (jd 6) (jQ .Add (jd 10) (jd 11))) jq))) (qh (j4 .Eq (kl (jd 5) (jQ .Add (jd 9) (jd 11))) (kl (jd 6) (jQ .Add (jd 10) (jd 11)))) k5)))) vb) (XW C lv)
def XU(C:Cx)(lv:Nat):WS:=jj (qG (qh (j4 .Gt (jd 9) (jd 1)) (qh (j4 .Gt (jd 10) (jd 3)) (qh (wo (jy C lv (jd 8) (jg (kl (jd 6) (jQ .Sub (jd 10) (jm (.int 1)))) jq))) (qh (j4 .Eq (kl (jd 5) (jQ .Sub (jd 9) (jm (.int 1)))) (kl (jd 6) (jQ .Sub (jd 10) (jm (.int 1))))) k5)))) vb) (XV C lv)
def XT(C:Cx)(lv:Nat):WS:=jj (qG (qh (j4 .Lt (jQ .Add (jd 9) (jd 11)) (jd 2)) (qh (j4 .Lt (jQ .Add (jd 10) (jd 11)) (jd 4)) (qh (VL (wo (jy C lv (jd 8) (jg (kl (jd 6) (jQ .Add (jd 10) (jd 11))) jq)))) (qh (j4 .Eq (kl (jd 5) (jQ .Add (jd 9) (jd 11))) (kl (jd 6) (jQ .Add (jd 10) (jd 11)))) k5)))) vb) (XU C lv)
def XS(C:Cx)(lv:Nat):WS:=jj (qG (qh (j4 .Gt (jd 9) (jd 1)) (qh (j4 .Gt (jd 10) (jd 3)) (qh (VL (wo (jy C lv (jd 8) (jg (kl (jd 6) (jQ .Sub (jd 10) (jm (.int 1)))) jq)))) (qh (j4 .Eq (kl (jd 5) (jQ .Sub (jd 9) (jm (.int 1)))) (kl (jd 6) (jQ .Sub (jd 10) (jm (.int 1))))) k5)))) vb) (XT C lv)
def w224_16(C:Cx)(lv:Nat):WS:=jj (wP (qJ (jm (.ty "range")) (jg (jd 1) (jg (jd 2) jq))) (jw 14) (XX C lv)) (XS C lv)
def w224_17(C:Cx)(lv:Nat):WS:=jj (jl (vV jq) (jw 13)) (w224_16 C lv)
def w224_18(C:Cx)(lv:Nat):WS:=jj (jl (U3 (.dI [])) (jw 12)) (w224_17 C lv)
def w224_19(C:Cx)(lv:Nat):WS:=jj (wu [9,10,11] 3 (qo (jg (jd 1) (jg (jd 3) (jg (jm (.int 0)) jq))))) (w224_18 C lv)
def w224_20(C:Cx)(lv:Nat):WS:=jj (sIf (j4 .Is (jd 4) (jm .none)) vb jv) (w224_19 C lv)
def w224_21(C:Cx)(lv:Nat):WS:=jj (sIf (j4 .Is (jd 2) (jm .none)) vb jv) (w224_20 C lv)
def w224_22(C:Cx)(lv:Nat):WS:=jj (jl (qo (jg (qQ 1 (jd 0)) (jg (qQ 2 (jd 0)) (jg (qQ 7 (jd 0)) (jg (jbj .shas (qQ 8 (jd 0))) jq))))) (yQ 4 (jK (jw 5) (jK (jw 6) (jK (jw 7) (jK (jw 8) qY)))))) (w224_21 C lv)
def XR(C:Cx)(lv:Nat):WS:=jj (kU .next) (w224_22 C lv)
theorem der224(C:Cx)(lv:Nat):(rB (sto 12) ⟨C,lv,[Str.ofString "self",Str.ofString "alo",Str.ofString "ahi",Str.ofString "blo",Str.ofString "bhi",Str.ofString "a",Str.ofString "b",Str.ofString "b2j",Str.ofString "isbjunk",Str.ofString "besti",Str.ofString "bestj",Str.ofString "bestsize",Str.ofString "j2len",Str.ofString "nothing",Str.ofString "i",Str.ofString "j2lenget",Str.ofString "newj2len",Str.ofString "j",Str.ofString "k"],(.replicate 19 .local),k8 [0,4,10],224,[308,310,327,329,331,333]⟩ (jR (jL 6 6))).1=XR C lv:=by kernel_rfl!
theorem binds5d{C:Cx}{st:Stmt}{N:List Str}{T:Addr}{a b c d e:AV}{k:Str->Value->Value->Value->Value->Value->Option (Array Value)->Sem (List (Str×Value))}(o:Obj)(items:Array Value)(n:Nat)(ho:C.K.lookup T=some o)(hs:o.data=.seq items n)(h₁:∀q u v w x y,yM (k6 st) (.ref T) q ⟨[u,v,w,x,y],[]⟩=seqItems? (.ref T)>>=k q u v w x y)(hw2:∀q u v w x y,k q u v w x y (some items)=pure ((N.take 5).zip [u,v,w,x,y])):yT C st (.ref T) N 5 [a,b,c,d,e] [a,b,c,d,e]:=fun z fd e1 e2 e3 hK hT vs hv=>by
 have h0:=hv
 obtain ⟨u,_,rfl,_,v,_,rfl,_,w,_,rfl,_,x,_,rfl,_,y,_,rfl,_,rfl⟩:=hv
 exact ⟨_,h0,BindsTo.of_defaults e2 (hK _ _ ho) hs (k:=k fd.qualname u v w x y) (by rw[qX fd _ e3,e1,e2];exact h₁ _ _ _ _ _ _) (hw2 _ _ _ _ _ _)⟩
theorem wf{Θ:Loc->Sig->Prop}(h:Θ loc Z):qY xs loc Z Θ:=h
theorem i_isn{Ξ:Bool->Sig->Prop}(h:Ξ false Z):vG .Is (.int a) .none Z fun c Zw3=>∃b,c=.bool b∧Ξ b Zw3:=⟨_,rfl,h⟩
theorem sub1{u v:Nat}(h:v≤u+1):(u:Int)-(v:Int)+1=((u+1-v:Nat):Int):=by lia
theorem kN{s:Str}{i c:Nat}{Z:Sig}{Ψ:K1}(h:s.cps.toList[i]? =some c)(hi:s.length≤1000)(k:Ψ (.str (sg c)) Z):yf (.str s) (.int (i:Int)) Z Ψ:=by
 have hl:i<s.cps.toList.length:=(List.getElem?_eq_some_iff.mp h).1
 have hl:i<s.length:=by simpa[Str.length]using hl
 refine ⟨c,?_,by lia,k⟩
 delta seqIndex?
 have h1:¬((i:Int)<0):=Int.not_lt.mpr (Int.natCast_nonneg i)
 simp[h1,hl]
 rw[←Array.getElem?_toList];exact h
theorem jca(h:i≤alo):exN A B alo blo i j=0:=by
 cases i with
 |zero=>rfl
 |succ i=>cases j with
  |zero=>rfl
  |succ j=>exact if_neg fun q=>absurd (Nat.lt_of_lt_of_le (Nat.lt_succ_self i) h) (Nat.not_lt.mpr q.1)
theorem exN_z:exN A B alo blo i 0=0:=Nat.eq_zero_of_not_pos fun h=>absurd jcb.2 (Nat.not_le.mpr h)
theorem jb9(h:¬(blo≤j∧A[i]? =B[j]?)):exN A B alo blo (i+1) (j+1)=0:=if_neg fun q=>h q.2
theorem Yl{r c:Nat×Nat×Nat}(h:c.1=0):yx r c=r:=if_neg (h▸Nat.not_lt_zero _)
theorem y4{J K:Nat}(h:J≤K)(k:∀j,J≤j->j<K->¬(blo≤j∧A[i]? =B[j]?)):vI (exF A B alo blo) i K r=vI (exF A B alo blo) i J r:=by
 induction K with
 |zero=>rw[Nat.le_zero.mp h]
 |succ K ih=>
  rcases Nat.lt_or_eq_of_le h with e|rfl
  ·have hle:=Nat.le_of_lt_succ e
   exact (Yl (jb9 (k K hle (Nat.lt_succ_self _)))).trans (ih hle fun j h1 h2=>k j h1 (Nat.lt_succ_of_lt h2))
  ·rfl
theorem allR_lo(h:i≤alo):Om (exF A B alo blo) bhi r i=r:=by
 induction i with
 |zero=>rfl
 |succ i ih=>
  rw[allR_s,ih (Nat.le_of_succ_le h)]
  have key:∀J,vI (exF A B alo blo) i J r=r:=fun J=>by
   induction J with
   |zero=>rfl
   |succ J ih=>exact (Yl (jca (j:=J+1) h)).trans ih
  exact key bhi
theorem jbS:∀{p:List Nat} {j n:Nat} {x:AV},(idxs c j p)[n]? =some x->∃t,x=.int ((j+t:Nat):Int)∧p[t]? =some c∧n=(p.take t).count c:=by
 intro v__
 induction v__ with
 |nil=>
  intro j n x h
  cases h
 |cons y p ih=>
  intro j n x h
  rw[w7]at h
  split at h
  ·rename_i e
   cases n with
   |zero=>exact ⟨0,by cases h;rfl,by rw[e];rfl,rfl⟩
   |succ n=>
    refine jX (fun t h1 h2 h3=> ?_) (ih (j:=j+1) (n:=n) h)
    refine ⟨t+1,by rw[h1,Nat.add_assoc,Nat.add_comm 1],h2,?_⟩
    rw[List.take_succ_cons,e,List.count_cons_self,h3]
  ·rename_i e
   refine jX (fun t h1 h2 h3=> ?_) (ih (j:=j+1) h)
   refine ⟨t+1,by rw[h1,Nat.add_assoc,Nat.add_comm 1],h2,?_⟩
   rw[List.take_succ_cons,List.count_cons_of_ne e,h3]
theorem V8:∀{p:List Nat} {j:Nat},(idxs c j p).length=p.count c:=by
 intro v__
 induction v__ with
 |nil=>
  intro _
  exact rfl
 |cons y p ih=>
  intro j
  rw[w7]
  split
  ·rename_i e
   rw[e,List.count_cons_self,List.length_cons,ih]
  ·rename_i e
   rw[List.count_cons_of_ne e,ih]
theorem yL{l:List Nat}{c a b:Nat}(h:a≤b):(l.take a).count c≤(l.take b).count c:=(List.take_sublist_take_left h).count_le c
theorem KA{l:List Nat}{c a:Nat}(h:l[a]? =some c):(l.take (a+1)).count c=(l.take a).count c+1:=by rw[qE h,yc,if_pos rfl]
def yS(A B:List Nat)(alo blo bhi i J:Nat)(l:List (Int×AV)):Prop:=∀j,j≤bhi->(dAt l ((j:Int)-1)).getD (.int 0)=.int ((if j≤J then exN A B alo blo i j else 0:Nat):Int)
theorem yS.skip{A B:List Nat}{alo blo bhi i J K:Nat}{l:List (Int×AV)}(h:yS A B alo blo bhi (i+1) J l)(hJ:J≤K)(k:∀j,J≤j->j<K->¬(blo≤j∧A[i]? =B[j]?)):yS A B alo blo bhi (i+1) K l:=fun j hj=>by
 rw[h j hj]
 by_cases e:j≤J
 ·rw[if_pos e,if_pos (Nat.le_trans e hJ)]
 ·rw[if_neg e]
  split
  ·rename_i e2
   cases j with
   |zero=>exact absurd (Nat.zero_le J) e
   |succ j=>rw[jb9 (k j (Nat.le_of_lt_succ (Nat.lt_of_not_le e)) e2)]
  ·rfl
theorem yS.put(h:yS A B alo blo bhi (i+1) J l):yS A B alo blo bhi (i+1) (J+1) (zF l (J:Int) (.int ((exN A B alo blo (i+1) (J+1):Nat):Int))):=fun j hj=>by
 rw[UD]
 by_cases e:j=J+1
 ·subst e
  rw[if_pos (by lia),if_pos (Nat.le_refl _)];rfl
 ·rw[if_neg (by lia),h j hj]
  by_cases q:j≤J
  ·rw[if_pos q,if_pos (Nat.le_succ_of_le q)]
  ·rw[if_neg q,if_neg (by lia)]
def Xq(A B:Str)(alo ahi blo bhi:Nat)(bj bk:Addr)(ll:Loc):Prop:=ll 1=some (.int (alo:Int))∧ll 2=some (.int (ahi:Int))∧ll 3=some (.int (blo:Int))∧ll 4=some (.int (bhi:Int))∧ll 5=some (.str A)∧ll 6=some (.str B)∧ll 7=some (.ref bj)∧ll 8=some (.bm .shas (.ref bk))
def Xo(r:Nat×Nat×Nat)(ll:Loc):Prop:=ll 9=some (.int (r.2.1:Int))∧ll 10=some (.int (r.2.2:Int))∧ll 11=some (.int (r.1:Int))
structure jcL(A B:Str)(alo ahi blo bhi:Nat):Prop where
 a:alo≤ahi
 a2:ahi≤A.cps.toList.length
 b:blo≤bhi
 b2:bhi≤B.cps.toList.length
 hA:A.cps.toList.length<8
 hB:B.cps.toList.length<8
section
variable {C:Cx} {lv:Nat} {loc:Loc} {Z:Sig} {Ψ:K1} {m d bj bk:Addr} {f:Nat->Option AV} {A B:Str} {alo ahi blo bhi:Nat}
noncomputable abbrev wJ(A B:Str)(alo blo:Nat):Nat->Nat->Nat×Nat×Nat:=exF A.cps.toList B.cps.toList alo blo
def jcS(A B:Str)(alo ahi blo bhi:Nat)(bj bk nt nj:Addr)(o1:Sig)(c i:Nat)(r:Nat×Nat×Nat)(j2:Addr)(n:Nat)(ll:Loc)(o:Sig):Prop:=
 ∃J l,J≤bhi∧n=(B.cps.toList.take J).count c∧Xq A B alo ahi blo bhi bj bk ll∧Xo (vI (wJ A B alo blo) i J r) ll∧ll 13=some (.ref nt)∧ll 14=some (.int (i:Int))∧ll 15=some (.bm .dget (.ref j2))∧ll 16=some (.ref nj)∧yS A.cps.toList B.cps.toList alo blo bhi (i+1) J l∧l.length≤J∧o=upd o1 nj (.dI l)
theorem vc224i(H:jcL A B alo ahi blo bhi){nt nj j2:Addr}{o1:Sig}{c i t:Nat}{r:Nat×Nat×Nat}{l0:List (Int×AV)}(hi:alo≤i)(hc:A.cps.toList[i]? =some c)(ht:B.cps.toList[t]? =some c)(hj2:∀l,upd o1 nj (.dI l) j2=some (.dI l0))(hD0:yS A.cps.toList B.cps.toList alo blo bhi i bhi l0)
  {J:Nat} {l:List (Int×AV)} {ll:Loc} {Φ:Fl->Loc->Sig->Prop} (hJ:J≤bhi) (hJt:J≤t) (hno:∀j,J≤j->j<t->A.cps.toList[i]?≠B.cps.toList[j]?) (hE:Xq A B alo ahi blo bhi bj bk ll) (hR:Xo (vI (wJ A B alo blo) i J r) ll) (e13:ll 13=some (.ref nt)) (e14:ll 14=some (.int (i:Int))) (e15:ll 15=some (.bm .dget (.ref j2))) (e16:ll 16=some (.ref nj)) (e17:ll 17=some (.int (t:Int))) (hD:yS A.cps.toList B.cps.toList alo blo bhi (i+1) J l) (hl:l.length≤J)
  (hout:∀ll',Xq A B alo ahi blo bhi bj bk ll'->Xo (vI (wJ A B alo blo) i bhi r) ll'->ll' 13=some (.ref nt)->ll' 16=some (.ref nj)->yS A.cps.toList B.cps.toList alo blo bhi (i+1) bhi l->Φ .next ll' (upd o1 nj (.dI l))):jah C lv ll (upd o1 nj (.dI l)) (kc (jcS A B alo ahi blo bhi bj bk nt nj o1 c i r j2) Φ ((B.cps.toList.take t).count c)):=by
 have hlt:t<B.cps.toList.length:=(List.getElem?_eq_some_iff.mp ht).1
 have skip:∀K,J≤K->K≤t->vI (wJ A B alo blo) i K r=vI (wJ A B alo blo) i J r∧yS A.cps.toList B.cps.toList alo blo bhi (i+1) K l:=fun K h1 h2=>⟨y4 h1 fun j q1 q2 q=>hno j q1 (Nat.lt_of_lt_of_le q2 h2) q.2,hD.skip h1 fun j q1 q2 q=>hno j q1 (Nat.lt_of_lt_of_le q2 h2) q.2⟩
 refine x0_5 (fun E1 E2 E3 E4 E5=> ?_) hE
 refine wO (fun R1 R2 R3=> ?_) hR
 refine jh<|qk<|jz<|ja e17<|ja E3<|yC rfl ⟨fun hb=> ?_,fun hb=>jt<|jb<|jh<|qk<|jz<|ja e17<|ja E4<|jbW rfl ⟨fun hb2=> ?_,fun hb2=> ?_⟩⟩
 ·have hb:=Int.ofNat_lt.mp (of_decide_eq_true hb)
  refine kC (fun s1 s2=> ?_) (skip t hJt (Nat.le_refl _))
  have nn:∀j,t≤j->j<t+1->¬(blo≤j∧A.cps.toList[i]? =B.cps.toList[j]?):=fun j _ h2 q=>absurd (Nat.lt_of_le_of_lt q.1 h2) (Nat.not_lt.mpr hb)
  refine jh<|kJ<|i_fcont (Φ:=Φ) ⟨t+1,l,Nat.le_trans hb H.b,(KA ht).symm,⟨E1,E2,E3,E4,E5⟩,?_,e13,e14,e15,e16,s2.skip (Nat.le_succ _) nn,Nat.le_trans hl (Nat.le_succ_of_le hJt),rfl⟩
  rw[y4 (Nat.le_succ _) nn,s1]
  exact ⟨R1,R2,R3⟩
 ·have hb2:=Int.ofNat_le.mp (of_decide_eq_true hb2)
  refine kC (fun s1 s2=> ?_) (skip bhi hJ hb2)
  refine jh<|kJ<|hout ll ⟨E1,E2,E3,E4,E5⟩ ?_ e13 e16 s2
  rw[s1];exact ⟨R1,R2,R3⟩
 ·have hb:=Nat.le_of_not_lt fun q=>of_decide_eq_false hb (Int.ofNat_lt.mpr q)
  have hb2:=Nat.lt_of_not_le fun q=>of_decide_eq_false hb2 (Int.ofNat_le.mpr q)
  refine kC (fun s1 s2=> ?_) (skip t hJt (Nat.le_refl _))
  have hk:exN A.cps.toList B.cps.toList alo blo (i+1) (t+1)=exN A.cps.toList B.cps.toList alo blo i t+1:=if_pos ⟨hi,hb,by rw[hc,ht]⟩
  have hx:=jcb (A:=A.cps.toList) (B:=B.cps.toList) (alo:=alo) (blo:=blo) (i:=i+1) (j:=t+1)
  refine jt<|jb<|jh<|ju<|jE<|Ux<|ja e15 ⟨trivial,jf<|jE<|ja e17<|js<|wA rfl<|jf<|js<|jo ⟨.inl rfl,l0,hj2 l,?_⟩⟩
  rw[hD0 t (Nat.le_of_lt hb2),if_pos (Nat.le_of_lt hb2)]
  refine js<|jP (c:=((exN A.cps.toList B.cps.toList alo blo (i+1) (t+1):Nat):Int)) (by rw[hk];rfl)<|qy<|jr<|v7<|ja e16<|ja e17<| .inr ⟨l,jc,Nat.le_trans hl (Nat.le_trans hJt (Nat.le_trans (Nat.le_of_lt hlt) (Nat.le_trans (Nat.le_of_lt H.hB) (by decide)))),?_⟩
  rw[j6]
  have e1:(yx (vI (wJ A B alo blo) i J r) (wJ A B alo blo i t))=vI (wJ A B alo blo) i (t+1) r:=by rw[rowR_s,s1]
  have fin:∀ll':Loc,Xq A B alo ahi blo bhi bj bk ll'->Xo (vI (wJ A B alo blo) i (t+1) r) ll'->ll' 13=some (.ref nt)->ll' 14=some (.int (i:Int))->ll' 15=some (.bm .dget (.ref j2))->ll' 16=some (.ref nj)->kc (jcS A B alo ahi blo bhi bj bk nt nj o1 c i r j2) Φ ((B.cps.toList.take t).count c) .next ll' (upd o1 nj (.dI (zF l (t:Int) (.int ((exN A.cps.toList B.cps.toList alo blo (i+1) (t+1):Nat):Int))))):=fun ll' hE hR q1 q2 q3 q4=>
   kM ⟨t+1,_,hb2,(KA ht).symm,hE,hR,q1,q2,q3,q4,s2.put,Nat.le_trans yI (Nat.succ_le_succ (Nat.le_trans hl hJt)),rfl⟩
  rw[←e1]at fin
  delta yx at fin
  refine jb<|jh<|qk<|jz<|ja rfl<|ja R3<|Ks rfl ⟨fun hg=> ?_,fun hg=> ?_⟩
  ·have hg:(vI (wJ A B alo blo) i J r).1<(wJ A B alo blo i t).1:=Int.ofNat_lt.mp (of_decide_eq_true hg)
   rw[if_pos hg]at fin
   refine jh<|wz<|kA<|jf<|jE<|jE<|ja e14<|ja rfl<|wA rfl<|js<|jP (sub1 hx.1)<|jf<|jE<|jE<|ja e17<|ja rfl<|wA rfl<|js<|jP (sub1 hx.2)<|jf<|ja rfl<|jo ⟨Nat.le_of_ble_eq_true rfl,_,rfl,rfl,jb<|jt<|jb<|jt<|fin _ ⟨E1,E2,E3,E4,E5⟩ ⟨rfl,rfl,rfl⟩ e13 e14 e15 e16⟩
  ·have hg:¬(vI (wJ A B alo blo) i J r).1<(wJ A B alo blo i t).1:=fun q=>of_decide_eq_false hg (Int.ofNat_lt.mpr q)
   rw[if_neg hg]at fin
   exact jt<|jb<|jt<|fin _ ⟨E1,E2,E3,E4,E5⟩ ⟨R1,R2,R3⟩ e13 e14 e15 e16
theorem OH(h:Z a=some (.list l)):vQ C Z a l:=.inr h
def YS(Z:Sig)(A B:Str)(alo ahi blo bhi:Nat)(bj bk nt:Addr)(n:Nat)(ll:Loc)(o:Sig):Prop:=
 ∃j2 l,Xq A B alo ahi blo bhi bj bk ll∧Xo (Om (wJ A B alo blo) bhi (0,alo,blo) (alo+n)) ll∧ll 12=some (.ref j2)∧ll 13=some (.ref nt)∧o j2=some (.dI l)∧yS A.cps.toList B.cps.toList alo blo bhi (alo+n) bhi l∧o nt=some (.list [])∧j3 Z o
theorem vc224o(H:jcL A B alo ahi blo bhi){nt:Addr}{o:Sig}{n c:Nat}{lb:List (Str×AV)}(hbj:Z bj=some (.dS lb))(hix:Idx Z lb B.cps.toList)(hc:A.cps.toList[alo+n]? =some c){ll:Loc}{Φ:Fl->Loc->Sig->Prop}(hJ:YS Z A B alo ahi blo bhi bj bk nt n ll o)(e14:ll 14=some (.int ((alo+n:Nat):Int))):XX C lv ll o (kc (YS Z A B alo ahi blo bhi bj bk nt) Φ n):=by
 refine x2_8 (fun j2 l0 hE hR e12 e13 hj2 hD0 hnt hs=> ?_) hJ
 refine jh<|ju<|jbZ<|ja e12 ⟨j2,rfl,.inr ⟨_,hj2⟩,jr<|jb<|jh<|ju<|Vn fun nj hnj=>jr<|jb<|jh<|Kt<|vo<|jZ<|ja hE.2.2.2.2.2.2.1 ⟨.inl ⟨_,je hnj (hs _ _ hbj)⟩,jf<|ka<|ja hE.2.2.2.2.1<|ja e14<|kN hc (Nat.le_trans (Nat.le_of_lt H.hA) (by decide))<|jf<|ja e13<|jo ⟨lb,je hnj (hs _ _ hbj),?_⟩⟩⟩
 have key:∃x,(dAt lb (sg c)).getD (.ref nt)=.ref x∧∀l,vQ C (upd o nj (.dI l)) x (idxs c 0 B.cps.toList):=by
  have:=hix c
  split at this
  ·refine jp (fun x q1 q2=> ?_) this
   exact ⟨x,by rw[q1];rfl,fun l=>OH (je hnj (hs _ _ q2))⟩
  ·rename_i hn
   exact ⟨nt,by rw[this];rfl,fun l=>by rw[Vj _ hn];exact OH (je hnj hnt)⟩
 refine jp (fun x hx hg=> ?_) key
 rw[hx]
 have z0:yS A.cps.toList B.cps.toList alo blo bhi (alo+n+1) 0 []:=fun j _=>by
  cases j with
  |zero=>rw[if_pos (Nat.le_refl _),exN_z];rfl
  |succ j=>rw[if_neg (Nat.not_succ_le_zero _)];rfl
 refine vB (hg _) ⟨jcS A B alo ahi blo bhi bj bk nt nj o c (alo+n) (Om (wJ A B alo blo) bhi (0,alo,blo) (alo+n)) j2,⟨0,[],Nat.zero_le _,by rw[List.take_zero];rfl,hE,hR,e13,e14,rfl,rfl,z0,Nat.le_refl _,rfl⟩,?_⟩
 rintro k ll' o' ⟨J,l,hJ,rfl,hE,hR,e13,e14,e15,e16,hD,hl,rfl⟩ hk
 have out:∀ll':Loc,Xq A B alo ahi blo bhi bj bk ll'->Xo (vI (wJ A B alo blo) (alo+n) bhi (Om (wJ A B alo blo) bhi (0,alo,blo) (alo+n))) ll'->ll' 13=some (.ref nt)->ll' 16=some (.ref nj)->yS A.cps.toList B.cps.toList alo blo bhi (alo+n+1) bhi l->jag C lv ll' (upd o nj (.dI l)) (kc (YS Z A B alo ahi blo bhi bj bk nt) Φ n):=fun ll' hE hR e13 e16 hD=>
  jh<|ju<|ja e16<|jr<|jb<|jt<|kM ⟨nj,l,hE,hR,rfl,e13,jc,hD,je hnj hnt,fun a v e=>je hnj (hs a v e)⟩
 refine ⟨hg _,fun y hy=> ?_,fun he=> ?_⟩
 ·refine jX ?_ (jbS hy);rintro t rfl ht hn
  rw[Nat.zero_add]
  have hJt:J≤t:=Nat.le_of_not_lt fun q=>by
   have:=yL (l:=B.cps.toList) (c:=c) (show t+1≤J from q)
   rw[KA ht,←hn]at this
   exact absurd this (Nat.not_succ_le_self _)
  have hno:∀j,J≤j->j<t->A.cps.toList[alo+n]?≠B.cps.toList[j]? :=fun j h1 h2 q=>by
   have r1:=yL (l:=B.cps.toList) (c:=c) h1
   have r2:=yL (l:=B.cps.toList) (c:=c) (show j+1≤t from h2)
   rw[KA (q.symm.trans hc),←hn]at r2
   exact absurd (Nat.le_trans r2 r1) (Nat.not_succ_le_self _)
  rw[hn]
  exact vc224i H (Nat.le_add_right _ _) hc ht (fun l=>je hnj hj2) hD0 hJ hJt hno hE hR e13 e14 e15 e16 rfl hD hl fun ll' h1 h2 h3 h4 h5=>jb (out ll' h1 h2 h3 h4 h5)
 ·rw[V8]at he
  have hno:∀j,J≤j->j<bhi->¬(blo≤j∧A.cps.toList[alo+n]? =B.cps.toList[j]?):=fun j h1 h2 q=>by
   have r1:=yL (l:=B.cps.toList) (c:=c) h1
   have r2:=(List.take_sublist (j+1) B.cps.toList).count_le c
   rw[KA (q.2.symm.trans hc),←he]at r2
   exact absurd (Nat.le_trans r2 r1) (Nat.not_succ_le_self _)
  refine jb (out ll' hE ?_ e13 e16 (hD.skip hJ hno))
  rw[y4 hJ hno];exact hR
theorem zK{Φ:Fl->Loc->Sig->Prop}(h:∀P:Sig->Prop,T loc Z fun c o'=>(c=false->Φ .next loc o')∧(c=true->P o')):qG T S loc Z Φ:=
 vZ (fun _ l o=>l=loc∧o=Z) 0 ⟨rfl,rfl⟩ (by rintro n l o ⟨rfl,rfl⟩;exact h _)
theorem jbY{Ξ:Bool->Sig->Prop}(he:e=(a==b))(h:Ξ e Z):vG .Eq (.str a) (.str b) Z fun c Zw3=>∃b,c=.bool b∧Ξ b Zw3:=⟨_,rfl,he▸h⟩
theorem vc224t(X:PC C)(H:jcL A B alo ahi blo bhi){s p q:Nat}{ll:Loc}(hr:Xr (Blk A.cps.toList B.cps.toList alo ahi blo bhi) alo blo (s,p,q))(hk:Z bk=some .set0)(hE:Xq A B alo ahi blo bhi bj bk ll)(hR:Xo (s,p,q) ll)(h:Ψ (.mat [.int (p:Int),.int (q:Int),.int (s:Int)]) Z):XS C (lv+2) ll Z (j9 Ψ):=by
 refine x0_8 (fun E1 E2 E3 E4 E5 E6 E7 E8=> ?_) hE
 refine wO (fun R1 R2 R3=> ?_) hR
 obtain ⟨b1,b2,b3,b4,b5⟩:=hr.blk
 dsimp only at b1 b2 b3 b4 b5
 have ha:A.length≤1000:=Nat.le_trans (Nat.le_of_lt H.hA) (by decide)
 have hb:B.length≤1000:=Nat.le_trans (Nat.le_of_lt H.hB) (by decide)
 have cA:∀{i},i<ahi->∃c,A.cps.toList[i]? =some c:=fun hi=>⟨_,List.getElem?_eq_getElem (Nat.lt_of_lt_of_le hi H.a2)⟩
 have cB:∀{i},i<bhi->∃c,B.cps.toList[i]? =some c:=fun hi=>⟨_,List.getElem?_eq_getElem (Nat.lt_of_lt_of_le hi H.b2)⟩
 have L:alo<p->blo<q->A.cps.toList[p-1]?≠B.cps.toList[q-1]? :=fun h1 h2 e=>by
  clear R1 R2 hR h
  cases p with
  |zero=>exact Nat.not_lt_zero _ h1
  |succ p=>cases q with
   |zero=>exact Nat.not_lt_zero _ h2
   |succ q=>
    refine absurd (hr.max (s+1) p q ⟨Nat.le_of_lt_succ h1,Nat.succ_add_eq_add_succ p s▸b2,Nat.le_of_lt_succ h2,Nat.succ_add_eq_add_succ q s▸b4,fun t ht=> ?_⟩) (Nat.not_succ_le_self _)
    cases t with
    |zero=>exact e
    |succ t=>rw[←Nat.succ_add_eq_add_succ,←Nat.succ_add_eq_add_succ];exact b5 t (Nat.lt_of_succ_lt_succ ht)
 have R:p+s<ahi->q+s<bhi->A.cps.toList[p+s]?≠B.cps.toList[q+s]? :=fun h1 h2 e=>by
  have:=hr.max (s+1) p q ⟨b1,h1,b3,h2,fun t ht=> ?_⟩
  ·exact absurd this (Nat.not_succ_le_self _)
  ·rcases Nat.lt_succ_iff_lt_or_eq.mp ht with ht|rfl
   ·exact b5 t ht
   ·exact e
 have pre:∀{u v:Nat},v<u->(u:Int)-1=((u-1:Nat):Int):=fun h=>(Int.ofNat_sub (Nat.succ_le_of_lt (Nat.lt_of_le_of_lt (Nat.zero_le _) h))).symm
 have lo:∀{u v w:Nat},v<u->u+s≤w->u-1<w:=fun h k=>Nat.lt_of_lt_of_le (Nat.sub_lt (Nat.lt_of_le_of_lt (Nat.zero_le _) h) Nat.one_pos) (Nat.le_of_add_right_le k)
 have neq:∀{x y:Nat},some x≠some y->(sg x==sg y)=false:=fun h=>by
  rw[beq_eq_false_iff_ne]
  exact fun e=>h (by rw[y1 e])
 have fin:XW C (lv+2) ll Z (j9 Ψ):=jh<|qu<|ke (jA rfl)<|jf<|ja R1<|jf<|ja R2<|jf<|ja R3<|jo ⟨jA rfl,spec163 X h⟩
 have jk:∀{W:WE} {c:Nat} {Ψ:K1},(∀Ψ:K1,Ψ (.str (sg c)) Z->W ll Z Ψ)->Ψ (.bool false) Z->jy C (lv+2) (jd 8) (jg W jq) ll Z Ψ:=fun hW k=>Ux<|ja E8 ⟨trivial,jf<|hW _<|jo ⟨.inr (.inr rfl),hk,k⟩⟩
 have f4:XV C (lv+2) ll Z (j9 Ψ):=by
  refine jh<|zK fun P=>kB<|jz<|jE<|ja R1<|ja R3<|jP (c:=((p+s:Nat):Int)) rfl<|ja E2<|yC rfl ⟨fun _=>⟨fun _=>jb fin,(fun h=>nomatch h)⟩,fun h1=>kB<|jz<|jE<|ja R2<|ja R3<|jP (c:=((q+s:Nat):Int)) rfl<|ja E4<|yC rfl ⟨fun _=>⟨fun _=>jb fin,(fun h=>nomatch h)⟩,fun h2=> ?_⟩⟩
  refine kg (fun x hx=> ?_) (cB (Int.ofNat_lt.mp (of_decide_eq_true h2)))
  exact kB<|qH<|jk (fun _ k=>ka<|ja E6<|jE<|ja R2<|ja R3<|jP (c:=((q+s:Nat):Int)) rfl<|kN hx hb k) ⟨fun _=>⟨fun _=>jb fin,(fun h=>nomatch h)⟩,(fun h=>nomatch h)⟩
 have f3:XU C (lv+2) ll Z (j9 Ψ):=by
  refine jh<|zK fun P=>kB<|jz<|ja R1<|ja E1<|Ks rfl ⟨fun _=>⟨fun _=>jb f4,(fun h=>nomatch h)⟩,fun h1=>kB<|jz<|ja R2<|ja E3<|Ks rfl ⟨fun _=>⟨fun _=>jb f4,(fun h=>nomatch h)⟩,fun h2=> ?_⟩⟩
  have h2:=Int.ofNat_lt.mp (of_decide_eq_true h2)
  refine kg (fun x hx=> ?_) (cB (i:=q-1) (lo h2 b4))
  exact kB<|qH<|jk (fun _ k=>ka<|ja E6<|jE<|ja R2<|js<|wA (pre h2)<|kN hx hb k) ⟨fun _=>⟨fun _=>jb f4,(fun h=>nomatch h)⟩,(fun h=>nomatch h)⟩
 have f2:XT C (lv+2) ll Z (j9 Ψ):=by
  refine jh<|zK fun P=>kB<|jz<|jE<|ja R1<|ja R3<|jP (c:=((p+s:Nat):Int)) rfl<|ja E2<|yC rfl ⟨fun _=>⟨fun _=>jb f3,(fun h=>nomatch h)⟩,fun h1=>kB<|jz<|jE<|ja R2<|ja R3<|jP (c:=((q+s:Nat):Int)) rfl<|ja E4<|yC rfl ⟨fun _=>⟨fun _=>jb f3,(fun h=>nomatch h)⟩,fun h2=> ?_⟩⟩
  have h1:=Int.ofNat_lt.mp (of_decide_eq_true h1)
  have h2:=Int.ofNat_lt.mp (of_decide_eq_true h2)
  refine kg (fun x hx=> ?_) (cB h2)
  refine kg (fun y hy=> ?_) (cA h1)
  have ne:=R h1 h2
  rw[hx,hy]at ne
  exact kB<|Vk<|qH<|jk (fun _ k=>ka<|ja E6<|jE<|ja R2<|ja R3<|jP (c:=((q+s:Nat):Int)) rfl<|kN hx hb k) ⟨(fun h=>nomatch h),fun _=>kB<|jz<|ka<|ja E5<|jE<|ja R1<|ja R3<|jP (c:=((p+s:Nat):Int)) rfl<|kN hy ha<|ka<|ja E6<|jE<|ja R2<|ja R3<|jP (c:=((q+s:Nat):Int)) rfl<|kN hx hb<|jbY (neq ne).symm ⟨fun _=>⟨fun _=>jb f3,(fun h=>nomatch h)⟩,(fun h=>nomatch h)⟩⟩
 refine jh<|zK fun P=>kB<|jz<|ja R1<|ja E1<|Ks rfl ⟨fun _=>⟨fun _=>jb f2,(fun h=>nomatch h)⟩,fun h1=>kB<|jz<|ja R2<|ja E3<|Ks rfl ⟨fun _=>⟨fun _=>jb f2,(fun h=>nomatch h)⟩,fun h2=> ?_⟩⟩
 have h1:=Int.ofNat_lt.mp (of_decide_eq_true h1)
 have h2:=Int.ofNat_lt.mp (of_decide_eq_true h2)
 refine kg (fun x hx=> ?_) (cB (i:=q-1) (lo h2 b4))
 refine kg (fun y hy=> ?_) (cA (i:=p-1) (lo h1 b2))
 have ne:=L h1 h2
 rw[hx,hy]at ne
 exact kB<|Vk<|qH<|jk (fun _ k=>ka<|ja E6<|jE<|ja R2<|js<|wA (pre h2)<|kN hx hb k) ⟨(fun h=>nomatch h),fun _=>kB<|jz<|ka<|ja E5<|jE<|ja R1<|js<|wA (pre h1)<|kN hy ha<|ka<|ja E6<|jE<|ja R2<|js<|wA (pre h2)<|kN hx hb<|jbY (neq ne).symm ⟨fun _=>⟨fun _=>jb f2,(fun h=>nomatch h)⟩,(fun h=>nomatch h)⟩⟩
theorem vc224(X:PC C)(H:jcL A B alo ahi blo bhi)(M:Mt kp Z m d A B)(e0:loc 0=some (.ref m))(e1:loc 1=some (.int (alo:Int)))(e2:loc 2=some (.int (ahi:Int)))(e3:loc 3=some (.int (blo:Int)))(e4:loc 4=some (.int (bhi:Int)))
  (h:∀o,j3 Z o->Ψ (.mat [.int ((flm A.cps.toList B.cps.toList alo ahi blo bhi).2.1:Int),.int ((flm A.cps.toList B.cps.toList alo ahi blo bhi).2.2:Int),.int ((flm A.cps.toList B.cps.toList alo ahi blo bhi).1:Int)]) o):XR C (lv+2) loc Z (j9 Ψ):=by
 refine jX (fun f hd hf hc=> ?_) M.ex
 refine qb (fun bj lb h7 hbj hix=> ?_) hc.bj
 refine jp (fun bk h8 hbk=> ?_) hc.bk
 refine jh<|kJ<|jb<|jh<|ju<|kA<|jf<|j7 e0 M.im hd hf.a<|jf<|j7 e0 M.im hd hf.b<|jf<|j7 e0 M.im hd h7<|jf<|jbZ<|j7 e0 M.im hd h8 ⟨bk,rfl,hbk,jo ⟨Nat.le_of_ble_eq_true rfl,_,rfl,rfl,_,_,rfl,_,_,rfl,_,_,rfl,_,_,rfl,jr<|wf<|jb<|jh<|qk<|jz<|ja e2<|js<|i_isn ⟨(fun h=>nomatch h),fun _=>jt<|jb<|jh<|qk<|jz<|ja e4<|js<|i_isn ⟨(fun h=>nomatch h),fun _=>jt<|jb ?_⟩⟩⟩⟩
 refine jh<|wz<|kA<|jf<|ja e1<|jf<|ja e3<|jf<|js<|jo ⟨Nat.le_of_ble_eq_true rfl,_,rfl,rfl,jb<|jh<|ju<|Vn fun j2 hj2=>jr<|jb<|jh<|ju<|qS<|jo ⟨Nat.le_of_ble_eq_true rfl,fun nt hnt=>jr<|jb<|jh<|Kt ⟨trivial,jf<|ja e1<|jf<|ja e2<|jo ⟨rfl,?_⟩⟩⟩⟩
 have ha:=H.a;have ha2:=H.a2;have hA:=H.hA
 have s2:j3 Z (upd (upd Z j2 (.dI [])) nt (.list [])):=fun a v e=>je hnt (je hj2 e)
 refine ⟨by lia,by lia,by lia,by lia,YS Z A B alo ahi blo bhi bj bk nt,⟨j2,[],⟨e1,e2,e3,e4,rfl,rfl,rfl,rfl⟩,?_,rfl,rfl,je hnt jc,?_,jc,s2⟩,?_⟩
 ·rw[Nat.add_zero,allR_lo (Nat.le_refl _)];exact ⟨rfl,rfl,rfl⟩
 ·intro j hj
  rw[if_pos hj,Nat.add_zero,jca (Nat.le_refl _)];rfl
 rintro n ll o hJ hn
 rw[qt]at hn⊢
 dsimp only at hn⊢
 have hN:((ahi:Int)-(alo:Int)).toNat=ahi-alo:=Int.toNat_sub _ _
 rw[hN]at hn⊢
 refine ⟨trivial,fun x hx=> ?_,fun he=> ?_⟩
 ·refine kC ?_ (vf hx);rintro hlt rfl
  have hi:alo+n<A.cps.toList.length:=Nat.lt_of_lt_of_le (Nat.add_lt_of_lt_sub' hlt) ha2
  have e:(alo:Int)+(n:Nat)*1=((alo+n:Nat):Int):=by rw[Int.mul_one];rfl
  rw[e]
  exact jr<|vc224o H hbj hix (List.getElem?_eq_getElem hi) hJ rfl
 ·refine x2_8 (fun j2' l' hE hR _ _ _ _ _ hs=> ?_) hJ
  have e:alo+n=ahi:=by rw[he];exact Nat.add_sub_of_le ha
  rw[e]at hR
  exact jb<|vc224t X H (Uz H.a H.b) (hs _ _ hbk) hE hR (h o hs)
theorem spec224(X:PC C)(H:jcL A B alo ahi blo bhi){kp:Nat}(M:Mt kp Z m d A B)(h:Ψ (.mat [.int ((flm A.cps.toList B.cps.toList alo ahi blo bhi).2.1:Int),.int ((flm A.cps.toList B.cps.toList alo ahi blo bhi).2.2:Int),.int ((flm A.cps.toList B.cps.toList alo ahi blo bhi).1:Int)]) Z):jC C (lv+3) (.ref 224) [.ref m,.int (alo:Int),.int (ahi:Int),.int (blo:Int),.int (bhi:Int)] Z Ψ:=by
 refine ZN (fun ob n t u q1 q2=> ?_) X.d217
 refine jC.mono (Ψ':=fun v o=>v=.mat [.int ((flm A.cps.toList B.cps.toList alo ahi blo bhi).2.1:Int),.int ((flm A.cps.toList B.cps.toList alo ahi blo bhi).2.2:Int),.int ((flm A.cps.toList B.cps.toList alo ahi blo bhi).1:Int)]∧j3 Z o)
  (jM X (X.fn 20 rfl) chk224 rfl (binds5d ob _ n q1 q2 (fun _ _ _ _ _ _=>rfl) (fun _ _ _ _ _ _=>rfl)) fun A env x1 x2 x3 cs z k T hcd hcl hcn hcf R tk=>SpB.use (kj ⟨_,_,_,_,_,k,T⟩ (der224 _ _)) R tk (vc224 X H M rfl rfl rfl rfl rfl fun o hs=>⟨rfl,hs⟩)) fun v o Q=> ?_
 exact ⟨Z,Q.2,Q.1▸h⟩
end
end
theorem we:(j8 a b).2.1+(j8 a b).1≤a.length∧(j8 a b).2.2+(j8 a b).1≤b.length:=⟨(yN).blk.p2,(yN).blk.q2⟩
theorem Kk{n:Nat}:∀{m:Nat} {a b:List Nat},a.length≤n->a.length≤m->wy n a b=wy m a b:=by
 have z:∀{m:Nat} {a b:List Nat},a.length≤0->0=wy m a b:=fun{m a b} h=>by
  cases m with
  |zero=>rfl
  |succ m=>rw[vY,if_pos (Nat.le_zero.mp (Nat.le_trans (Nat.le_add_left _ _) (Nat.le_trans (we (a:=a) (b:=b)).1 h)))]
 induction n with
 |zero=>exact fun h _=>z h
 |succ n ih=>
  intro m a b h1 h2
  cases m with
  |zero=>exact (z h2).symm
  |succ m=>
   rw[vY,vY]
   by_cases e:(j8 a b).1=0
   ·rw[if_pos e,if_pos e]
   ·have h3:=(we (a:=a) (b:=b)).1
    have k1:∀k,a.length≤k+1->(a.take (j8 a b).2.1).length≤k:=fun k hk=>by rw[List.length_take];lia
    have k2:∀k,a.length≤k+1->(a.drop ((j8 a b).2.1+(j8 a b).1)).length≤k:=fun k hk=>by rw[List.length_drop];lia
    rw[if_neg e,if_neg e,ih (k1 n h1) (k1 m h2),ih (k2 n h1) (k2 m h2)]
theorem Uq:kept a b=if (j8 a b).1=0 then 0 else (j8 a b).1+kept (a.take (j8 a b).2.1) (b.take (j8 a b).2.2)+kept (a.drop ((j8 a b).2.1+(j8 a b).1)) (b.drop ((j8 a b).2.2+(j8 a b).1)):=by
 have h3:=(we (a:=a) (b:=b)).1
 delta kept
 by_cases e:(j8 a b).1=0
 ·rw[if_pos e]
  cases h:a.length with
  |zero=>rfl
  |succ n=>rw[vY,if_pos e]
 ·rw[if_neg e]
  obtain ⟨n,hn⟩:∃n,a.length=n+1:=⟨a.length-1,by lia⟩
  have k2:(a.drop ((j8 a b).2.1+(j8 a b).1)).length≤n:=by rw[List.length_drop];lia
  rw[hn,vY,if_neg e,Kk (by rw[List.length_take];lia) (Nat.le_refl _),Kk k2 (Nat.le_refl _)]
theorem Zx(h:(j8 a b).1=0):kept a b=0:=by rw[Uq,if_pos h]
theorem jbP:kept [] b=0:=rfl
theorem Zy:kept a []=0:=Zx (Nat.eq_zero_of_not_pos fun h=>by have:=(we (a:=a) (b:=[])).2;exact absurd (Nat.le_trans (Nat.le_add_left _ _) this) (Nat.not_le.mpr h))
theorem Up:∀{n:Nat} {a b:List Nat},wy n a b≤a.length:=by
 intro v__
 induction v__ with
 |zero=>
  intro _ _
  exact Nat.zero_le _
 |succ n ih=>
  intro a b
  rw[vY]
  by_cases e:(j8 a b).1=0
  ·rw[if_pos e];exact Nat.zero_le _
  ·rw[if_neg e]
   have h3:=(we (a:=a) (b:=b)).1
   have h1:=ih (a:=a.take (j8 a b).2.1) (b:=b.take (j8 a b).2.2)
   have h2:=ih (a:=a.drop ((j8 a b).2.1+(j8 a b).1)) (b:=b.drop ((j8 a b).2.2+(j8 a b).1))
   simp only[List.length_take]at h1
   rw[List.length_drop]at h2
   lia
theorem Yd{A:List Nat}{lo hi p:Nat}(h:lo+p≤hi):(sl A lo hi).take p=sl A lo (lo+p):=by
 delta sl
 simp only[List.take_drop,List.take_take,Nat.min_eq_left h]
theorem Ye{A:List Nat}{lo hi p:Nat}:(sl A lo hi).drop p=sl A (lo+p) hi:=by
 delta sl
 rw[List.drop_drop]
theorem jaZ:sl A 0 A.length=A:=by delta sl;rw[List.take_length,List.drop_zero]
noncomputable def kw(A B:List Nat)(alo ahi blo bhi:Nat):Nat:=kept (sl A alo ahi) (sl B blo bhi)
theorem kw_eq{A B:List Nat}{alo ahi blo bhi s p q:Nat}(h1:alo≤ahi)(h2:blo≤bhi)(h3:ahi≤A.length)(h4:bhi≤B.length)(e:flm A B alo ahi blo bhi=(s,p,q)):kw A B alo ahi blo bhi=if s=0 then 0 else s+kw A B alo p blo q+kw A B (p+s) ahi (q+s) bhi:=by
 rw[jb7 h1 h2 h3 h4]at e
 have hb:=we (a:=sl A alo ahi) (b:=sl B blo bhi)
 simp only[yZ h3,yZ h4]at hb
 delta kw
 rw[Uq]
 generalize j8 (sl A alo ahi) (sl B blo bhi)=r at e hb⊢
 obtain ⟨s',p',q'⟩:=r
 injection e with e1 e2
 injection e2 with e2 e3
 subst e1;subst e2;subst e3
 rw[Yd (by lia),Yd (by lia),Ye,Ye,←Nat.add_assoc alo,←Nat.add_assoc blo]
theorem Vh(h:¬(alo<ahi∧blo<bhi))(h3:ahi≤A.length)(h4:bhi≤B.length):kw A B alo ahi blo bhi=0:=by
 delta kw
 by_cases q:alo<ahi
 ·have:sl B blo bhi=[]:=List.length_eq_zero_iff.mp (by rw[yZ h4];exact Nat.sub_eq_zero_of_le (Nat.le_of_not_lt fun q'=>h ⟨q,q'⟩))
  rw[this,Zy]
 ·have:sl A alo ahi=[]:=List.length_eq_zero_iff.mp (by rw[yZ h3];exact Nat.sub_eq_zero_of_le (Nat.le_of_not_lt q))
  rw[this,jbP]
section
theorem chk231:jV (jL 6 7) [Str.ofString "self",Str.ofString "la",Str.ofString "lb",Str.ofString "queue",Str.ofString "matching_blocks",Str.ofString "alo",Str.ofString "ahi",Str.ofString "blo",Str.ofString "bhi",Str.ofString "i",Str.ofString "j",Str.ofString "k",Str.ofString "x",Str.ofString "i1",Str.ofString "j1",Str.ofString "k1",Str.ofString "non_adjacent",Str.ofString "i2",Str.ofString "j2",Str.ofString "k2"] (.replicate 20 .local) [] [0,8,9,10] 1=true:=by decide+kernel
def w231_0(C:Cx)(lv:Nat):WS:=jj (vc (qQ 4 (jd 0))) jv
def w231_1(C:Cx)(lv:Nat):WS:=jj (kz (kh C .append (jd 3) (jg (qo (jg (jd 5) (jg (jd 9) (jg (jd 7) (jg (jd 10) jq))))) jq))) jv
def w231_2(C:Cx)(lv:Nat):WS:=jj (kz (kh C .append (jd 3) (jg (qo (jg (jQ .Add (jd 9) (jd 11)) (jg (jd 6) (jg (jQ .Add (jd 10) (jd 11)) (jg (jd 8) jq))))) jq))) jv
def VI(C:Cx)(lv:Nat):WS:=jj (sIf (qh (j4 .Lt (jQ .Add (jd 9) (jd 11)) (jd 6)) (qh (j4 .Lt (jQ .Add (jd 10) (jd 11)) (jd 8)) k5)) (w231_2 C lv) jv) jv
def w231_4(C:Cx)(lv:Nat):WS:=jj (sIf (qh (j4 .Lt (jd 5) (jd 9)) (qh (j4 .Lt (jd 7) (jd 10)) k5)) (w231_1 C lv) jv) (VI C lv)
def w231_5(C:Cx)(lv:Nat):WS:=jj (kz (kh C .append (jd 4) (jg (jd 12) jq))) (w231_4 C lv)
def w231_6(C:Cx)(lv:Nat):WS:=jj (sIf (wo (jd 11)) (w231_5 C lv) jv) jv
def w231_7(C:Cx)(lv:Nat):WS:=jj (jl (kG C lv 224 (jd 0) (jg (jd 5) (jg (jd 6) (jg (jd 7) (jg (jd 8) jq))))) (vO (jcK 3 (jK (jw 9) (jK (jw 10) (jK (jw 11) qY)))) (jw 12))) (w231_6 C lv)
def jaf(C:Cx)(lv:Nat):WS:=jj (jl (kh C .pop (jd 3) jq) (yQ 4 (jK (jw 5) (jK (jw 6) (jK (jw 7) (jK (jw 8) qY)))))) (w231_7 C lv)
def w231_9(C:Cx)(lv:Nat):WS:=jj (Za 15 (jd 19)) jv
def w231_10(C:Cx)(lv:Nat):WS:=jj (kz (kh C .append (jd 16) (jg (qo (jg (jd 13) (jg (jd 14) (jg (jd 15) jq)))) jq))) jv
def XQ(C:Cx)(lv:Nat):WS:=jj (wu [13,14,15] 3 (qo (jg (jd 17) (jg (jd 18) (jg (jd 19) jq))))) jv
def XO(C:Cx)(lv:Nat):WS:=jj (sIf (wo (jd 15)) (w231_10 C lv) jv) (XQ C lv)
def XN(C:Cx)(lv:Nat):WS:=jj (sIf (qh (j4 .Eq (jQ .Add (jd 13) (jd 15)) (jd 17)) (qh (j4 .Eq (jQ .Add (jd 14) (jd 15)) (jd 18)) k5)) (w231_9 C lv) (XO C lv)) jv
def w231_14(C:Cx)(lv:Nat):WS:=jj (kz (kh C .append (jd 16) (jg (qo (jg (jd 13) (jg (jd 14) (jg (jd 15) jq)))) jq))) jv
def w231_15(C:Cx)(lv:Nat):WS:=jj (vc (qQ 4 (jd 0))) jv
def w231_16(C:Cx)(lv:Nat):WS:=jj (jl (z7 C lv.pred 16 (jm (.ty "list")) (jm (.ty "map")) (jm (.ref 163))) (wk 4 (jd 0))) (w231_15 C lv)
def XM(C:Cx)(lv:Nat):WS:=jj (kz (kh C .append (jd 16) (jg (qo (jg (jd 1) (jg (jd 2) (jg (jm (.int 0)) jq)))) jq))) (w231_16 C lv)
def XJ(C:Cx)(lv:Nat):WS:=jj (sIf (wo (jd 15)) (w231_14 C lv) jv) (XM C lv)
def w231_19(C:Cx)(lv:Nat):WS:=jj (wP (w8 C (jd 4)) (jcK 3 (jK (jw 17) (jK (jw 18) (jK (jw 19) qY)))) (XN C lv)) (XJ C lv)
def w231_20(C:Cx)(lv:Nat):WS:=jj (jl (vV jq) (jw 16)) (w231_19 C lv)
def w231_21(C:Cx)(lv:Nat):WS:=jj (jl (jm (.int 0)) (vO (jw 13) (vO (jw 14) (jw 15)))) (w231_20 C lv)
def w231_22(C:Cx)(lv:Nat):WS:=jj (kz (qSort (jd 4))) (w231_21 C lv)
def w231_23(C:Cx)(lv:Nat):WS:=jj (qG (wo (jd 3)) (jaf C lv)) (w231_22 C lv)
def w231_24(C:Cx)(lv:Nat):WS:=jj (jl (vV jq) (jw 4)) (w231_23 C lv)
def w231_25(C:Cx)(lv:Nat):WS:=jj (jl (vV (jg (qo (jg (jm (.int 0)) (jg (jd 1) (jg (jm (.int 0)) (jg (jd 2) jq))))) jq)) (jw 3)) (w231_24 C lv)
def w231_26(C:Cx)(lv:Nat):WS:=jj (wu [1,2] 2 (qo (jg (jy C lv (jm (.bi .len)) (jg (qQ 1 (jd 0)) jq)) (jg (jy C lv (jm (.bi .len)) (jg (qQ 2 (jd 0)) jq)) jq)))) (w231_25 C lv)
def w231_27(C:Cx)(lv:Nat):WS:=jj (sIf (j4 .IsNot (qQ 4 (jd 0)) (jm .none)) (w231_0 C lv) jv) (w231_26 C lv)
def XI(C:Cx)(lv:Nat):WS:=jj (kU .next) (w231_27 C lv)
theorem der231(C:Cx)(lv:Nat):(rB (sto 12) ⟨C,(lv+1),[Str.ofString "self",Str.ofString "la",Str.ofString "lb",Str.ofString "queue",Str.ofString "matching_blocks",Str.ofString "alo",Str.ofString "ahi",Str.ofString "blo",Str.ofString "bhi",Str.ofString "i",Str.ofString "j",Str.ofString "k",Str.ofString "x",Str.ofString "i1",Str.ofString "j1",Str.ofString "k1",Str.ofString "non_adjacent",Str.ofString "i2",Str.ofString "j2",Str.ofString "k2"],(.replicate 20 .local),k8 [0,8,9,10],231,[]⟩ (jR (jL 6 7))).1=XI C (lv+1):=by kernel_rfl!
noncomputable def nN0:List Str:=["self","matches"]
theorem chk253:jV (jL 6 10) nN0 [.local,.local] [] [2,11,0] 1=true:=by decide+kernel
def w253_0(C:Cx)(lv:Nat):WS:=jj (vc (jy C lv (jm (.ref 173)) (jg (jd 1) (jg (jQ .Add (jy C lv (jm (.bi .len)) (jg (qQ 1 (jd 0)) jq)) (jy C lv (jm (.bi .len)) (jg (qQ 2 (jd 0)) jq))) jq)))) jv
def w253_1(C:Cx)(lv:Nat):WS:=jj (jl (qSumM 411 22 (jm (.bi .sum)) (kG C lv 231 (jd 0) jq)) (jw 1)) (w253_0 C lv)
def jae(C:Cx)(lv:Nat):WS:=jj (kU .next) (w253_1 C lv)
theorem der253(k:FnW ⟨C,A,env,nN0,(lv+1),x1,x2,x3⟩ [.local,.local] (k8 [2,11,0]))(T:zx ⟨C,A,env,nN0,(lv+1),x1,x2,x3⟩)(hcd:env.code=.ref (253-1)):SpB ⟨C,A,env,nN0,(lv+1),x1,x2,x3⟩ (jR (jL 6 10)) (jae C (lv+1)):=by
 refine zH (ja8 k rfl) (zH (vL ?_ (VW (vA rfl) (jbc k 1 rfl rfl)) rfl rfl) (zH (ja7 (O8 (U2 k 1 rfl) (yw (vA rfl) (U1 k 1 rfl rfl) (yw (vA rfl) (q_bin (O8 (U2 k 2 rfl) (yw (vA rfl) (jbg 1 rfl ((rNC _).2 rfl) (U1 k 0 rfl rfl)) zZ)) (O8 (U2 k 2 rfl) (yw (vA rfl) (jbg 2 rfl ((rNC _).2 rfl) (U1 k 0 rfl rfl)) zZ))) zZ)))) jba))
 exact q_sumM T hcd (Nat.succ_pos _) rfl (fun _=>rfl) (U2 k 0 rfl) (Yh 6 rfl ((rNC _).2 rfl) (by decide) rfl (U1 k 0 rfl rfl) zZ)
theorem qp{lt:AV->AV->Bool}:(jT lt b l).Perm l:=by
 cases b
 ·exact zk _ _ _
 ·exact ((List.reverse_perm _).trans (zk _ _ _)).trans (List.reverse_perm _)
theorem U6{α β:Type}{f:α->β}:∀{l:List β} {m:List α},l.Perm (m.map f)->∃m':List α,l=m'.map f∧m'.Perm m:=fun{l m} h=>by
 have:∀x∈l,∃a∈m,f a=x:=fun x hx=>List.mem_map.mp (h.mem_iff.mp hx)
 induction l generalizing m with
 |nil=>exact ⟨[],rfl,by rw[List.map_eq_nil_iff.mp h.symm.eq_nil]⟩
 |cons x l ih=>
  obtain ⟨a,ha,rfl⟩:=this x (.head _)
  obtain ⟨m1,m2,rfl⟩:=List.append_of_mem ha
  have h2:(f a::l).Perm (f a::(m1++m2).map f):=h.trans (List.perm_middle.map f)
  obtain ⟨m',e,p⟩:=ih ((List.perm_cons _).mp h2) (fun x hx=>List.mem_map.mp (((List.perm_cons _).mp h2).mem_iff.mp hx))
  exact ⟨a::m',by rw[e];rfl,(p.cons a).trans List.perm_middle.symm⟩
noncomputable def sz(ts:List Tri):Int:=(ts.map (·.2.2)).sum
theorem OZ:sz (ts++us)=sz ts+sz us:=by delta sz;rw[List.map_append,List.sum_append]
theorem OY:sz [t]=t.2.2:=by delta sz;simp
theorem sz_perm(h:ts.Perm us):sz ts=sz us:=by
 induction h with
 |nil=>rfl
 |cons t _ ih=>
  show t.2.2+sz _=t.2.2+sz _
  rw[ih]
 |swap t u l=>
  show u.2.2+(t.2.2+sz l)=t.2.2+(u.2.2+sz l)
  rw[Int.add_left_comm]
 |trans _ _ h1 h2=>exact h1.trans h2
theorem jax(h:∀t∈ts,1≤t.2.2):(ts.length:Int)≤sz ts:=by
 induction ts with
 |nil=>exact Int.le_refl _
 |cons t ts ih=>
  have h1:=ih fun u hu=>h u (List.mem_cons_of_mem _ hu)
  have h2:=h t (.head _)
  have e:sz (t::ts)=t.2.2+sz ts:=rfl
  rw[e,List.length_cons];lia
theorem sz_nn(h:∀t∈ts,0≤t.2.2):0≤sz ts∧∀t∈ts,t.2.2≤sz ts:=by
 induction ts with
 |nil=>exact ⟨Int.le_refl _,fun t ht=>nomatch ht⟩
 |cons t ts ih=>
  have h1:=ih fun u hu=>h u (List.mem_cons_of_mem _ hu)
  have h2:=h t (.head _)
  have e:sz (t::ts)=t.2.2+sz ts:=rfl
  rw[e]
  refine ⟨Int.add_nonneg h2 h1.1,fun u hu=> ?_⟩
  rcases List.mem_cons.mp hu with rfl|hu
  ·lia
  ·have:=h1.2 u hu;lia
noncomputable abbrev Win:=Nat×Nat×Nat×Nat
noncomputable def qP(w:Win):AV:=.tup [.int (w.1:Int),.int (w.2.1:Int),.int (w.2.2.1:Int),.int (w.2.2.2:Int)]
noncomputable def kwW(A B:List Nat)(w:Win):Nat:=kw A B w.1 w.2.1 w.2.2.1 w.2.2.2
noncomputable def U0(A B:List Nat)(ws:List Win):Nat:=(ws.map (kwW A B)).sum
noncomputable def Oa(ws:List Win):Nat:=(ws.map fun w=>2*(w.2.1-w.1)+1).sum
theorem vg:U0 A B (ws++[w])=U0 A B ws+kwW A B w:=by delta U0;simp
theorem vM:Oa (ws++[w])=Oa ws+(2*(w.2.1-w.1)+1):=by delta Oa;simp
theorem Kf:ws.length≤Oa ws:=by
 induction ws with
 |nil=>exact Nat.le_refl _
 |cons w ws ih=>
  have e:Oa (w::ws)=2*(w.2.1-w.1)+1+Oa ws:=rfl
  rw[e,List.length_cons];lia
def OkW(A B:List Nat)(w:Win):Prop:=w.1≤w.2.1∧w.2.1≤A.length∧w.2.2.1≤w.2.2.2∧w.2.2.2≤B.length
section
variable {C:Cx} {lv:Nat} {loc:Loc} {Z:Sig} {Ψ:K1} {m d q mb:Addr} {f:Nat->Option AV} {A B:Str} {kp:Nat}
def E231(m q mb:Addr)(A B:Str)(ll:Loc):Prop:=ll 0=some (.ref m)∧ll 1=some (.int (A.length:Nat))∧ll 2=some (.int (B.length:Nat))∧ll 3=some (.ref q)∧ll 4=some (.ref mb)
structure Q231(Z:Sig)(q mb:Addr)(A B:Str)(kp n:Nat)(ws:List Win)(ts:List Tri)(o:Sig):Prop where
 hq:o q=some (.list (ws.map qP))
 hm:o mb=some (.list (ts.map ko))
 ok:∀w∈ws,OkW A.cps.toList B.cps.toList w
 sum:sz ts+(U0 A.cps.toList B.cps.toList ws:Nat)=(kp:Int)
 pos:∀t∈ts,1≤t.2.2
 me:Oa ws≤n∧n≤15
 sub:j3 Z o
def jcR(Z:Sig)(m q mb:Addr)(A B:Str)(kp n:Nat)(ll:Loc)(o:Sig):Prop:=∃ws ts,E231 m q mb A B ll∧Q231 Z q mb A B kp n ws ts o
theorem Mt.sub(M:Mt kp Z m d A B)(hs:j3 Z o):Mt kp o m d A B:=by
 obtain ⟨f,hd,hf,hc⟩:=M.ex
 exact ⟨hs _ _ M.im,f,hs _ _ hd,hf,hc.keep (fun a x _ e=>hs a x e) hd⟩
theorem Yj{o:Sig}{ws:List Win}{ts:List Tri}{w:Win}(hqm:q≠mb)(hZ:Z q=none)(hm:o mb=some (.list (ts.map ko)))(ok:∀w∈ws,OkW A.cps.toList B.cps.toList w)(sub:j3 Z o)(hw:OkW A.cps.toList B.cps.toList w):
  upd o q (.list (ws.map qP++[qP w])) q=some (.list ((ws++[w]).map qP))∧upd o q (.list (ws.map qP++[qP w])) mb=some (.list (ts.map ko))∧(∀v∈ws++[w],OkW A.cps.toList B.cps.toList v)∧j3 Z (upd o q (.list (ws.map qP++[qP w]))):=by
 refine ⟨by rw[jc,List.map_append];rfl,by rw[ji (Ne.symm hqm)];exact hm,fun v hv=> ?_,fun a x e=>by rw[ji (fun q=>by rw[q,hZ]at e;cases e)];exact sub a x e⟩
 rcases List.mem_append.mp hv with hv|hv
 ·exact ok v hv
 ·rw[List.mem_singleton.mp hv];exact hw
theorem jbA{a i k b:Nat}(h1:a≤i)(h2:i+k≤b)(hk:0<k):2*(i-a)+1+(2*(b-(i+k))+1)<2*(b-a)+1:=by
 obtain ⟨x,rfl⟩:=Nat.exists_eq_add_of_le h1
 obtain ⟨y,rfl⟩:=Nat.exists_eq_add_of_le h2
 rw[Nat.add_sub_cancel_left,Nat.add_sub_cancel_left,show a+x+k+y-a=x+k+y by rw[Nat.add_assoc,Nat.add_assoc,Nat.add_sub_cancel_left,Nat.add_assoc]]
 lia
theorem O0{a c:Int}{x1 k x3 x2:Nat}(h:a+((x1+(k+x3+x2):Nat):Int)=c):a+k+((x1+x3+x2:Nat):Int)=c:=by lia
theorem jas{o:Sig}{n:Nat}{ws:List Win}{ts:List Tri}{ll:Loc}{Φ:Fl->Loc->Sig->Prop}{i j k ahi bhi:Nat}(hqm:q≠mb)(hZ:Z q=none)(hE:E231 m q mb A B ll)(hq:o q=some (.list (ws.map qP)))(hm:o mb=some (.list (ts.map ko)))(ok:∀w∈ws,OkW A.cps.toList B.cps.toList w)(pos:∀t∈ts,1≤t.2.2)(sub:j3 Z o)(h1:i+k≤ahi)(h2:ahi≤A.cps.toList.length)(h3:j+k≤bhi)(h4:bhi≤B.cps.toList.length)
  (sum:sz ts+(U0 A.cps.toList B.cps.toList (ws++[(i+k,ahi,j+k,bhi)]):Nat)=(kp:Int)) (hl:ws.length≤1000) (me:Oa (ws++[(i+k,ahi,j+k,bhi)])<n) (hn:n≤15)
  (e6:ll 6=some (.int (ahi:Int))) (e8:ll 8=some (.int (bhi:Int))) (e9:ll 9=some (.int (i:Int))) (e10:ll 10=some (.int (j:Int))) (e11:ll 11=some (.int (k:Int))):VI C lv ll o (q9 jv (kq (jcR Z m q mb A B kp) Φ n)):=by
 have no:¬(i+k<ahi∧j+k<bhi)->kq (jcR Z m q mb A B kp) Φ n .next ll o:=fun h=>by
  rw[vg]at sum
  have e:kwW A.cps.toList B.cps.toList (i+k,ahi,j+k,bhi)=0:=Vh h h2 h4
  rw[e,Nat.add_zero]at sum
  rw[vM]at me
  have me:=Nat.lt_of_le_of_lt (Nat.le_add_right _ _) me
  exact vd me ⟨ws,ts,hE,hq,hm,ok,sum,pos,⟨Nat.le_refl _,Nat.le_trans (Nat.le_of_lt me) hn⟩,sub⟩
 have P:=Yj (w:=(i+k,ahi,j+k,bhi)) hqm hZ hm ok sub ⟨h1,h2,h3,h4⟩
 refine jh<|qk<|kB<|jz<|jE<|ja e9<|ja e11<|jP (c:=((i+k:Nat):Int)) rfl<|ja e6<|yC rfl ⟨fun hb=>⟨(fun h=>nomatch h),fun _=>jt<|jb<|jt<|jb<|jt<|no fun h=>of_decide_eq_false hb (Int.ofNat_lt.mpr h.1)⟩,fun hb=>kB<|jz<|jE<|ja e10<|ja e11<|jP (c:=((j+k:Nat):Int)) rfl<|ja e8<|yC rfl ⟨fun hb2=>⟨(fun h=>nomatch h),fun _=>jt<|jb<|jt<|jb<|jt<|no fun h=>of_decide_eq_false hb2 (Int.ofNat_lt.mpr h.2)⟩,fun hb2=>qI ⟨fun _=> ?_,(fun h=>nomatch h)⟩⟩⟩
 refine jh<|jU<|jZ<|ja hE.2.2.2.1 ⟨⟨_,hq⟩,jf<|kA<|jf<|jE<|ja e9<|ja e11<|jP (c:=((i+k:Nat):Int)) rfl<|jf<|ja e6<|jf<|jE<|ja e10<|ja e11<|jP (c:=((j+k:Nat):Int)) rfl<|jf<|ja e8<|jo ⟨Nat.le_of_ble_eq_true rfl,jo ⟨_,hq,by rw[List.length_map];exact hl,jb<|jt<|jb<|jt<|jb<|jt<|vd me ⟨_,ts,hE,P.1,P.2.1,P.2.2.1,sum,pos,⟨Nat.le_refl _,Nat.le_trans (Nat.le_of_lt me) hn⟩,P.2.2.2⟩⟩⟩⟩
theorem vc231w(X:PC C)(M:Mt kp Z m d A B)(hA:A.cps.toList.length<8)(hB:B.cps.toList.length<8)(hqm:q≠mb)(hZ:Z q=none)(hZ2:Z mb=none){o:Sig}{n:Nat}{ws:List Win}{w:Win}{ts:List Tri}{ll:Loc}{Φ:Fl->Loc->Sig->Prop}(hE:E231 m q mb A B ll)(Q:Q231 Z q mb A B kp n (ws++[w]) ts o)(hkp:kp<8):jaf C (lv+3) ll o (kq (jcR Z m q mb A B kp) Φ n):=by
 obtain ⟨alo,ahi,blo,bhi⟩:=w
 have hq:=Q.hq
 rw[List.map_append]at hq
 have hlen:=Kf (ws:=ws++[(alo,ahi,blo,bhi)])
 have hme:=Q.me.1
 have hn:=Q.me.2
 rw[List.length_append]at hlen
 have hw15:ws.length≤1000:=Nat.le_trans (Nat.le_of_add_right_le hlen) (Nat.le_trans hme (Nat.le_trans hn (of_decide_eq_true rfl)))
 obtain ⟨k1,k2,k3,k4⟩:=Q.ok _ (List.mem_append_right _ (.head _))
 have sub':∀{x},j3 Z (upd o q x):=fun a v e=>by rw[ji (fun q=>by rw[q,hZ]at e;cases e)];exact Q.sub a v e
 refine jh<|ju<|jZ<|ja hE.2.2.2.1 ⟨⟨_,hq⟩,jo ⟨_,_,hq,(List.length_map qP).symm▸hw15,_,rfl,rfl,_,_,rfl,_,_,rfl,_,_,rfl,_,_,rfl,jr<|wf<|jb ?_⟩⟩
 refine jh<|ju<|kx<|ja hE.1 ⟨m,d,_,rfl,sub' _ _ M.im,sub' _ _ (M.ex.choose_spec).1,jf<|ja rfl<|jf<|ja rfl<|jf<|ja rfl<|jf<|ja rfl<|jo<|spec224 X ⟨k1,k2,k3,k4,hA,hB⟩ (M.sub sub') ?_⟩
 have hb:=Uz (A:=A.cps.toList) (B:=B.cps.toList) k1 k3
 have hkw:=kw_eq (A:=A.cps.toList) (B:=B.cps.toList) (s:=(flm A.cps.toList B.cps.toList alo ahi blo bhi).1) (p:=(flm A.cps.toList B.cps.toList alo ahi blo bhi).2.1) (q:=(flm A.cps.toList B.cps.toList alo ahi blo bhi).2.2) k1 k3 k2 k4 rfl
 dsimp only at k1 k2 k3 k4
 generalize flm A.cps.toList B.cps.toList alo ahi blo bhi=r at hb hkw⊢
 obtain ⟨k,i,j⟩:=r
 obtain ⟨b1,b2,b3,b4,_⟩:=hb.blk
 have sum:=Q.sum
 rw[vg]at sum
 have hw:kwW A.cps.toList B.cps.toList (alo,ahi,blo,bhi)=kw A.cps.toList B.cps.toList alo ahi blo bhi:=rfl
 rw[vM]at hme
 dsimp only at b1 b2 b3 b4 hkw hme⊢
 rw[hw,hkw]at sum
 have hmq:upd o q (.list (ws.map qP)) mb=some (.list (ts.map ko)):=by rw[ji (Ne.symm hqm)];exact Q.hm
 have okw:∀w∈ws,OkW A.cps.toList B.cps.toList w:=fun w hw=>Q.ok w (List.mem_append_left _ hw)
 refine qy ⟨_,rfl,rfl,_,_,rfl,_,_,rfl,_,_,rfl,jr<|wf<|jr<|jb<|jh<|qk<|qH<|ja rfl ⟨fun hk=> ?_,fun hk=> ?_⟩⟩
 ·have hk0:k≠0:=fun e=>by rw[e]at hk;cases hk
  rw[if_neg hk0]at sum
  have htl:(ts.length:Int)≤sz ts:=jax Q.pos
  have hts:ts.length≤1000:=Nat.le_trans (Int.ofNat_le.mp (Int.le_trans (Int.le_trans htl (Int.le_add_of_nonneg_right (Int.natCast_nonneg _))) (Int.le_of_eq sum))) (Nat.le_trans (Nat.le_of_lt hkp) (of_decide_eq_true rfl))
  have hc:=jbA (k:=k) b1 b2 (Nat.pos_of_ne_zero hk0)
  refine jh<|jU<|jZ<|ja hE.2.2.2.2 ⟨⟨_,hmq⟩,jf<|ja rfl<|jo ⟨_,hmq,by rw[List.length_map];exact hts,jb ?_⟩⟩
  have hq3:upd (upd o q (.list (ws.map qP))) mb (.list (ts.map ko++[.mat [.int (i:Int),.int (j:Int),.int (k:Int)]])) q=some (.list (ws.map qP)):=by rw[ji hqm];exact jc
  have hm3:upd (upd o q (.list (ws.map qP))) mb (.list (ts.map ko++[.mat [.int (i:Int),.int (j:Int),.int (k:Int)]])) mb=some (.list ((ts++[((i:Int),(j:Int),(k:Int))]).map ko)):=by rw[jc,List.map_append];rfl
  have sub3:j3 Z (upd (upd o q (.list (ws.map qP))) mb (.list (ts.map ko++[.mat [.int (i:Int),.int (j:Int),.int (k:Int)]]))):=fun a v e=>by rw[ji (fun q=>by rw[q,hZ2]at e;cases e)];exact sub' a v e
  have pos3:∀t∈ts++[((i:Int),(j:Int),(k:Int))],1≤t.2.2:=fun t ht=>by
   rcases List.mem_append.mp ht with ht|ht
   ·exact Q.pos t ht
   ·rw[List.mem_singleton.mp ht]
    exact Int.ofNat_le.mpr (Nat.pos_of_ne_zero hk0)
  generalize upd (upd o q (.list (ws.map qP))) mb (.list (ts.map ko++[.mat [.int (i:Int),.int (j:Int),.int (k:Int)]]))=o3 at hq3 hm3 sub3⊢
  have szt:sz (ts++[((i:Int),(j:Int),(k:Int))])=sz ts+(k:Int):=by rw[OZ,OY]
  have w2:kwW A.cps.toList B.cps.toList (i+k,ahi,j+k,bhi)=kw A.cps.toList B.cps.toList (i+k) ahi (j+k) bhi:=rfl
  have w1:kwW A.cps.toList B.cps.toList (alo,i,blo,j)=kw A.cps.toList B.cps.toList alo i blo j:=rfl
  have no:¬(alo<i∧blo<j)->∀{Φ:Fl->Loc->Sig->Prop} {ll':Loc},E231 m q mb A B ll'->ll' 6=some (.int (ahi:Int))->ll' 8=some (.int (bhi:Int))->ll' 9=some (.int (i:Int))->ll' 10=some (.int (j:Int))->ll' 11=some (.int (k:Int))->VI C (lv+3) ll' o3 (q9 jv (kq (jcR Z m q mb A B kp) Φ n)):=fun h Φ ll' hE e6 e8 e9 e10 e11=>by
   have z:=Vh (A:=A.cps.toList) (B:=B.cps.toList) h (Nat.le_trans (Nat.le_trans (Nat.le_add_right _ _) b2) k2) (Nat.le_trans (Nat.le_trans (Nat.le_add_right _ _) b4) k4)
   rw[z]at sum
   have hs:sz (ts++[((i:Int),(j:Int),(k:Int))])+(U0 A.cps.toList B.cps.toList (ws++[(i+k,ahi,j+k,bhi)]):Nat)=(kp:Int):=by
    rw[vg,szt,w2];exact O0 (x3:=0) sum
   exact jas hqm hZ hE hq3 hm3 okw pos3 sub3 b2 k2 b4 k4 hs hw15 (by rw[vM];exact Nat.lt_of_lt_of_le (Nat.add_lt_add_left (Nat.lt_of_le_of_lt (Nat.le_add_left _ _) hc) _) hme) hn e6 e8 e9 e10 e11
  refine jh<|qk<|kB<|jz<|ja rfl<|ja rfl<|yC rfl ⟨fun hb1=>⟨(fun h=>nomatch h),fun _=>jt<|jb<|no (fun h=>of_decide_eq_false hb1 (Int.ofNat_lt.mpr h.1)) hE rfl rfl rfl rfl rfl⟩,fun hb1=>kB<|jz<|ja rfl<|ja rfl<|yC rfl ⟨fun hb2=>⟨(fun h=>nomatch h),fun _=>jt<|jb<|no (fun h=>of_decide_eq_false hb2 (Int.ofNat_lt.mpr h.2)) hE rfl rfl rfl rfl rfl⟩,fun hb2=>qI ⟨fun _=> ?_,(fun h=>nomatch h)⟩⟩⟩
  have P:=Yj (w:=(alo,i,blo,j)) hqm hZ hm3 okw sub3 ⟨b1,Nat.le_trans (Nat.le_trans (Nat.le_add_right _ _) b2) k2,b3,Nat.le_trans (Nat.le_trans (Nat.le_add_right _ _) b4) k4⟩
  refine jh<|jU<|jZ<|ja hE.2.2.2.1 ⟨⟨_,hq3⟩,jf<|kA<|jf<|ja rfl<|jf<|ja rfl<|jf<|ja rfl<|jf<|ja rfl<|jo ⟨Nat.le_of_ble_eq_true rfl,jo ⟨_,hq3,by rw[List.length_map];exact hw15,jb<|jt<|jb ?_⟩⟩⟩
  have hs:sz (ts++[((i:Int),(j:Int),(k:Int))])+(U0 A.cps.toList B.cps.toList (ws++[(alo,i,blo,j)]++[(i+k,ahi,j+k,bhi)]):Nat)=(kp:Int):=by
   rw[vg,vg,szt,w2,w1];exact O0 sum
  have hms:Oa (ws++[(alo,i,blo,j)]++[(i+k,ahi,j+k,bhi)])<n:=by
   rw[vM,vM,Nat.add_assoc];exact Nat.lt_of_lt_of_le (Nat.add_lt_add_left hc _) hme
  have hln:=Nat.le_trans (Kf (ws:=ws++[(alo,i,blo,j)]++[(i+k,ahi,j+k,bhi)])) (Nat.le_of_lt hms)
  have hln2:(ws++[(alo,i,blo,j)]).length≤1000:=by
   rw[List.length_append]at hln
   exact Nat.le_trans (Nat.le_of_add_right_le hln) (Nat.le_trans hn (of_decide_eq_true rfl))
  exact jas hqm hZ hE P.1 P.2.1 P.2.2.1 pos3 P.2.2.2 b2 k2 b4 k4 hs hln2 hms hn rfl rfl rfl rfl rfl
 ·have hk0:k=0:=by
   have:((k:Int) !=0)=false:=hk
   simpa using this
  rw[if_pos hk0,Nat.add_zero]at sum
  have hme:=Nat.lt_of_lt_of_le (Nat.lt_add_of_pos_right (Nat.succ_pos _)) hme
  exact jt<|jb<|jt<|vd hme ⟨ws,ts,hE,jc,hmq,okw,sum,Q.pos,⟨Nat.le_refl _,Nat.le_trans (Nat.le_of_lt hme) hn⟩,sub'⟩
theorem kI(s:Str):s.length=s.cps.toList.length:=rfl
def M231(m mb nb:Addr)(A B:Str)(ll:Loc):Prop:=ll 0=some (.ref m)∧ll 1=some (.int (A.length:Nat))∧ll 2=some (.int (B.length:Nat))∧ll 4=some (.ref mb)∧ll 16=some (.ref nb)
structure Xp(Z:Sig)(mb nb:Addr)(ts na:List Tri)(k1:Int)(n:Nat)(o:Sig):Prop where
 hn:o nb=some (.list (na.map vJ))
 sum:sz na+k1=sz (ts.take n)
 len:na.length≤n
 nn:∀t∈na,0≤t.2.2
 kn:0≤k1
 sub:j3 Z o
def YR(Z:Sig)(m mb nb:Addr)(A B:Str)(ts:List Tri)(n:Nat)(ll:Loc)(o:Sig):Prop:=
 ∃na i1 j1 k1,M231 m mb nb A B ll∧ll 13=some (.int i1)∧ll 14=some (.int j1)∧ll 15=some (.int k1)∧Xp Z mb nb ts na k1 n o
theorem Xp.push(h:Xp Z mb nb ts na k1 n o)(hZ:Z nb=none)(hk:0≤k2)(ht:t.2.2=k1)(hs:sz (ts.take n')=sz (ts.take n)+k2)(hn:na.length<n'):Xp Z mb nb ts (na++[t]) k2 n' (upd o nb (.list (na.map vJ++[vJ t])))where
 hn:=by rw[jc,List.map_append];rfl
 sum:=by rw[OZ,OY,hs,←h.sum,ht]
 len:=by rw[List.length_append];exact hn
 nn:=fun u hu=>by
  rcases List.mem_append.mp hu with hu|hu
  ·exact h.nn u hu
  ·rw[List.mem_singleton.mp hu,ht];exact h.kn
 kn:=hk
 sub:=fun a x e=>by rw[ji (fun q=>by rw[q,hZ]at e;cases e)];exact h.sub a x e
theorem sz_take{ts:List Tri}{n:Nat}{t:Tri}(h:ts[n]? =some t):sz (ts.take (n+1))=sz (ts.take n)+t.2.2:=by
 rw[List.take_add_one,h,OZ]
 show _+sz [t]=_
 rw[OY]
theorem vc231m{o:Sig}{nb:Addr}{ts na:List Tri}{i1 j1 k1:Int}{n:Nat}{t:Tri}{ll:Loc}{Φ:Fl->Loc->Sig->Prop}(hZ:Z nb=none)(hl:ts.length≤64)(ht:ts[n]? =some t)(hp:0≤t.2.2)(hM:M231 m mb nb A B ll)(e13:ll 13=some (.int i1))(e14:ll 14=some (.int j1))(e15:ll 15=some (.int k1))(h:Xp Z mb nb ts na k1 n o)(e17:ll 17=some (.int t.1))(e18:ll 18=some (.int t.2.1))(e19:ll 19=some (.int t.2.2)):XN C (lv+3) ll o (kc (YR Z m mb nb A B ts) Φ n):=by
 have hlt:n<ts.length:=(List.getElem?_eq_some_iff.mp ht).1
 have hs:=sz_take ht
 have els:XO C (lv+3) ll o (q9 jv (kc (YR Z m mb nb A B ts) Φ n)):=by
  have hna:na.length≤1000:=Nat.le_trans h.len (by lia)
  have sw:∀{na' o'},Xp Z mb nb ts na' t.2.2 (n+1) o'->XQ C (lv+3) ll o' (q9 jv (kc (YR Z m mb nb A B ts) Φ n)):=fun h'=>
   jh<|wz<|kA<|jf<|ja e17<|jf<|ja e18<|jf<|ja e19<|jo ⟨Nat.le_of_ble_eq_true rfl,_,rfl,rfl,jb<|jt<|jb<|jt<|kM (Φ:=Φ) ⟨_,_,_,_,hM,rfl,rfl,rfl,h'⟩⟩
  refine jh<|qk<|qH<|ja e15 ⟨fun hk=> ?_,fun hk=> ?_⟩
  ·exact jh<|jU<|jZ<|ja hM.2.2.2.2 ⟨⟨_,h.hn⟩,jf<|kA<|jf<|ja e13<|jf<|ja e14<|jf<|ja e15<|jo ⟨Nat.le_of_ble_eq_true rfl,jo ⟨_,h.hn,by rw[List.length_map];exact hna,jb<|jt<|jb<|sw (h.push (t:=(i1,j1,k1)) hZ hp rfl hs (Nat.lt_succ_of_le h.len))⟩⟩⟩
  ·have hk0:k1=0:=by
    have:(k1 !=0)=false:=hk
    simpa using this
   refine jt<|jb<|sw ⟨h.hn,?_,Nat.le_succ_of_le h.len,h.nn,hp,h.sub⟩
   rw[hs,←h.sum,hk0,Int.add_zero]
 refine jh<|qk<|kB<|jz<|jE<|ja e13<|ja e15<|jP rfl<|ja e17<|Vm rfl ⟨fun _=>⟨(fun h=>nomatch h),fun _=>els⟩,fun _=>kB<|jz<|jE<|ja e14<|ja e15<|jP rfl<|ja e18<|Vm rfl ⟨fun _=>⟨(fun h=>nomatch h),fun _=>els⟩,fun _=>qI ⟨fun _=> ?_,(fun h=>nomatch h)⟩⟩⟩
 exact jh<|YA ⟨_,e15,ja e19<|jb<|jt<|jb<|jt<|kM (Φ:=Φ) ⟨na,i1,j1,_,hM,e13,e14,rfl,h.hn,by rw[hs,←h.sum,Int.add_assoc],Nat.le_succ_of_le h.len,h.nn,Int.add_nonneg h.kn hp,h.sub⟩⟩
def Gm(Z:Sig)(m d:Addr)(A B:Str)(kp:Nat)(Ψ:K1):Prop:=∀(mb:Addr) (ts:List Tri) (o:Sig),jN Z o d->Mt kp o m d A B->o mb=some (.list (ts.map ko))->ts.length≤1000->(∀t∈ts,0≤t.2.2∧t.2.2≤1000)->(ts.map (·.2.2)).sum=(kp:Int)->Ψ (.ref mb) o
theorem vc231e(X:PC C)(M:Mt kp Z m d A B)(hkp:kp<8)(hZ:Z nb=none)(hl:ts.length≤64)(hM:M231 m mb nb A B ll)(e13:ll 13=some (.int i1))(e14:ll 14=some (.int j1))(e15:ll 15=some (.int k1))(h:Xp Z mb nb ts na k1 ts.length o)(hts:sz ts=(kp:Int))(G:Gm Z m d A B kp Ψ):XJ C (lv+3) ll o (j9 Ψ):=by
 have sum:=h.sum
 rw[List.take_length,hts]at sum
 have fin:∀{na o'},o' nb=some (.list (na.map vJ))->sz na=(kp:Int)->na.length≤100->(∀t∈na,0≤t.2.2)->j3 Z o'->XM C (lv+3) ll o' (j9 Ψ):=fun{na o'} hn hs hl hnn sub=>by
  obtain ⟨f,hd,hf,hc⟩:=M.ex
  refine jh<|jU<|jZ<|ja hM.2.2.2.2 ⟨⟨_,hn⟩,jf<|kA<|jf<|ja hM.2.1<|jf<|ja hM.2.2.1<|jf<|js<|jo ⟨Nat.le_of_ble_eq_true rfl,jo ⟨_,hn,by rw[List.length_map];exact Nat.le_trans hl (by decide),jb ?_⟩⟩⟩
  have e:na.map vJ++[AV.tup [.int (A.length:Nat),.int (B.length:Nat),.int 0]]=(na++[(((A.length:Nat):Int),((B.length:Nat):Int),(0:Int))]).map vJ:=by rw[List.map_append];rfl
  rw[e]
  have hl3:(na++[(((A.length:Nat):Int),((B.length:Nat):Int),(0:Int))]).length≤1000:=by rw[List.length_append];exact Nat.le_trans (Nat.add_le_add_right hl 1) (by decide)
  have hs3:sz (na++[(((A.length:Nat):Int),((B.length:Nat):Int),(0:Int))])=(kp:Int):=by rw[OZ,OY,hs];exact Int.add_zero _
  have hn3:∀t∈na++[(((A.length:Nat):Int),((B.length:Nat):Int),(0:Int))],0≤t.2.2:=fun t ht=>by
   rcases List.mem_append.mp ht with ht|ht
   ·exact hnn t ht
   ·rw[List.mem_singleton.mp ht];exact Int.le_refl _
  generalize na++[(((A.length:Nat):Int),((B.length:Nat):Int),(0:Int))]=ns at hl3 hs3 hn3⊢
  have sub':∀{x},j3 Z (upd o' nb x):=fun a v e=>by rw[ji (fun q=>by rw[q,hZ]at e;cases e)];exact sub a v e
  have hmd:=M.ne
  refine jh<|ju ⟨rfl,rfl,rfl,nb,ns,hM.2.2.2.2,jc,hl3,fun t _=>spec117 X ⟨rfl,rfl⟩,fun c hc'=> ?_⟩
  have hdc:Z c=none:=by
   cases e:Z c with
   |none=>rfl
   |some v=>rw[sub' _ _ e]at hc';cases hc'
  refine kL hM.1 (je hc' (sub' _ _ M.im)) (je hc' (sub' _ _ hd))<|jb<|jh<|qu<|j7 hM.1 (by rw[ji hmd];exact je hc' (sub' _ _ M.im)) jc rfl ?_
  have hcd:c≠d:=fun q=>by rw[q,sub' _ _ hd]at hc';cases hc'
  have K:jN Z (upd (upd (upd o' nb (.list (ns.map vJ))) c (.list (ns.map ko))) d (.ns (upd f 4 (.ref c)))) d:=fun a x ha e=>by rw[ji ha];exact je hc' (sub' _ _ e)
  have z:=sz_nn hn3
  have b:∀t∈ns,0≤t.2.2∧t.2.2≤1000:=fun t ht=>⟨hn3 t ht,by have:=z.2 t ht;lia⟩
  have hc4:=hc.keep K hd
  exact G c ns _ K ⟨K _ _ hmd M.im,_,jc,⟨hf.j,hf.a,hf.b,hf.au⟩,.inr ⟨c,ns,rfl,by rw[ji hcd];exact jc,hl3,b,hs3⟩,hc4.fb,hc4.bj,hc4.bk⟩ (by rw[ji hcd];exact jc) hl3 b hs3
 have hna:na.length≤64:=Nat.le_trans h.len hl
 refine jh<|qk<|qH<|ja e15 ⟨fun hk=> ?_,fun hk=> ?_⟩
 ·have P:=h.push (t:=(i1,j1,k1)) (k2:=0) (n':=ts.length+1) hZ (Int.le_refl _) rfl (by rw[List.take_of_length_le (Nat.le_succ _),List.take_length,Int.add_zero]) (Nat.lt_succ_of_le h.len)
  have P2:=P.sum
  rw[List.take_of_length_le (Nat.le_succ _),hts,Int.add_zero]at P2
  exact jh<|jU<|jZ<|ja hM.2.2.2.2 ⟨⟨_,h.hn⟩,jf<|kA<|jf<|ja e13<|jf<|ja e14<|jf<|ja e15<|jo ⟨Nat.le_of_ble_eq_true rfl,jo ⟨_,h.hn,by rw[List.length_map];exact Nat.le_trans hna (by decide),jb<|jt<|jb<|fin P.hn P2 (Nat.le_trans P.len (Nat.le_trans (Nat.succ_le_succ hl) (by decide))) P.nn P.sub⟩⟩⟩
 ·have hk0:k1=0:=by
   have:(k1 !=0)=false:=hk
   simpa using this
  rw[hk0,Int.add_zero]at sum
  exact jt<|jb<|fin h.hn sum (Nat.le_trans hna (by decide)) h.nn h.sub
theorem vc231(X:PC C)(M:Mt kp Z m d A B)(hkp:kp=kept A.cps.toList B.cps.toList)(hA:A.cps.toList.length<8)(hB:B.cps.toList.length<8)(e0:loc 0=some (.ref m))(G:Gm Z m d A B kp Ψ):XI C (lv+3) loc Z (j9 Ψ):=by
 obtain ⟨f,hd,hf,hc⟩:=M.ex
 have hk8:kp<8:=by rw[hkp];exact Nat.lt_of_le_of_lt Up hA
 refine jh<|kJ<|jb<|jh<|qk<|jz ?_
 rcases hc.mb with h4|⟨mb,ts,h4,hmb,hl,hb,hs⟩
 ·refine j7 e0 M.im hd h4<|js ⟨_,rfl,(fun h=>nomatch h),fun _=>jt<|jb ?_⟩
  have hA1:A.length≤1000:=Nat.le_trans (Nat.le_of_lt hA) (by decide)
  have hB1:B.length≤1000:=Nat.le_trans (Nat.le_of_lt hB) (by decide)
  refine jh<|wz<|kA<|jf<|qf (s:=A) hA1 (fun _ k=>j7 e0 M.im hd hf.a k)<|jf<|qf (s:=B) hB1 (fun _ k=>j7 e0 M.im hd hf.b k)<|jo ⟨Nat.le_of_ble_eq_true rfl,_,rfl,rfl,jb ?_⟩
  refine jh<|ju<|qS<|jf<|kA<|jf<|js<|jf<|ja rfl<|jf<|js<|jf<|ja rfl<|jo ⟨Nat.le_of_ble_eq_true rfl,jo ⟨Nat.le_of_ble_eq_true rfl,fun q hq=>jr<|jb<|jh<|ju<|qS<|jo ⟨Nat.le_of_ble_eq_true rfl,fun mb hmb=>jr<|jb<|jh ?_⟩⟩⟩
  have hqm:q≠mb:=fun e=>by rw[e,jc]at hmb;cases hmb
  have hZ2:Z mb=none:=by rw[ji (Ne.symm hqm)]at hmb;exact hmb
  have s0:j3 Z (upd (upd Z q (.list [qP (0,A.length,0,B.length)])) mb (.list [])):=fun a v e=>je hmb (je hq e)
  have hkw:kwW A.cps.toList B.cps.toList (0,A.length,0,B.length)=kp:=by
   rw[hkp]
   show kept (sl A.cps.toList 0 A.cps.toList.length) (sl B.cps.toList 0 B.cps.toList.length)=_
   rw[jaZ,jaZ]
  refine vZ (jcR Z m q mb A B kp) (2*A.length+1) ⟨[(0,A.length,0,B.length)],[],⟨e0,rfl,rfl,rfl,rfl⟩,by rw[ji hqm];exact jc,jc,fun w hw=>by rw[List.mem_singleton.mp hw];exact ⟨Nat.zero_le _,Nat.le_refl _,Nat.zero_le _,Nat.le_refl _⟩,?_,fun t ht=>(nomatch ht),⟨Nat.le_of_eq (by delta Oa;simp),by rw[kI];lia⟩,s0⟩ ?_
  ·have e:=vg (A:=A.cps.toList) (B:=B.cps.toList) (ws:=[]) (w:=(0,A.length,0,B.length))
   rw[List.nil_append,hkw]at e
   rw[e]
   show (0:Int)+((0+kp:Nat):Int)=_
   rw[Nat.zero_add,Int.zero_add]
  rintro n ll o ⟨ws,ts,hE,Q⟩
  have hwl:ws.length≤1000:=Nat.le_trans Kf (Nat.le_trans Q.me.1 (Nat.le_trans Q.me.2 (by decide)))
  refine qH<|ja hE.2.2.2.1 ⟨_,Q.hq,by rw[List.length_map];exact hwl,fun hb=> ?_,fun hb=> ?_⟩
  ·have hws:ws=[]:=by
    cases ws with
    |nil=>rfl
    |cons w ws=>cases hb
   subst hws
   have sum:=Q.sum
   have hsz:sz ts=(kp:Int):=by
    have e:(U0 A.cps.toList B.cps.toList []:Nat)=0:=rfl
    rw[e]at sum
    exact (Int.add_zero _).symm.trans sum
   have htl:ts.length<64:=by have:=jax Q.pos;lia
   obtain ⟨ts',e1,e2⟩:=U6 (f:=ko) (qp (lt:=ltA) (b:=false) (l:=ts.map ko))
   have hl':ts'.length≤64:=by rw[e2.length_eq];exact Nat.le_of_lt htl
   have hs':sz ts'=(kp:Int):=by rw[←hsz];exact sz_perm e2
   refine jb<|jh<|jU ⟨_,hE.2.2.2.2,mb,_,rfl,Q.hm,by rw[List.length_map];exact htl,.oM fun x hx=> ?_,jb ?_⟩
   ·obtain ⟨t,_,rfl⟩:=List.mem_map.mp hx
    exact ⟨_,_,_,rfl⟩
   rw[e1]
   have subm:∀{x},j3 Z (upd o mb x):=fun a v e=>by rw[ji (fun q=>by rw[q,hZ2]at e;cases e)];exact Q.sub a v e
   refine jh<|ju<|js<|qy<|jr<|qy<|jr<|jr<|jb<|jh<|ju<|qS<|jo ⟨Nat.le_of_ble_eq_true rfl,fun nb hnb=>jr<|jb<|jh<|Kt<|vo<|ja hE.2.2.2.2 ?_⟩
   have hnm:mb≠nb:=fun e=>by rw[←e,jc]at hnb;cases hnb
   have M':=M.sub (subm (x:=.list (ts'.map ko)))
   have hnn:∀t∈ts',0≤t.2.2:=fun t ht=>Int.le_trans (by decide) (Q.pos t (e2.mem_iff.mp ht))
   have hm1:upd o mb (.list (ts'.map ko)) mb=some (.list (ts'.map ko)):=jc
   have G':Gm (upd o mb (.list (ts'.map ko))) m d A B kp Ψ:=fun mb ts o K=>G mb ts o (fun a x h e=>K a x h (subm a x e))
   clear G hmb
   generalize upd o mb (.list (ts'.map ko))=Z1 at hnb M' hm1 G'⊢
   refine vB (jS (je hnb hm1)) ⟨YR Z1 m mb nb A B ts',⟨[],0,0,0,⟨hE.1,hE.2.1,hE.2.2.1,hE.2.2.2.2,rfl⟩,rfl,rfl,rfl,jc,rfl,Nat.le_refl _,(fun t ht=>nomatch ht),Int.le_refl _,fun a v e=>je hnb e⟩,?_⟩
   rintro n' ll' o' ⟨na,i1,j1,k1,hM,e13,e14,e15,hN⟩ hle
   rw[List.length_map]at hle⊢
   refine ⟨jS (hN.sub _ _ hm1),fun x hx=> ?_,fun he=> ?_⟩
   ·rw[List.getElem?_map]at hx
    obtain ⟨t,ht,rfl⟩:=Option.map_eq_some_iff.mp hx
    exact ⟨_,rfl,rfl,_,_,rfl,_,_,rfl,_,_,rfl,jr<|wf<|vc231m hnb hl' ht (hnn t (List.mem_of_getElem? ht)) hM e13 e14 e15 hN rfl rfl rfl⟩
   ·subst he
    exact jb<|vc231e X M' hk8 hnb hl' hM e13 e14 e15 hN hs' G'
  ·have hws:ws≠[]:=fun e=>by rw[e]at hb;cases hb
   obtain ⟨ws',w,rfl⟩:∃ws' w,ws=ws'++[w]:=⟨ws.dropLast,ws.getLast hws,(List.dropLast_concat_getLast hws).symm⟩
   exact vc231w X M hA hB hqm hq hZ2 hE Q hk8
 ·refine j7 e0 M.im hd h4<|js ⟨_,rfl,fun _=>jh<|qu<|j7 e0 M.im hd h4<|G mb ts Z .refl M hmb hl hb hs,(fun h=>nomatch h)⟩
theorem spec231(X:PC C)(M:Mt kp Z m d A B)(hkp:kp=kept A.cps.toList B.cps.toList)(hA:A.cps.toList.length<8)(hB:B.cps.toList.length<8)(G:Gm Z m d A B kp Ψ):jC C (lv+4) (.ref 231) [.ref m] Z Ψ:=
 jM X (X.fn 21 rfl) chk231 rfl (wd fun _ _=>rfl) fun A env x1 x2 x3 cs z k T hcd hcl hcn hcf R tk=>SpB.use (kj ⟨_,_,_,_,_,k,T⟩ (der231 _ _)) R tk (vc231 X M hkp hA hB rfl G)
theorem vc253(X:PC C)(M:MtK Z m d A B)(hA:A.cps.toList.length<8)(hB:B.cps.toList.length<8)(h248:Z 248=some (.tab 411 22))(e0:loc 0=some (.ref m))(h:∀o,jN Z o d->MtK o m d A B->Ψ (.flt (shr (kept A.cps.toList B.cps.toList) (A.length+B.length))) o):jae C (lv+4) loc Z (j9 Ψ):=by
 have hA1:A.length≤1000:=Nat.le_trans (Nat.le_of_lt hA) (by decide)
 have hB1:B.length≤1000:=Nat.le_trans (Nat.le_of_lt hB) (by decide)
 have h14:A.length+B.length<15:=Nat.lt_of_le_of_lt (Nat.add_le_add (Nat.le_of_lt_succ hA) (Nat.le_of_lt_succ hB)) (by decide)
 have hk:kept A.cps.toList B.cps.toList<15:=Nat.lt_of_le_of_lt Up (Nat.lt_trans hA (by decide))
 obtain ⟨f0,hd0,_⟩:=M.ex
 refine jh<|kJ<|jb<|jh<|ju ⟨rfl,kx<|ja e0 ⟨m,d,_,rfl,M.im,hd0,jo<|spec231 X M rfl hA hB fun mb ts o K M' hmb hl hb hs=>⟨mb,ts,rfl,hmb,hl,hb,K 248 _ (fun q=>by rw[q,hd0]at h248;cases h248) h248,?_⟩⟩⟩
 obtain ⟨f,hd,hf,hc⟩:=M'.ex
 rw[hs]
 exact jr<|jb<|jh<|qu<|ke (jA rfl)<|jf<|ja rfl<|jf<|jE<|qf (s:=A) hA1 (fun _ k=>j7 e0 M'.im hd hf.a k)<|qf (s:=B) hB1 (fun _ k=>j7 e0 M'.im hd hf.b k)<|jP (c:=((A.length+B.length:Nat):Int)) rfl<|jo ⟨jA rfl,O5 X h14 hk (h o K M')⟩
theorem O4(X:PC C)(M:MtK Z m d A B)(hA:A.cps.toList.length<8)(hB:B.cps.toList.length<8)(h248:Z 248=some (.tab 411 22))(h:∀o,jN Z o d->MtK o m d A B->Ψ (.flt (shr (kept A.cps.toList B.cps.toList) (A.length+B.length))) o):jC C (lv+5) (.ref 253) [.ref m] Z Ψ:=
 jM X (X.fn 22 rfl) chk253 rfl (wd fun _ _=>rfl) fun A env x1 x2 x3 cs z k T hcd hcl hcn hcf R tk=>SpB.use (der253 k T hcd) R tk (vc253 X M hA hB h248 rfl h)
end
end
noncomputable def vt(Z:Sig)(D:Addr->Bool):Sig:=fun a=>if D a=true then none else Z a
theorem jG{D:Addr->Bool}:j3 (vt Z D) Z:=fun a o e=>by
 delta vt at e
 split at e
 ·contradiction
 ·exact e
theorem qg{D:Addr->Bool}(h:D a=true):vt (upd Z a x) D=vt Z D:=by
 funext b
 delta vt
 by_cases e:b=a
 ·rw[e,if_pos h,if_pos h]
 ·rw[ji e]
theorem qz{D:Addr->Bool}(h:D a=false):vt Z D a=Z a:=by delta vt;rw[h];rfl
theorem jC.frame(D:Addr->Bool)(hD:∀a,D a=true->Z a≠none)(h:jC C lv f xs (vt Z D) fun v o=>∀o2,vt o2 D=o->(∀a,D a=true->o2 a=Z a)->Ψ v o2):jC C lv f xs Z Ψ:=by
 intro A z fv vs R hh hd hu HR tk hf hv q
 have HR':=HR.forget (jG (D:=D))
 refine h A z fv vs R hh hd hu HR' tk hf hv fun av Z' cv z' p H' s' tk' v'=> ?_
 have hno:∀a,D a=true->vt Z D a=none:=fun a e=>if_pos e
 have hn:∀a,D a=true->Z' a=none:=fun a e=>by
  cases e':Z' a with
  |none=>rfl
  |some x=>
   refine kg (fun y hy=> ?_) (Option.ne_none_iff_exists'.mp (hD a e))
   refine jp (fun ob h1 _=> ?_) ((HR.obj a y hy).live)
   exact absurd h1 (by rw[show z.s.heap.get? a=none from(s'.new a (by delta dom;rw[e'];simp) (hno a e))];simp)
 refine q av (fun a=>if D a=true then Z a else Z' a) cv z' (p _ ?_ fun a e=>if_pos e) ⟨H'.top,fun a o e=> ?_,fun a hd=> ?_,H'.tk⟩ ⟨fun b o hb ho=>s'.kp b o (fun q=>hb (jG.dom b q)) ho,s'.live,fun a hd hs=> ?_,s'.os,s'.toks,s'.gens,s'.T⟩ tk' v'
 ·funext a
  delta vt
  by_cases e:D a=true
  ·rw[if_pos e,hn a e]
  ·rw[if_neg e];exact if_neg e
 ·change (if D a=true then Z a else Z' a)=some o at e
  by_cases e':D a=true
  ·rw[if_pos e']at e
   exact (HR.obj a o e).imm (HR'.imm s'.kp s'.T) fun ob hob=>s'.kp a ob (fun hd=>hd (hno a e')) hob
  ·rw[if_neg e']at e
   exact H'.obj a o e
 ·change (if D a=true then Z a else Z' a)≠none at hd
  by_cases e':D a=true
  ·rw[if_pos e']at hd;exact HR.off a hd
  ·rw[if_neg e']at hd;exact H'.off a hd
 ·change (if D a=true then Z a else Z' a)≠none at hd
  by_cases e':D a=true
  ·rw[if_pos e']at hd;exact absurd hs hd
  ·rw[if_neg e']at hd
   exact s'.new a hd (by delta vt;rw[if_neg e'];exact hs)
section
theorem chk280:jV (jD 8) [Str.ofString "n",Str.ofString "iterable",Str.ofString "key",Str.ofString "it",Str.ofString "sentinel",Str.ofString "result",Str.ofString "size",Str.ofString "elem",Str.ofString "top",Str.ofString "order",Str.ofString "_heapreplace",Str.ofString "_order",Str.ofString "k",Str.ofString "_elem"] [.local,.local,.cell,.local,.local,.local,.local,.local,.local,.local,.local,.local,.local,.local] [2] [0,3,4] 3=true:=by decide+kernel
def w280_0(C:Cx)(lv:Nat):WS:=jj (jl (jy C lv (jm (.bi .len)) (jg (jd 1) jq)) (jw 6)) jv
def w280_1(C:Cx)(lv:Nat):WS:=jj (vc (y6 C (jbi C true (jm (.bi .sorted)) (jd 1) (k9 2)) (jm .none) (jd 0))) jv
def w280_2(C:Cx)(lv:Nat):WS:=jj (sIf (j4 .GtE (jd 0) (jd 6)) (w280_1 C lv) jv) jv
def w280_3(C:Cx)(lv:Nat):WS:=jj (jj (w280_0 C lv) (w280_2 C lv)) vb
def jab(C:Cx)(lv:Nat):WS:=jj (sIf (j4 .Eq (jd 0) (jm (.int 1))) vb jv) (w280_3 C lv)
theorem der280(C:Cx)(lv:Nat):(rB (sto 12) ⟨C,lv,[Str.ofString "n",Str.ofString "iterable",Str.ofString "key",Str.ofString "it",Str.ofString "sentinel",Str.ofString "result",Str.ofString "size",Str.ofString "elem",Str.ofString "top",Str.ofString "order",Str.ofString "_heapreplace",Str.ofString "_order",Str.ofString "k",Str.ofString "_elem"],[.local,.local,.cell,.local,.local,.local,.local,.local,.local,.local,.local,.local,.local,.local],k8 [0,3,4],0,[448,449,450,451,459,475,476,477,479,480,481,482,483,489,490]⟩ (jR (jD 8))).1=jab C lv:=by kernel_rfl!
theorem chk286:jV (jD 10) [Str.ofString "word",Str.ofString "possibilities",Str.ofString "n",Str.ofString "cutoff",Str.ofString "result",Str.ofString "s",Str.ofString "x"] (.replicate 7 .local) [] [12,13] 4=true:=by decide+kernel
def w286_0(C:Cx)(lv:Nat):WS:=jj (kz (kh C .append (jd 4) (jg (qo (jg (kG C lv 253 (jd 5) jq) (jg (jd 6) jq))) jq))) jv
def w286_1(C:Cx)(lv:Nat):WS:=jj (sIf (qh (j4 .GtE (kG C lv 267 (jd 5) jq) (jd 3)) (qh (j4 .GtE (kG C lv 260 (jd 5) jq) (jd 3)) (qh (j4 .GtE (kG C lv 253 (jd 5) jq) (jd 3)) k5))) (w286_0 C lv) jv) jv
def jaa(C:Cx)(lv:Nat):WS:=jj (kz (kG C lv 202 (jd 5) (jg (jd 6) jq))) (w286_1 C lv)
def w286_3(C:Cx)(lv:Nat):WE:=qC [] (w8 C (jd 4)) (yQ 2 (jK (jw 0) (jK (jw 1) qY))) k5 (jd 1)
def w286_4(C:Cx)(lv:Nat):WS:=jj (vc (w286_3 C lv)) jv
def w286_5(C:Cx)(lv:Nat):WS:=jj (jl (jy C lv (jm (.ref 280)) (jg (jd 2) (jg (jd 4) jq))) (jw 4)) (w286_4 C lv)
def w286_6(C:Cx)(lv:Nat):WS:=jj (wP (w8 C (jd 1)) (jw 6) (jaa C lv)) (w286_5 C lv)
def w286_7(C:Cx)(lv:Nat):WS:=jj (kz (kG C lv 209 (jd 5) (jg (jd 0) jq))) (w286_6 C lv)
def w286_8(C:Cx)(lv:Nat):WS:=jj (jl (jy C lv (jm (.ref 270)) jq) (jw 5)) (w286_7 C lv)
def w286_9(C:Cx)(lv:Nat):WS:=jj (jl (vV jq) (jw 4)) (w286_8 C lv)
def w286_10(C:Cx)(lv:Nat):WS:=jj (sIf (VL (jav .LtE .LtE (jm (.flt 0x0000000000000000)) (jd 3) (jm (.flt 0x3ff0000000000000)))) vb jv) (w286_9 C lv)
def w286_11(C:Cx)(lv:Nat):WS:=jj (sIf (VL (j4 .Gt (jd 2) (jm (.int 0)))) vb jv) (w286_10 C lv)
def XF(C:Cx)(lv:Nat):WS:=jj (kU .next) (w286_11 C lv)
theorem der286(C:Cx)(lv:Nat):(rB (sto 12) ⟨C,lv,[Str.ofString "word",Str.ofString "possibilities",Str.ofString "n",Str.ofString "cutoff",Str.ofString "result",Str.ofString "s",Str.ofString "x"],(.replicate 7 .local),k8 [12,13],0,[521,523]⟩ (jR (jD 10))).1=XF C lv:=by kernel_rfl!
theorem binds4d{C:Cx}{st:Stmt}{N:List Str}{T:Addr}{a b c d:AV}{k:Str->Value->Value->Value->Value->Option (Array Value)->Sem (List (Str×Value))}(o:Obj)(items:Array Value)(n:Nat)(ho:C.K.lookup T=some o)(hs:o.data=.seq items n)(h₁:∀q u v w x,yM (k6 st) (.ref T) q ⟨[u,v,w,x],[]⟩=seqItems? (.ref T)>>=k q u v w x)(hw2:∀q u v w x,k q u v w x (some items)=pure ((N.take 4).zip [u,v,w,x])):yT C st (.ref T) N 4 [a,b,c,d] [a,b,c,d]:=fun z fd e1 e2 e3 hK hT vs hv=>by
 have hv':=hv
 obtain ⟨u,_,rfl,_,hr⟩:=hv'
 obtain ⟨v,w,x,rfl,_⟩:=hr.three
 exact ⟨_,hv,BindsTo.of_defaults e2 (hK _ _ ho) hs (k:=k fd.qualname u v w x) (by rw[qX fd _ e3,e1,e2];exact h₁ _ _ _ _ _) (hw2 _ _ _ _ _)⟩
theorem vq{α:Type}{l:List α}{n:Nat}:cut l none (some (n:Int))=l.take n:=by
 have h:¬((n:Int)<0):=Int.not_lt.mpr (Int.natCast_nonneg n)
 delta cut kms_lo kms_hi
 simp only[if_neg h,Int.toNat_natCast,List.drop_zero,Nat.sub_zero]
 by_cases q:n≤l.length
 ·rw[Nat.min_eq_left q]
 ·have q:=Nat.le_of_not_le q
  rw[Nat.min_eq_right q,List.take_length,List.take_of_length_le q]
theorem yJ{α:Type}{l:List α}{n:Nat}:cut l (some (n:Int)) none=l.drop n:=by
 have h:¬((n:Int)<0):=Int.not_lt.mpr (Int.natCast_nonneg n)
 delta cut kms_lo kms_hi
 simp only[if_neg h,Int.toNat_natCast]
 by_cases q:n≤l.length
 ·rw[Nat.min_eq_left q,List.take_of_length_le (Nat.le_of_eq (List.length_drop ..))]
 ·have q:=Nat.le_of_not_le q
  rw[Nat.min_eq_right q,Nat.sub_self,List.take_zero,List.drop_of_length_le q]
theorem bindsD2{C:Cx}{st:Stmt}{N:List Str}{a b:AV}{T:Addr}{np:Nat}{ys:List AV}{k:Str->Value->Value->Option (Array Value)->Sem (List (Str×Value))}(o:Obj)(items:Array Value)(n:Nat)(ho:C.K.lookup T=some o)(hs:o.data=.seq items n)(hv:∀g:Gh,VRs g ys items.toList)(h₁:∀q u v,yM (k6 st) (.ref T) q ⟨[u,v],[]⟩=seqItems? (.ref T)>>=k q u v)(hw2:∀q u v,k q u v (some items)=pure ((N.take np).zip (u::v::items.toList))):yT C st (.ref T) N np [a,b] (a::b::ys):=fun z fd e1 e2 e3 hK hT vs v=>by
 obtain ⟨u,w,rfl,hu,hw⟩:=v.two
 refine ⟨u::w::items.toList,⟨u,_,rfl,hu,w,_,rfl,hw,hv _⟩,BindsTo.of_defaults e2 (hK _ _ ho) hs (k:=k fd.qualname u w) ?_ (hw2 _ _ _)⟩
 rw[qX fd _ e3,e1,e2];exact h₁ _ _ _
section
variable {C:Cx} {lv:Nat} {loc:Loc} {Z:Sig} {Ψ:K1}
theorem vc280{n:Nat}{a c:Addr}{l:List AV}(hn:n≠1)(hn2:n≤1000)(hl:l.length≤n)(hl2:l.length<64)(hs:vu l)(ha:vQ C Z a l)(hc:Z c=some (.cell (some .none)))(e0:loc 0=some (.int (n:Int)))(e1:loc 1=some (.ref a))(e2:loc 2=some (.ref c))(h:∀b r,Z b=none->Z r=none->r≠b->Ψ (.ref r) (upd (upd Z b (.list (jT ltA true l))) r (.list (jT ltA true l)))):jab C lv loc Z (j9 Ψ):=by
 have hl3:l.length≤1000:=Nat.le_trans hl hn2
 refine jh<|qk<|jz<|ja e0<|js<|Vm (e:=false) ?_ ⟨(fun h=>nomatch h),fun _=>jt<|jb<|jh<|jh<|jh<|ju<|Kr e1 ha hl3<|jr<|jb<|jt<|jb<|jh<|qk<|jz<|ja e0<|ja rfl<|jbW (decide_eq_true (Int.ofNat_le.mpr hl)).symm ⟨fun _=> ?_,(fun h=>nomatch h)⟩⟩
 ·symm
  rw[beq_eq_false_iff_ne]
  exact fun e=>hn (Int.ofNat_inj.mp e)
 ·have hls:(jT ltA true l).length=l.length:=qp.length_eq
  refine jh<|qu<|i_slc ⟨rfl,ja e1<|k7 e2 hc ⟨rfl,a,l,rfl,ha,hl2,hs,fun b hb=>js<|ja e0 ⟨_,jS jc,by rw[hls];exact hl3,fun r hr=> ?_⟩⟩⟩
  rw[vq,List.take_of_length_le (by rw[hls];exact hl)]
  have hrb:r≠b:=fun e=>by rw[e,jc]at hr;cases hr
  exact h b r hb (by rw[ji hrb]at hr;exact hr) hrb
theorem spec280(X:PC C){n:Nat}{a:Addr}{l:List AV}(hn:n≠1)(hn2:n≤1000)(hl:l.length≤n)(hl2:l.length<64)(hs:vu l)(ha:Z a=some (.list l))(h:∀r,Z r=none->Ψ (.ref r) (upd Z r (.list (jT ltA true l)))):jC C (lv+1) (.ref 280) [.int (n:Int),.ref a] Z Ψ:=by
 obtain ⟨ob,k,q1,q2⟩:=X.d275
 refine jC.mono (Ψ':=fun v o=>∃r,v=.ref r∧Z r=none∧j3 (upd Z r (.list (jT ltA true l))) o) ?_ fun v o q__=>jX (fun r e hr hs=>⟨_,hs,e▸h r hr⟩) q__
 refine jM X (X.fn 1 rfl) chk280 rfl (bindsD2 (ys:=[.none]) ob _ k q1 q2 (fun g=>⟨_,_,rfl,rfl,rfl⟩) (fun _ _ _=>rfl) (fun _ _ _=>rfl)) fun A env x1 x2 x3 cs z k T hcd hcl hcn hcf R tk=>SpB.use (kj ⟨_,_,_,_,_,k,T⟩ (der280 _ _)) R tk ?_
 obtain ⟨c,rfl⟩:∃c,cs=[c]:=List.length_eq_one_iff.mp hcl
 have hcn:Z c=none:=hcf c (.head _)
 refine vc280 hn hn2 hl hl2 hs (jS (je hcn ha)) jc rfl rfl rfl fun b r hb hr hrb=>⟨r,rfl,?_,fun x v e=> ?_⟩
 ·change upd Z c (.cell (some .none)) r=none at hr
  by_cases e:r=c
  ·rw[e,jc]at hr;cases hr
  ·rw[ji e]at hr;exact hr
 ·by_cases e':x=r
  ·rw[e',jc]at e⊢;exact e
  ·rw[ji e']at e⊢
   exact je hb (je hcn e)
noncomputable def fGe(a b:UInt64):Bool:=Float64.cmp a b==some Ordering.gt||Float64.cmp a b==some Ordering.eq
noncomputable def fLe(a b:UInt64):Bool:=Float64.cmp a b==some Ordering.lt||Float64.cmp a b==some Ordering.eq
theorem jbV{Ξ:Bool->Sig->Prop}(h:Ξ (fGe a b) Z):vG .GtE (.flt a) (.flt b) Z fun c Zw3=>∃b,c=.bool b∧Ξ b Zw3:=⟨_,rfl,h⟩
noncomputable def sh0(g w:Str):UInt64:=shr (min w.length g.length) (w.length+g.length)
noncomputable def sh1(g w:Str):UInt64:=shr (mQ g.cps.toList w.cps.toList w.length) (w.length+g.length)
noncomputable def sh2(g w:Str):UInt64:=shr (kept w.cps.toList g.cps.toList) (w.length+g.length)
noncomputable def Od(g:Str)(cut:UInt64)(w:Str):Bool:=fGe (sh0 g w) cut&&(fGe (sh1 g w) cut&&fGe (sh2 g w) cut)
noncomputable def clo(g:Str)(cut:UInt64)(ws:List Str):List AV:=(ws.filter (Od g cut)).map fun w=>.tup [.flt (sh2 g w),.str w]
theorem Vz{g:Str}{cut:UInt64}{ws:List Str}{w:Str}:clo g cut (ws++[w])=clo g cut ws++if Od g cut w=true then [.tup [.flt (sh2 g w),.str w]]else []:=by
 delta clo
 rw[List.filter_append,List.map_append]
 by_cases h:Od g cut w=true
 ·rw[if_pos h,List.filter_cons_of_pos h];rfl
 ·rw[if_neg h,List.filter_cons_of_neg h];rfl
theorem YK{g:Str}{cut:UInt64}{ws:List Str}:(clo g cut ws).length≤ws.length:=by
 delta clo
 rw[List.length_map];exact List.length_filter_le _ _
noncomputable def D1(a:Addr):Addr->Bool:=fun b=>b==a
theorem VE:D1 a a=true:=beq_self_eq_true _
theorem zy(h:b≠a):D1 a b=false:=beq_eq_false_iff_ne.mpr h
theorem D1_eq(h:D1 a b=true):b=a:=eq_of_beq h
structure yR(Z:Sig)(res m d:Addr)(A g:Str)(L:List AV)(o:Sig):Prop where
 hr:o res=some (.list L)
 M:MtK (vt o (D1 res)) m d A g
 sub:j3 Z o
 hd:Z d=none
theorem yR.step(h:yR Z res m d A g L o)(hZ:Z res=none)(K:jN (vt o (D1 res)) o' d)(M':MtK o' m d A' g)(e1:vt o2 (D1 res)=o')(e2:∀a,D1 res a=true->o2 a=o a):yR Z res m d A' g L o2 where
 hr:=by rw[e2 _ VE];exact h.hr
 M:=by rw[e1];exact M'
 sub:=fun a x e=>by
  have ha:a≠res:=fun q=>by rw[q,hZ]at e;cases e
  have hd:a≠d:=fun q=>by rw[q,h.hd]at e;cases e
  have:=K a x hd (by rw[qz (zy ha)];exact h.sub a x e)
  rw[←e1,qz (zy ha)]at this;exact this
 hd:=h.hd
theorem yR.dm(h:yR Z res m d A g L o):∀a,D1 res a=true->o a≠none:=fun a e=>by rw[D1_eq e,h.hr];simp
theorem yR.put(h:yR Z res m d A g L o)(hZ:Z res=none):yR Z res m d A g L' (upd o res (.list L'))where
 hr:=jc
 M:=by rw[qg VE];exact h.M
 sub:=fun a x e=>by rw[ji (fun q=>by rw[q,hZ]at e;cases e)];exact h.sub a x e
 hd:=h.hd
def E286(g:Str)(wl:Addr)(n:Nat)(cut:UInt64)(res m:Addr)(ll:Loc):Prop:=ll 0=some (.str g)∧ll 1=some (.ref wl)∧ll 2=some (.int (n:Int))∧ll 3=some (.flt cut)∧ll 4=some (.ref res)∧ll 5=some (.ref m)
def J286(Z:Sig)(g:Str)(wl:Addr)(n:Nat)(cut:UInt64)(res m d:Addr)(ws:List Str)(i:Nat)(ll:Loc)(o:Sig):Prop:=E286 g wl n cut res m ll∧∃A,yR Z res m d A g (clo g cut (ws.take i)) o
theorem vc286i(X:PC C){g w:Str}{wl res m d:Addr}{n i:Nat}{cut:UInt64}{ws:List Str}{ll:Loc}{A:Str}{o:Sig}{Φ:Fl->Loc->Sig->Prop}(hg:g.length<8)(hw:w.length<8)(h248:Z 248=some (.tab 411 22))(hZ:Z res=none)(hi:ws[i]? =some w)(hws:ws.length≤1000)(hE:E286 g wl n cut res m ll)(e6:ll 6=some (.str w))(G:yR Z res m d A g (clo g cut (ws.take i)) o):jaa C (lv+5) ll o (kc (J286 Z g wl n cut res m d ws) Φ i):=by
 obtain ⟨E0,E1,E2,E3,E4,E5⟩:=hE
 have snoc:ws.take (i+1)=ws.take i++[w]:=by rw[List.take_add_one,hi];rfl
 have hlen:(clo g cut (ws.take i)).length≤1000:=Nat.le_trans YK (Nat.le_trans (List.length_take_le _ _) (by have:=(List.getElem?_eq_some_iff.mp hi).1;lia))
 have r248:∀{A L o},yR Z res m d A g L o->vt o (D1 res) 248=some (.tab 411 22):=fun G=>by
  rw[qz (zy fun q=>by rw[←q,h248]at hZ;cases hZ)];exact G.sub _ _ h248
 have no:∀{o A},yR Z res m d A g (clo g cut (ws.take i)) o->Od g cut w=false->kc (J286 Z g wl n cut res m d ws) Φ i .next ll o:=fun{o A} G h=>kM (Φ:=Φ) ⟨⟨E0,E1,E2,E3,E4,E5⟩,A,by rw[snoc,Vz,h,if_neg (by decide),List.append_nil];exact G⟩
 obtain ⟨f,hd,_⟩:=G.M.ex
 refine jh<|jU<|kx<|ja E5 ⟨m,d,f,rfl,jG _ _ G.M.im,jG _ _ hd,jf<|ja e6<|jo<|jC.frame _ G.dm<|jby X G.M fun o1 K1 M1 o2 q1 q2=> ?_⟩
 have G1:=G.step hZ K1 M1 q1 q2
 clear G K1 M1 q1 q2 hd
 obtain ⟨f,hd,hf,_⟩:=G1.M.ex
 refine jb<|jh<|qk<|kB<|jz<|kx<|ja E5 ⟨m,d,f,rfl,jG _ _ G1.M.im,jG _ _ hd,jo<|X8 X (jG _ _ G1.M.im) (jG _ _ hd) hf hw hg<|ja E3<|jbV ⟨fun hb=>⟨(fun h=>nomatch h),fun _=>jt<|jb<|jt<|no G1 (by delta Od sh0;rw[hb];rfl)⟩,fun hb0=>kB<|jz<|kx<|ja E5 ⟨m,d,f,rfl,jG _ _ G1.M.im,jG _ _ hd,jo<|jC.frame _ G1.dm<|X9 X G1.M hw hg fun o3 K3 M3 o4 q3 q4=> ?_⟩⟩⟩
 have G2:=G1.step hZ K3 M3 q3 q4
 clear G1 K3 M3 q3 q4 hd hf
 refine ja E3<|jbV ⟨fun hb=>⟨(fun h=>nomatch h),fun _=>jt<|jb<|jt<|no G2 (by delta Od sh1;rw[hb,Bool.false_and,Bool.and_false])⟩,fun hb1=>kB<|jz<| ?_⟩
 obtain ⟨f,hd,_⟩:=G2.M.ex
 refine kx<|ja E5 ⟨m,d,f,rfl,jG _ _ G2.M.im,jG _ _ hd,jo<|jC.frame _ G2.dm<|O4 X G2.M hw hg (r248 G2) fun o5 K5 M5 o6 q5 q6=> ?_⟩
 have G3:=G2.step hZ K5 M5 q5 q6
 clear G2 K5 M5 q5 q6 hd
 refine ja E3<|jbV ⟨fun hb=>⟨(fun h=>nomatch h),fun _=>jt<|jb<|jt<|no G3 (by delta Od sh2;rw[hb,Bool.and_false,Bool.and_false])⟩,fun hb2=>qI ⟨fun _=> ?_,(fun h=>nomatch h)⟩⟩
 have hcl:Od g cut w=true:=by delta Od sh0 sh1 sh2;rw[hb0,hb1,hb2];rfl
 obtain ⟨f,hd,_⟩:=G3.M.ex
 refine jh<|jU<|jZ<|ja E4 ⟨⟨_,G3.hr⟩,jf<|kA<|jf<|kx<|ja E5 ⟨m,d,f,rfl,jG _ _ G3.M.im,jG _ _ hd,jo<|jC.frame _ G3.dm<|O4 X G3.M hw hg (r248 G3) fun o7 K7 M7 o8 q7 q8=> ?_⟩⟩
 have G4:=G3.step hZ K7 M7 q7 q8
 refine jf<|ja e6<|jo ⟨Nat.le_of_ble_eq_true rfl,jo ⟨_,G4.hr,hlen,jb<|jt<|jb<|jt<|kM (Φ:=Φ) ⟨⟨E0,E1,E2,E3,E4,E5⟩,w,?_⟩⟩⟩
 rw[snoc,Vz,if_pos hcl]
 exact G4.put hZ
noncomputable def jaX:AV->AV
 | .tup [_,y]=>y
 |_=>.none
theorem vc286(X:PC C){g:Str}{wl:Addr}{n:Nat}{cut:UInt64}{ws:List Str}(hg:g.length<8)(hga:g.cps.all (·<128)=true)(hw:∀w∈ws,w.length<8)(h248:Z 248=some (.tab 411 22))(hwl:Z wl=some (.list (ws.map .str)))(hn0:n≠0)(hn1:n≠1)(hn:n≤1000)(hws:ws.length≤n)(hws2:ws.length<64)(hc0:fLe 0x0000000000000000 cut=true)(hc1:fLe cut 0x3ff0000000000000=true)(hfe:∀w∈ws,fEq (sh2 g w) (sh2 g w)=true)(e0:loc 0=some (.str g))(e1:loc 1=some (.ref wl))(e2:loc 2=some (.int (n:Int)))(e3:loc 3=some (.flt cut))
  (h:∀r o,Z r=none->j3 Z o->o r=some (.list ((jT ltA true (clo g cut ws)).map jaX))->Ψ (.ref r) o):XF C (lv+5) loc Z (j9 Ψ):=by
 have hpos:decide ((0:Int)<(n:Int))=true:=decide_eq_true (Int.ofNat_lt.mpr (Nat.pos_of_ne_zero hn0))
 refine jh<|kJ<|jb<|jh<|qk<|Vk<|jz<|ja e2<|js<|Ks hpos.symm ⟨(fun h=>nomatch h),fun _=>jt<|jb<|jh<|qk<|Vk ?_⟩
 refine js<|ja e3 ⟨_,rfl,fun hb=>absurd (hc0.symm.trans hb) (by decide),fun _=>js ⟨_,rfl,fun hb=> ?_,fun _=>jt<|jb ?_⟩⟩
 ·have hc1':(Float64.cmp cut 0x3ff0000000000000==some Ordering.lt||Float64.cmp cut 0x3ff0000000000000==some Ordering.eq)=true:=hc1
  rw[hc1']at hb;cases hb
 refine jh<|ju<|qS<|jo ⟨Nat.le_of_ble_eq_true rfl,fun res hres=>jr<|jb<|jh<|ju<|ke (jA rfl)<|jo ⟨jA rfl,jC.frame (D1 res) (fun a e=>by rw[D1_eq e,jc];simp) ?_⟩⟩
 rw[qg VE]
 refine X6 X fun m d o hm hd hs M o2 q1 q2=>jr<|jb ?_
 have hdZ:Z d=none:=by
  cases e:Z d with
  |none=>rfl
  |some x=>
   have:vt Z (D1 res) d=Z d:=qz (zy fun q=>by rw[q,hres]at e;cases e)
   rw[this,e]at hd;cases hd
 have G:yR Z res m d nul nul [] o2:=⟨by rw[q2 _ VE];exact jc,by rw[q1];exact M,fun a x e=>by
  have ha:a≠res:=fun q=>by rw[q,hres]at e;cases e
  have:=hs a x (by rw[qz (zy ha)];exact e)
  rw[←q1,qz (zy ha)]at this;exact this,hdZ⟩
 clear hm hd hs M q1 q2
 obtain ⟨f,hd,_⟩:=G.M.ex
 refine jh<|jU<|kx<|ja rfl ⟨m,d,f,rfl,jG _ _ G.M.im,jG _ _ hd,jf<|ja e0<|jo<|jC.frame _ G.dm<|mt209 X G.M hg hga fun o1 K1 M1 o2 q1 q2=> ?_⟩
 have G1:yR Z res m d nul g [] o2:=⟨by rw[q2 _ VE];exact G.hr,by rw[q1];exact M1,fun a x e=>by
  have ha:a≠res:=fun q=>by rw[q,hres]at e;cases e
  have:=K1 a x (fun q=>by rw[q,hdZ]at e;cases e) (by rw[qz (zy ha)];exact G.sub a x e)
  rw[←q1,qz (zy ha)]at this;exact this,hdZ⟩
 have hws3:ws.length≤1000:=Nat.le_trans hws hn
 refine jb<|jh<|Kt<|vo<|ja e1<|vB (jS (G1.sub _ _ hwl)) ⟨J286 Z g wl n cut res m d ws,⟨⟨e0,e1,e2,e3,rfl,rfl⟩,nul,by rw[List.take_zero];exact G1⟩,?_⟩
 rintro i ll o ⟨hE,A,G⟩ hi
 rw[List.length_map]at hi⊢
 refine ⟨jS (G.sub _ _ hwl),fun x hx=> ?_,fun he=> ?_⟩
 ·rw[List.getElem?_map]at hx
  obtain ⟨w,hw',rfl⟩:=Option.map_eq_some_iff.mp hx
  exact jr<|vc286i X hg (hw w (List.mem_of_getElem? hw')) h248 hres hw' hws3 hE rfl G
 ·subst he
  rw[List.take_length]at G
  have hcl:=YK (g:=g) (cut:=cut) (ws:=ws)
  refine jb<|jh<|ju<|ke (jA rfl)<|jf<|ja hE.2.2.1<|jf<|ja hE.2.2.2.2.1<|jo ⟨jA rfl,spec280 X hn1 hn (Nat.le_trans hcl hws) (Nat.lt_of_le_of_lt hcl hws2) (.oF 1 (fun x hx=> ?_) fun x hx y hy=> ?_) G.hr fun r hr=>jr<|jb ?_⟩
  ·obtain ⟨w,_,rfl⟩:=List.mem_map.mp hx
   exact ⟨_,_,rfl,rfl⟩
  ·obtain ⟨w,hw1,rfl⟩:=List.mem_map.mp hx
   obtain ⟨u,hu1,rfl⟩:=List.mem_map.mp hy
   have key:fOk (sh2 g w) (sh2 g u)=true:=by
    delta fOk
    by_cases e:sh2 g w=sh2 g u
    ·rw[←e,hfe w (List.mem_filter.mp hw1).1,Bool.or_true]
    ·rw[bne_iff_ne.mpr e];rfl
   show (fOk (sh2 g w) (sh2 g u)&&(true&&true))=true
   rw[key];rfl
  ·have hls:(jT ltA true (clo g cut ws)).length≤1000:=by rw[qp.length_eq];exact Nat.le_trans hcl hws3
   have hshape:∀x∈jT ltA true (clo g cut ws),∃a b,x=.tup [a,b]:=fun x hx=>by
    obtain ⟨w,_,rfl⟩:=List.mem_map.mp (qp.mem_iff.mp hx)
    exact ⟨_,_,rfl⟩
   generalize jT ltA true (clo g cut ws)=L at h hls hshape⊢
   refine jh<|qu ⟨(fun p hp=>nomatch hp),vo<|ja rfl<|vB (jS jc) ⟨hls,fun i ys o'=>ys=(L.take i).map jaX∧o'=upd o r (.list L),⟨rfl,rfl⟩,?_,?_⟩⟩
   ·rintro i ys _ ⟨rfl,rfl⟩ hi
    refine ⟨jS jc,by rw[List.length_map];exact List.length_take_le _ _,fun x hx=> ?_⟩
    obtain ⟨a,b,rfl⟩:=hshape x (List.mem_of_getElem? hx)
    refine ⟨_,rfl,rfl,_,_,rfl,_,_,rfl,jr<|wf ⟨(fun i v e=>nomatch e),qI ⟨fun _=>ja rfl ⟨_,⟨?_,rfl⟩,.refl _⟩,(fun h=>nomatch h)⟩⟩⟩
    rw[List.take_add_one,hx,List.map_append];rfl
   ·rintro ys _ ⟨rfl,rfl⟩ a ha
    rw[List.take_length]
    refine h a _ ?_ (fun b x e=>je ha (je hr (G.sub _ _ e))) jc
    cases e:Z a with
    |none=>rfl
    |some x=>rw[je hr (G.sub _ _ e)]at ha;cases ha
theorem spec286(X:PC C){g:Str}{wl:Addr}{n:Nat}{cut:UInt64}{ws:List Str}(hg:g.length<8)(hga:g.cps.all (·<128)=true)(hw:∀w∈ws,w.length<8)(h248:Z 248=some (.tab 411 22))(hwl:Z wl=some (.list (ws.map .str)))(hn0:n≠0)(hn1:n≠1)(hn:n≤1000)(hws:ws.length≤n)(hws2:ws.length<64)(hc0:fLe 0x0000000000000000 cut=true)(hc1:fLe cut 0x3ff0000000000000=true)(hfe:∀w∈ws,fEq (sh2 g w) (sh2 g w)=true)
  (h:∀r,Z r=none->Ψ (.ref r) (upd Z r (.list ((jT ltA true (clo g cut ws)).map jaX)))):jC C (lv+6) (.ref 286) [.str g,.ref wl,.int (n:Int),.flt cut] Z Ψ:=by
 obtain ⟨ob,k,t,u,b,q1,q2⟩:=X.d281
 refine jC.mono (Ψ':=fun v o=>∃r,v=.ref r∧Z r=none∧j3 (upd Z r (.list ((jT ltA true (clo g cut ws)).map jaX))) o) ?_ fun v o q__=>jX (fun r e hr hs=>⟨_,hs,e▸h r hr⟩) q__
 exact jM X (X.fn 2 rfl) chk286 rfl (binds4d ob _ k q1 q2 (fun _ _ _ _ _=>rfl) (fun _ _ _ _ _=>rfl)) fun A env x1 x2 x3 cs z k T hcd hcl hcn hcf R tk=>SpB.use (kj ⟨_,_,_,_,_,k,T⟩ (der286 _ _)) R tk (vc286 X hg hga hw h248 hwl hn0 hn1 hn hws hws2 hc0 hc1 hfe rfl rfl rfl rfl fun r o hr hs ho=>⟨r,rfl,hr,fun a x e=>by
  by_cases q:a=r
  ·rw[q,jc]at e;rw[q,ho,←e]
  ·rw[ji q]at e;exact hs a x e⟩)
end
end
section
theorem chk326:jV (jD 20) [Str.ofString "x"] [.cell] [0] [4] 1=true:=by decide+kernel
def w326_0(C:Cx)(lv:Nat):WE:=qC [(1,0)] (qJ (jm (.ty "range")) (jg (jm (.int 7)) jq)) (jw 0) k5 (kl (vV (jg (jm (.str (Str.ofString ""))) (jg (jm (.str (Str.ofString "a"))) (jg (jm (.str (Str.ofString "b"))) (jg (jm (.str (Str.ofString "c"))) jq))))) (jQ .Mod (jQ .FloorDiv (k9 1) (jQ .Pow (jm (.int 4)) (jd 0))) (jm (.int 4))))
def Z4(C:Cx)(lv:Nat):WS:=jj (vc (kh C .join (jm (.str (Str.ofString ""))) (jg (w326_0 C lv) jq))) jv
theorem der326(C:Cx)(lv:Nat):(rB (sto 12) ⟨C,lv,[Str.ofString "x"],[.cell],k8 [4],0,[]⟩ (jR (jD 20))).1=Z4 C lv:=by kernel_rfl!
theorem chk333:jV (jD 21) [Str.ofString "word",Str.ofString "goal",Str.ofString "kept",Str.ofString "gaps",Str.ofString "one",Str.ofString "two",Str.ofString "size",Str.ofString "p",Str.ofString "q",Str.ofString "i",Str.ofString "j",Str.ofString "k"] (.replicate 12 .local) [] [4,0] 2=true:=by decide+kernel
def w333_0(C:Cx)(lv:Nat):WS:=jj (Za 11 (jm (.int 1))) jv
def w333_1(C:Cx)(lv:Nat):WS:=jj (wu [6,7,8] 3 (qo (jg (jd 11) (jg (jd 9) (jg (jd 10) jq))))) jv
def VH(C:Cx)(lv:Nat):WS:=jj (sIf (j4 .Gt (jd 11) (jd 6)) (w333_1 C lv) jv) jv
def w333_3(C:Cx)(lv:Nat):WS:=jj (qG (qh (j4 .Lt (jQ .Add (jd 9) (jd 11)) (jy C lv (jm (.bi .len)) (jg (jd 4) jq))) (qh (j4 .Lt (jQ .Add (jd 10) (jd 11)) (jy C lv (jm (.bi .len)) (jg (jd 5) jq))) (qh (j4 .Eq (kl (jd 4) (jQ .Add (jd 9) (jd 11))) (kl (jd 5) (jQ .Add (jd 10) (jd 11)))) k5))) (w333_0 C lv)) (VH C lv)
def Z3(C:Cx)(lv:Nat):WS:=jj (jl (jm (.int 0)) (jw 11)) (w333_3 C lv)
def Z2(C:Cx)(lv:Nat):WS:=jj (wP (qJ (jm (.ty "range")) (jg (jy C lv (jm (.bi .len)) (jg (jd 5) jq)) jq)) (jw 10) (Z3 C lv)) jv
def w333_6(C:Cx)(lv:Nat):WS:=jj (Za 3 (vV (jg (qo (jg (y6 C (jd 4) (jm .none) (jd 7)) (jg (y6 C (jd 5) (jm .none) (jd 8)) jq))) (jg (qo (jg (y6 C (jd 4) (jQ .Add (jd 7) (jd 6)) (jm .none)) (jg (y6 C (jd 5) (jQ .Add (jd 8) (jd 6)) (jm .none)) jq))) jq)))) jv
def w333_7(C:Cx)(lv:Nat):WS:=jj (Za 2 (jd 6)) (w333_6 C lv)
def zQ(C:Cx)(lv:Nat):WS:=jj (sIf (j4 .Gt (jd 6) (jm (.int 0))) (w333_7 C lv) jv) jv
def Z1(C:Cx)(lv:Nat):WS:=jj (wP (qJ (jm (.ty "range")) (jg (jy C lv (jm (.bi .len)) (jg (jd 4) jq)) jq)) (jw 9) (Z2 C lv)) (zQ C lv)
def w333_10(C:Cx)(lv:Nat):WS:=jj (jl (qo (jg (jm (.int 0)) (jg (jm (.int 0)) (jg (jm (.int 0)) jq)))) (yQ 3 (jK (jw 6) (jK (jw 7) (jK (jw 8) qY))))) (Z1 C lv)
def w333_11(C:Cx)(lv:Nat):WS:=jj (jl (kh C .pop (jd 3) jq) (yQ 2 (jK (jw 4) (jK (jw 5) qY)))) (w333_10 C lv)
def w333_12(C:Cx)(lv:Nat):WS:=jj (vc (jd 2)) jv
def w333_13(C:Cx)(lv:Nat):WS:=jj (qG (j4 .NotEq (jd 3) (vV jq)) (w333_11 C lv)) (w333_12 C lv)
def XD(C:Cx)(lv:Nat):WS:=jj (wu [2,3] 2 (qo (jg (jm (.int 0)) (jg (vV (jg (qo (jg (jd 0) (jg (jd 1) jq))) jq)) jq)))) (w333_13 C lv)
theorem der333(C:Cx)(lv:Nat):(rB (sto 12) ⟨C,lv,[Str.ofString "word",Str.ofString "goal",Str.ofString "kept",Str.ofString "gaps",Str.ofString "one",Str.ofString "two",Str.ofString "size",Str.ofString "p",Str.ofString "q",Str.ofString "i",Str.ofString "j",Str.ofString "k"],(.replicate 12 .local),k8 [4,0],0,[]⟩ (jR (jD 21))).1=XD C lv:=by kernel_rfl!
theorem chk338:jV (jD 22) [Str.ofString "word",Str.ofString "goal",Str.ofString "size",Str.ofString "bag",Str.ofString "counts"] [.cell,.cell,.cell,.local,.local] [0,1,2] [0,2,1,23] 2=true:=by decide+kernel
def w338_0(C:Cx)(lv:Nat):WE:=qC [(1,1),(2,0)] (w8 C (jm (.str (Str.ofString "abc")))) (jw 0) k5 (jy C lv (jm (.bi .min)) (jg (kh C .count (k9 2) (jg (jd 0) jq)) (jg (kh C .count (k9 1) (jg (jd 0) jq)) jq)))
def w338_1(C:Cx)(lv:Nat):WE:=qC [(1,2)] (w8 C (jd 4)) (jw 0) k5 (qIfe (j4 .Gt (k9 1) (jm (.int 0))) (jQ .FloorDiv (jQ .Mult (jQ .Mult (jm (.int 2)) (jm (.int 360360))) (jd 0)) (k9 1)) (jm (.int 360360)))
def w338_2(C:Cx)(lv:Nat):WS:=jj (vc (w338_1 C lv)) jv
def w338_3(C:Cx)(lv:Nat):WS:=jj (jl (vV (jg (jy C lv (jm (.bi .min)) (jg (jy C lv (jm (.bi .len)) (jg (k9 0) jq)) (jg (jy C lv (jm (.bi .len)) (jg (k9 1) jq)) jq))) (jg (jd 3) (jg (jy C lv (jm (.ref 333)) (jg (k9 0) (jg (k9 1) jq))) jq)))) (jw 4)) (w338_2 C lv)
def w338_4(C:Cx)(lv:Nat):WS:=jj (jl (jy C lv (jm (.bi .sum)) (jg (w338_0 C lv) jq)) (jw 3)) (w338_3 C lv)
def Z0(C:Cx)(lv:Nat):WS:=jj (jl (jQ .Add (jy C lv (jm (.bi .len)) (jg (k9 0) jq)) (jy C lv (jm (.bi .len)) (jg (k9 1) jq))) (UL 2)) (w338_4 C lv)
theorem der338(C:Cx)(lv:Nat):(rB (sto 12) ⟨C,lv,[Str.ofString "word",Str.ofString "goal",Str.ofString "size",Str.ofString "bag",Str.ofString "counts"],[.cell,.cell,.cell,.local,.local],k8 [0,2,1,23],0,[]⟩ (jR (jD 22))).1=Z0 C lv:=by kernel_rfl!
noncomputable def pc4:Nat->Str
 |0=>Str.ofString ""
 |1=>Str.ofString "a"
 |2=>Str.ofString "b"
 |_=>Str.ofString "c"
noncomputable def pcs(x:Int)(p:Nat):Str:=pc4 ((x.fdiv (4^p)).fmod 4).toNat
theorem pc4_ok:∀n,(pc4 n).length≤1∧∀c∈(pc4 n).cps.toList,c=97∨c=98∨c=99
 |0=>by decide+kernel
 |1=>by decide+kernel
 |2=>by decide+kernel
 |_+3=>(by decide+kernel:(Str.ofString "c").length≤1∧∀c∈(Str.ofString "c").cps.toList,c=97∨c=98∨c=99)
theorem jbm(x:Int)(p:Nat):(pcs x p).length≤1∧∀c∈(pcs x p).cps.toList,c=97∨c=98∨c=99:=pc4_ok _
theorem Yn(x:Int)(n:Nat):((List.range n).map ((fun s:Str=>s.length)∘pcs x)).sum≤n:=by
 induction n with
 |zero=>exact Nat.le_refl _
 |succ n ih=>
  rw[List.range_succ,List.map_append,List.sum_append]
  have:=(jbm x n).1
  simp only[List.map_cons,List.map_nil,List.sum_cons,List.sum_nil]
  exact Nat.add_le_add ih this
noncomputable def lwS(x:Int):Str:=Txt.join (Str.ofString "") ((List.range 7).map (pcs x))
theorem zr:(Txt.join (Str.ofString "") ys).cps.toList=ys.flatMap (·.cps.toList):=by
 have key:∀(ys:List Str) (acc:Array Nat),(ys.foldl (fun acc p=>acc++(Str.ofString "").cps++p.cps) acc).toList=acc.toList++ys.flatMap (·.cps.toList):=by
  intro ys
  induction ys with
  |nil=>intro acc;simp
  |cons y ys ih=>
   intro acc
   have e:(Str.ofString "").cps= #[]:=by decide+kernel
   rw[List.foldl_cons,ih,List.flatMap_cons,e]
   simp
 cases ys with
 |nil=>rfl
 |cons y ys=>exact key ys y.cps
theorem Un(x:Int):(lwS x).length<8:=by
 show (lwS x).cps.toList.length<8
 delta lwS
 rw[zr,List.length_flatMap,List.map_map]
 exact Nat.lt_succ_of_le (Yn x 7)
theorem Yq(h:c∈(lwS x).cps.toList):c=97∨c=98∨c=99:=by
 delta lwS at h
 rw[zr]at h
 obtain ⟨s,hs,hc⟩:=List.mem_flatMap.mp h
 obtain ⟨p,_,rfl⟩:=List.mem_map.mp hs
 exact (jbm x p).2 c hc
section
variable {C:Cx} {lv:Nat} {loc:Loc} {Z:Sig} {Ψ:K1}
theorem VP{α:Type}{f:α->Str}{l:List α}:O2 (l.map fun a=>.str (f a))=some (l.map f):=by
 induction l with
 |nil=>rfl
 |cons a l ih=>exact congrArg (Option.map (f a::·)) ih
theorem i_mod(hb:b≠0)(e:a.fmod b=c)(h:Ψ (.int c) Z):wY .Mod (.int a) (.int b) Z Ψ:=by subst e;exact ⟨hb,h⟩
theorem i_pow(hb:b≤1000000)(ha:a.natAbs<2^64)(e:a^b=c)(h:Ψ (.int c) Z):wY .Pow (.int a) (.int (b:Nat)) Z Ψ:=by subst e;exact ⟨Int.natCast_nonneg b,by lia,ha,h⟩
theorem pick4{k:Nat}(h:k<4):pick [AV.str (Str.ofString ""),.str (Str.ofString "a"),.str (Str.ofString "b"),.str (Str.ofString "c")] (k:Int)=some (.str (pc4 k)):=lt4 h rfl rfl rfl rfl
theorem vc326{x:Int}{c:Addr}(hc:Z c=some (.cell (some (.int x))))(e0:loc 0=some (.ref c))(h:∀o,j3 Z o->Ψ (.str (lwS x)) o):Z4 C lv loc Z (j9 Ψ):=by
 refine jh<|qu<|jZ<|js ⟨trivial,jf ⟨fun p hp=>⟨c,by rw[List.mem_singleton.mp hp];exact e0⟩,trivial,jf<|js<|jo ⟨rfl,(by decide),(by decide),(by decide),(by decide),(by decide),fun i ys o=>ys=(List.range i).map (fun p=>.str (pcs x p))∧o=Z,⟨rfl,rfl⟩,?_,?_⟩⟩⟩
 ·rintro i ys _ ⟨rfl,rfl⟩ hi
  refine ⟨trivial,by rw[List.length_map,List.length_range];exact Nat.le_refl _,fun y hy=> ?_⟩
  obtain ⟨hi7,rfl⟩:=vf hy
  have hi7:i<7:=hi7
  have ei:(0:Int)+(i:Nat)*1=(i:Nat):=by lia
  rw[ei]
  have hp:∀i:Nat,i<7->((4:Int)^i)≠0∧((4:Int)^i).natAbs<1073741824:=by decide+kernel
  have hm:=Int.fmod_nonneg_of_pos (x.fdiv (4^i)) (b:=4) (by decide)
  have hm2:=Int.fmod_lt_of_pos (x.fdiv (4^i)) (b:=4) (by decide)
  obtain ⟨k,hk⟩:=Int.eq_ofNat_of_zero_le hm
  have hk4:k<4:=by rw[hk]at hm2;exact Int.ofNat_lt.mp hm2
  refine jr ⟨?_,qI ⟨fun _=>ka<|qS<|jf<|js<|jf<|js<|jf<|js<|jf<|js<|jo ⟨Nat.le_of_ble_eq_true rfl,fun a ha=>jE<|jE<|k7 (c:=c) e0 (je ha hc)<|jE<|js<|ja rfl<|i_pow (by lia) (by decide) rfl<|Xa (hp i hi7).1 (hp i hi7).2 rfl<|js<|i_mod (by decide) hk ⟨_,_,jc,pick4 hk4,by lia,_,⟨?_,rfl⟩,fun b v e=>je ha e⟩⟩,(fun h=>nomatch h)⟩⟩
  ·intro j v e
   by_cases hj:j=0
   ·subst hj;cases e
   ·rw[ji hj];exact e
  ·rw[List.range_succ,List.map_append]
   show _=_++[AV.str (pcs x i)]
   delta pcs
   rw[hk];rfl
 ·rintro ys _ ⟨rfl,rfl⟩ a ha
  have hlen:=Un x
  refine jo ⟨_,_,jc,VP,?_,?_,h _ fun b v e=>je ha e⟩
  ·rw[List.length_map,List.length_range,qt];decide
  ·have:=Yn x 7
   have e:(Str.ofString "").length=0:=by decide+kernel
   rw[List.map_map,e,Nat.mul_zero,qt]
   exact Nat.le_trans this (by decide)
theorem X7(X:PC C)(h:Ψ (.str (lwS x)) Z):jC C (lv+1) (.ref 326) [.int x] Z Ψ:=by
 refine jC.mono (Ψ':=fun v o=>v=.str (lwS x)∧j3 Z o) ?_ fun v o q__=>kC (fun e hs=>⟨_,hs,e▸h⟩) q__
 refine jM X (X.fn 8 rfl) chk326 rfl (wd fun _ _=>rfl) fun A env x1 x2 x3 cs z k T hcd hcl hcn hcf R tk=>SpB.use (kj ⟨_,_,_,_,_,k,T⟩ (der326 _ _)) R tk ?_
 obtain ⟨c,rfl⟩:∃c,cs=[c]:=List.length_eq_one_iff.mp hcl
 exact vc326 jc rfl fun o hs=>⟨rfl,fun a v e=>hs a v (je (hcf c (.head _)) e)⟩
theorem jbK(h:k≤lcp l m):k+1≤lcp l m↔k<l.length∧k<m.length∧l[k]? =m[k]? :=by
 have h0:=Uo.mp h
 rw[Uo]
 refine ⟨fun⟨h1,h2,h3⟩=>⟨h1,h2,h3 k (Nat.lt_succ_self _)⟩,fun⟨h1,h2,h3⟩=>⟨h1,h2,fun t ht=> ?_⟩⟩
 rcases Nat.lt_succ_iff_lt_or_eq.mp ht with q|q
 ·exact h0.2.2 t q
 ·rw[q];exact h3
variable {gp:Addr} {A B:Str} {kt:Int}
def Ou(gp:Addr)(kt:Int)(A B:Str)(ll:Loc):Prop:=ll 2=some (.int kt)∧ll 3=some (.ref gp)∧ll 4=some (.str A)∧ll 5=some (.str B)
def Op(r:Nat×Nat×Nat)(ll:Loc):Prop:=ll 6=some (.int (r.1:Int))∧ll 7=some (.int (r.2.1:Int))∧ll 8=some (.int (r.2.2:Int))
noncomputable abbrev Ot(A B:Str):Nat->Nat->Nat×Nat×Nat:=lcpF A.cps.toList B.cps.toList
def J333k(gp:Addr)(kt:Int)(A B:Str)(i j:Nat)(r:Nat×Nat×Nat)(o:Sig)(n:Nat)(ll:Loc)(o':Sig):Prop:=∃k,k+n=(Ot A B i j).1∧Ou gp kt A B ll∧Op r ll∧ll 9=some (.int (i:Int))∧ll 10=some (.int (j:Int))∧ll 11=some (.int (k:Int))∧o'=o
theorem vc333k{i j:Nat}{r:Nat×Nat×Nat}{ll:Loc}{Φ:Fl->Loc->Sig->Prop}(hA:A.length≤1000)(hB:B.length≤1000)(hE:Ou gp kt A B ll)(hR:Op r ll)(e9:ll 9=some (.int (i:Int)))(e10:ll 10=some (.int (j:Int)))
  (h:∀ll',Ou gp kt A B ll'->Op (yx r (Ot A B i j)) ll'->ll' 9=some (.int (i:Int))->Φ .next ll' Z):Z3 C lv ll Z Φ:=by
 refine jh<|ju<|js<|jr<|jb<|jh<|vZ (J333k gp kt A B i j r Z) (Ot A B i j).1 ⟨0,Nat.zero_add _,hE,hR,e9,e10,rfl,rfl⟩ ?_
 rintro n ll o ⟨k,hk,hE,hR,e9,e10,e11,rfl⟩
 have hle:k≤lcp (A.cps.toList.drop i) (B.cps.toList.drop j):=by
  have:k≤(Ot A B i j).1:=by rw[←hk];exact Nat.le_add_right _ _
  exact this
 have st:=jbK hle
 rw[List.length_drop,List.length_drop,List.getElem?_drop,List.getElem?_drop]at st
 have out:¬(k+1≤(Ot A B i j).1)->VH C lv ll o Φ:=fun hn=>by
  have ek:k=(Ot A B i j).1:=Nat.le_antisymm hle (Nat.le_of_lt_succ (Nat.lt_of_not_le hn))
  delta yx at h
  refine jh<|qk<|jz<|ja e11<|ja hR.1<|Ks rfl ⟨fun hb=> ?_,fun hb=> ?_⟩
  ·have hb:=Int.ofNat_lt.mp (of_decide_eq_true hb)
   rw[ek]at hb
   rw[if_pos hb]at h
   exact jh<|wz<|kA<|jf<|ja e11<|jf<|ja e9<|jf<|ja e10<|jo ⟨Nat.le_of_ble_eq_true rfl,_,rfl,rfl,jb<|jt<|jb<|jt<|h _ hE ⟨by rw[←ek];rfl,rfl,rfl⟩ e9⟩
  ·have hb:¬r.1<k:=fun q=>of_decide_eq_false hb (Int.ofNat_lt.mpr q)
   rw[ek]at hb
   rw[if_neg hb]at h
   exact jt<|jb<|jt<|h _ hE hR e9
 refine kB<|jz<|jE<|ja e9<|ja e11<|jP (c:=((i+k:Nat):Int)) rfl<|qf (s:=A) hA (fun _ k=>ja hE.2.2.1 k)<|yC rfl ⟨fun hb=>⟨fun _=>jb<|out fun q=>of_decide_eq_false hb (Int.ofNat_lt.mpr ?_),(fun h=>nomatch h)⟩,fun hb=>kB<|jz<|jE<|ja e10<|ja e11<|jP (c:=((j+k:Nat):Int)) rfl<|qf (s:=B) hB (fun _ k=>ja hE.2.2.2 k)<|yC rfl ⟨fun hb2=>⟨fun _=>jb<|out fun q=>of_decide_eq_false hb2 (Int.ofNat_lt.mpr ?_),(fun h=>nomatch h)⟩,fun hb2=> ?_⟩⟩
 ·rw[kI];exact Nat.add_lt_of_lt_sub' (st.mp q).1
 ·rw[kI];exact Nat.add_lt_of_lt_sub' (st.mp q).2.1
 ·have hb:=Int.ofNat_lt.mp (of_decide_eq_true hb)
  have hb2:=Int.ofNat_lt.mp (of_decide_eq_true hb2)
  rw[kI]at hb hb2
  have ha:A.cps.toList[i+k]? =some A.cps.toList[i+k]:=List.getElem?_eq_getElem hb
  have hb':B.cps.toList[j+k]? =some B.cps.toList[j+k]:=List.getElem?_eq_getElem hb2
  rw[ha,hb']at st
  refine kB<|jz<|ka<|ja hE.2.2.1<|jE<|ja e9<|ja e11<|jP (c:=((i+k:Nat):Int)) rfl<|kN ha hA<|ka<|ja hE.2.2.2<|jE<|ja e10<|ja e11<|jP (c:=((j+k:Nat):Int)) rfl<|kN hb' hB<|jbY rfl ⟨fun hq=>⟨fun _=>jb<|out fun q=> ?_,(fun h=>nomatch h)⟩,fun hq=>qI ⟨(fun h=>nomatch h),fun _=> ?_⟩⟩
  ·have:=(st.mp q).2.2
   injection this with this
   rw[this,beq_self_eq_true]at hq;cases hq
  ·have hq:=y1 (eq_of_beq hq)
   have hs:k+1≤(Ot A B i j).1:=st.mpr ⟨Nat.lt_sub_of_add_lt (Nat.add_comm i k▸hb),Nat.lt_sub_of_add_lt (Nat.add_comm j k▸hb2),by rw[hq]⟩
   cases n with
   |zero=>rw[←hk]at hs;exact absurd hs (Nat.lt_irrefl k)
   |succ n=>exact jh<|YA ⟨_,e11,js<|jb<|jt<|vd (Φ:=q9 (VH C lv) Φ) (Nat.lt_succ_self n) ⟨k+1,(Nat.succ_add_eq_add_succ k n).trans hk,hE,hR,e9,e10,rfl,rfl⟩⟩
end
end
section
section
variable {C:Cx} {lv:Nat} {loc:Loc} {Z:Sig} {Ψ:K1} {gp:Addr} {A B:Str} {kt:Int}
theorem vS(i:Nat):(0:Int)+(i:Nat)*1=(i:Nat):=by rw[Int.mul_one,Int.zero_add]
theorem rng{n:Nat}:((n:Int)-0).toNat=n:=by rw[Int.sub_zero];rfl
theorem jbU{n i:Nat}{W:WE}{S:WS}{Φ:Fl->Loc->Sig->Prop}(hn:n≤1000)(hW:∀Ψ':K1,Ψ' (.int (n:Int)) Z->W loc Z Ψ')(J:Nat->Loc->Sig->Prop)(h0:J 0 loc Z)(hs:∀k l o,J k l o->k<n->S (upd l i (.int (k:Int))) o (kc J Φ k))(he:∀l o,J n l o->Φ .next l o):wP (qJ (jm (.ty "range")) (jg W jq)) (jw i) S loc Z Φ:=by
 refine ⟨trivial,hW _ ⟨rfl,(by decide:(-1000:Int)≤0),(by decide:(0:Int)≤1000),(by lia:(-1000:Int)≤(n:Int)),(by lia:(n:Int)≤1000),J,h0,fun k l o hJ hk=> ?_⟩⟩
 rw[qt]at hk⊢
 dsimp only at hk⊢
 rw[rng]at hk⊢
 refine ⟨trivial,fun x hx=> ?_,fun e=>he _ _ (e▸hJ)⟩
 obtain ⟨hl,rfl⟩:=vf hx
 rw[vS]
 exact hs k l o hJ hl
theorem vc333j{i:Nat}{r:Nat×Nat×Nat}{ll:Loc}{Φ:Fl->Loc->Sig->Prop}(hA:A.length≤1000)(hB:B.length≤1000)(hE:Ou gp kt A B ll)(hR:Op r ll)(e9:ll 9=some (.int (i:Int)))
  (h:∀ll',Ou gp kt A B ll'->Op (vI (Ot A B) i B.length r) ll'->Φ .next ll' Z):Z2 C lv ll Z Φ:=by
 refine jh<|jbU hB (fun _ k=>qf (s:=B) hB (fun _ k=>ja hE.2.2.2 k) k) (fun n ll o=>Ou gp kt A B ll∧Op (vI (Ot A B) i n r) ll∧ll 9=some (.int (i:Int))∧o=Z) ⟨hE,hR,e9,rfl⟩ ?_ ?_
 ·rintro k l o ⟨hE,hR,e9,rfl⟩ hk
  exact vc333k (Φ:=kc _ (q9 jv Φ) k) hA hB hE hR e9 rfl fun ll' hE hR e9=>kM (Φ:=q9 jv Φ) ⟨hE,hR,e9,rfl⟩
 ·rintro l o ⟨hE,hR,e9,rfl⟩
  exact jb<|jt<|h l hE hR
theorem vc333i{ll:Loc}{Φ:Fl->Loc->Sig->Prop}(hA:A.length≤1000)(hB:B.length≤1000)(hE:Ou gp kt A B ll)(hR:Op (0,0,0) ll)(h:∀ll',Ou gp kt A B ll'->Op (j8 A.cps.toList B.cps.toList) ll'->zQ C lv ll' Z Φ):Z1 C lv ll Z Φ:=by
 refine jh<|jbU hA (fun _ k=>qf (s:=A) hA (fun _ k=>ja hE.2.2.1 k) k) (fun n ll o=>Ou gp kt A B ll∧Op (Om (Ot A B) B.length (0,0,0) n) ll∧o=Z) ⟨hE,hR,rfl⟩ ?_ ?_
 ·rintro k l o ⟨hE,hR,rfl⟩ hk
  exact vc333j (Φ:=kc _ (q9 (zQ C lv) Φ) k) hA hB hE hR rfl fun ll' hE hR=>kM (Φ:=q9 (zQ C lv) Φ) ⟨hE,hR,rfl⟩
 ·rintro l o ⟨hE,hR,rfl⟩
  exact jb<|h l hE hR
theorem i_iadd{a b:Int}(h:Ψ (.int (a+b)) Z):Ow (.int a) (.int b) Z Ψ:=h
theorem i_sl1{W Wh:WE}{s:Str}{n:Nat}(hs:s.length≤1000)(h1:∀Ψ':K1,Ψ' (.str s) Z->W loc Z Ψ')(h2:∀Ψ':K1,Ψ' (.int (n:Int)) Z->Wh loc Z Ψ')(k:Ψ (.str (vH s none (some (n:Int)))) Z):y6 C W (jm .none) Wh loc Z Ψ:=h1 _<|h2 _ ⟨hs,k⟩
theorem i_sl2{W Wl:WE}{s:Str}{n:Nat}(hs:s.length≤1000)(h1:∀Ψ':K1,Ψ' (.str s) Z->W loc Z Ψ')(h2:∀Ψ':K1,Ψ' (.int (n:Int)) Z->Wl loc Z Ψ')(k:Ψ (.str (vH s (some (n:Int)) none)) Z):y6 C W Wl (jm .none) loc Z Ψ:=h1 _<|h2 _ ⟨hs,k⟩
noncomputable abbrev PrS:=Str×Str
noncomputable def prOf(p:PrS):AV:=.tup [.str p.1,.str p.2]
noncomputable def Vi(ps:List PrS):Nat:=(ps.map fun p=>kept p.1.cps.toList p.2.cps.toList).sum
noncomputable def wv(ps:List PrS):Nat:=(ps.map fun p=>2*p.1.length+1).sum
theorem Kj{ps qs:List PrS}:Vi (ps++qs)=Vi ps+Vi qs:=by delta Vi;rw[List.map_append,List.sum_append]
theorem y8{ps qs:List PrS}:wv (ps++qs)=wv ps+wv qs:=by delta wv;rw[List.map_append,List.sum_append]
theorem Ki{p:PrS}:Vi [p]=kept p.1.cps.toList p.2.cps.toList:=rfl
theorem y7{p:PrS}:wv [p]=2*p.1.length+1:=rfl
theorem OE{ps:List PrS}:ps.length≤wv ps:=by
 induction ps with
 |nil=>exact Nat.le_refl _
 |cons w ws ih=>
  have e:wv (w::ws)=2*w.1.length+1+wv ws:=rfl
  rw[e,List.length_cons];lia
structure Q333(Z:Sig)(gp:Addr)(tot:Nat)(n:Nat)(ps:List PrS)(kt:Int)(o:Sig):Prop where
 hg:o gp=some (.list (ps.map prOf))
 sum:kt+(Vi ps:Nat)=(tot:Int)
 me:wv ps≤n∧n≤15
 ok:∀p∈ps,p.1.length<8∧p.2.length<8
 sub:j3 Z o
def J333(Z:Sig)(gp:Addr)(tot:Nat)(n:Nat)(ll:Loc)(o:Sig):Prop:=∃ps kt,ll 2=some (.int kt)∧ll 3=some (.ref gp)∧Q333 Z gp tot n ps kt o
theorem vc333e{tot n:Nat}{ps:List PrS}{ll:Loc}{o:Sig}{Φ:Fl->Loc->Sig->Prop}(hZ:Z gp=none)(hA:A.length<8)(hB:B.length<8)(hE:Ou gp kt A B ll)(hR:Op (j8 A.cps.toList B.cps.toList) ll)(hg:o gp=some (.list (ps.map prOf)))(sum:kt+(Vi (ps++[(A,B)]):Nat)=(tot:Int))(me:wv (ps++[(A,B)])≤n)(hn:n≤15)(ok:∀p∈ps,p.1.length<8∧p.2.length<8)(sub:j3 Z o):zQ C lv ll o (kq (J333 Z gp tot) Φ n):=by
 rw[Kj,Ki,Uq]at sum
 rw[y8,y7]at me
 have hb:=we (a:=A.cps.toList) (b:=B.cps.toList)
 dsimp only at sum me
 generalize j8 A.cps.toList B.cps.toList=r at sum hR hb
 obtain ⟨s,p,q⟩:=r
 dsimp only at sum hb
 refine jh<|qk<|jz<|ja hR.1<|js<|Ks rfl ⟨fun hs=> ?_,fun hs=> ?_⟩
 ·have hs:0<s:=Int.ofNat_lt.mp (of_decide_eq_true hs)
  rw[if_neg (Nat.ne_of_gt hs)]at sum
  have hA1:A.length≤1000:=Nat.le_trans (Nat.le_of_lt hA) (by decide)
  have hB1:B.length≤1000:=Nat.le_trans (Nat.le_of_lt hB) (by decide)
  have tl:∀{S:Str} {lo hi},(vH S lo hi).cps.toList=cut S.cps.toList lo hi:=fun{S lo hi}=>by delta vH;rfl
  have ha:p+s≤A.length:=hb.1
  have hb:=hb.2
  have ll1:(vH A none (some (p:Int))).length=p:=by rw[kI,tl,vq,List.length_take];exact Nat.min_eq_left (Nat.le_of_add_right_le ha)
  have ll2:(vH A (some ((p+s:Nat):Int)) none).length=A.length-(p+s):=by rw[kI,tl,yJ,List.length_drop];rfl
  have ll3:(vH B none (some (q:Int))).length=q:=by rw[kI,tl,vq,List.length_take];exact Nat.min_eq_left (Nat.le_of_add_right_le hb)
  have ll4:(vH B (some ((q+s:Nat):Int)) none).length=B.length-(q+s):=by rw[kI,tl,yJ,List.length_drop];rfl
  have hlen:ps.length≤15:=Nat.le_trans (Nat.le_trans OE (Nat.le_of_add_right_le me)) hn
  refine jh<|YA ⟨_,hE.1,ja hR.1<|i_iadd<|jb ?_⟩
  refine jh<|YA ⟨.ref gp,hE.2.1,?_⟩
  refine qS<|jf<|kA<|jf<|i_sl1 hA1 (fun _ k=>ja hE.2.2.1 k) (fun _ k=>ja hR.2.1 k)<|jf<|i_sl1 hB1 (fun _ k=>ja hE.2.2.2 k) (fun _ k=>ja hR.2.2 k)<|jo ⟨Nat.le_of_ble_eq_true rfl,?_⟩
  refine jf<|kA<|jf<|i_sl2 (n:=p+s) hA1 (fun _ k=>ja hE.2.2.1 k) (fun _ k=>jE<|ja hR.2.1<|ja hR.1<|jP (c:=((p+s:Nat):Int)) rfl k)<|jf<|i_sl2 (n:=q+s) hB1 (fun _ k=>ja hE.2.2.2 k) (fun _ k=>jE<|ja hR.2.2<|ja hR.1<|jP (c:=((q+s:Nat):Int)) rfl k)<|jo ⟨Nat.le_of_ble_eq_true rfl,jo ⟨Nat.le_of_ble_eq_true rfl,fun t ht=> ?_⟩⟩
  have hs2:kt+(s:Int)+(Vi (ps++[(vH A none (some (p:Int)),vH B none (some (q:Int))),(vH A (some ((p+s:Nat):Int)) none,vH B (some ((q+s:Nat):Int)) none)]):Nat)=(tot:Int):=by
   rw[show∀x y:PrS,ps++[x,y]=ps++[x]++[y]from fun x y=>(List.append_assoc ps [x] [y]).symm,Kj,Kj,Ki,Ki]
   dsimp only
   rw[tl,tl,tl,tl,vq,vq,yJ,yJ]
   exact O0 sum
  generalize vH A none (some (p:Int))=S1 at ll1 hs2⊢
  generalize vH B none (some (q:Int))=S2 at ll3 hs2⊢
  generalize vH A (some ((p+s:Nat):Int)) none=S3 at ll2 hs2⊢
  generalize vH B (some ((q+s:Nat):Int)) none=S4 at ll4 hs2⊢
  have hm:wv (ps++[(S1,S2),(S3,S4)])<n:=by
   rw[show ps++[(S1,S2),(S3,S4)]=ps++[(S1,S2)]++[(S3,S4)]from(List.append_assoc ps [(S1,S2)] [(S3,S4)]).symm,y8,y8,y7,y7,Nat.add_assoc]
   dsimp only
   rw[ll1,ll2]
   exact Nat.lt_of_lt_of_le (Nat.add_lt_add_left (jbA (Nat.zero_le p) ha hs) _) me
  refine ⟨_,_,je ht hg,jc,?_,?_⟩
  rotate_left
  refine jb<|jt<|jb<|jt<|vd hm ⟨ps++[(S1,S2),(S3,S4)],kt+(s:Int),rfl,rfl,?_⟩
  rotate_left
  ·rw[List.length_map]
   exact Nat.le_trans (Nat.add_le_add_right hlen 2) (of_decide_eq_true rfl)
  ·refine ⟨by rw[jc,List.map_append];rfl,hs2,⟨Nat.le_refl _,Nat.le_trans (Nat.le_of_lt hm) hn⟩,fun v hv=> ?_,fun a x e=> ?_⟩
   ·rcases List.mem_append.mp hv with hv|hv
    ·exact ok v hv
    ·rcases List.mem_cons.mp hv with rfl|hv
     ·exact ⟨ll1▸Nat.lt_of_le_of_lt (Nat.le_of_add_right_le ha) hA,ll3▸Nat.lt_of_le_of_lt (Nat.le_of_add_right_le hb) hB⟩
     ·rw[List.mem_singleton.mp hv];exact ⟨ll2▸Nat.lt_of_le_of_lt (Nat.sub_le _ _) hA,ll4▸Nat.lt_of_le_of_lt (Nat.sub_le _ _) hB⟩
   ·have hne:a≠gp:=fun q=>by rw[q,hZ]at e;cases e
    rw[ji hne];exact je ht (sub a x e)
 ·have hs:s=0:=Nat.eq_zero_of_not_pos fun q=>of_decide_eq_false hs (Int.ofNat_lt.mpr q)
  rw[if_pos hs,Nat.add_zero]at sum
  have me:=Nat.lt_of_lt_of_le (Nat.lt_add_of_pos_right (Nat.succ_pos _)) me
  exact jt<|jb<|jt<|vd me ⟨ps,kt,hE.1,hE.2.1,hg,sum,⟨Nat.le_refl _,Nat.le_trans (Nat.le_of_lt me) hn⟩,ok,sub⟩
theorem vc333{W G:Str}(hW:W.length<8)(hG:G.length<8)(e0:loc 0=some (.str W))(e1:loc 1=some (.str G))(h:∀o,j3 Z o->Ψ (.int (kept W.cps.toList G.cps.toList:Nat)) o):XD C lv loc Z (j9 Ψ):=by
 refine jh<|wz<|kA<|jf<|js<|jf<|qS<|jf<|kA<|jf<|ja e0<|jf<|ja e1<|jo ⟨Nat.le_of_ble_eq_true rfl,jo ⟨Nat.le_of_ble_eq_true rfl,fun gp hgp=>jo ⟨Nat.le_of_ble_eq_true rfl,_,rfl,rfl,jb<|jh ?_⟩⟩⟩
 refine vZ (J333 Z gp (kept W.cps.toList G.cps.toList)) (2*W.length+1) ⟨[(W,G)],0,rfl,rfl,jc,by rw[Int.zero_add];rfl,⟨Nat.le_refl _,by lia⟩,fun p hp=>by rw[List.mem_singleton.mp hp];exact ⟨hW,hG⟩,fun a x e=>je hgp e⟩ ?_
 rintro n ll o ⟨ps,kt,e2,e3,Q⟩
 have hpl:=Nat.le_trans OE Q.me.1
 refine jz<|ja e3<|qS<|jo ⟨Nat.le_of_ble_eq_true rfl,fun t ht=>⟨_,_,je ht Q.hg,jc,fun q=> ?_,_,rfl,fun hb=> ?_,fun hb=> ?_⟩⟩
 ·rw[List.length_eq_zero_iff.mp q];rfl
 ·have hps:ps=[]:=by
   cases ps with
   |nil=>rfl
   |cons p ps=>cases hb
  subst hps
  have sum:kt+((0:Nat):Int)=(kept W.cps.toList G.cps.toList:Nat):=Q.sum
  rw[Int.natCast_zero,Int.add_zero]at sum
  subst sum
  exact jb<|jh<|qu<|ja e2<|h _ fun a x e=>je ht (Q.sub a x e)
 ·have hps:ps≠[]:=fun e=>by rw[e]at hb;cases hb
  obtain ⟨ps',⟨A,B⟩,rfl⟩:∃ps' p,ps=ps'++[p]:=⟨ps.dropLast,ps.getLast hps,(List.dropLast_concat_getLast hps).symm⟩
  obtain ⟨hA,hB⟩:=Q.ok _ (List.mem_append_right _ (.head _))
  have hg:=Q.hg
  rw[List.map_append]at hg
  have sub':∀{x},j3 Z (upd (upd o t (.list [])) gp x):=fun a v e=>by rw[ji (fun q=>by rw[q,hgp]at e;cases e)];exact je ht (Q.sub a v e)
  rw[List.length_append]at hpl
  have hn:=Q.me.2
  exact jh<|ju<|jZ<|ja e3 ⟨⟨_,je ht Q.hg⟩,jo ⟨_,_,je ht hg,by rw[List.length_map];lia,_,rfl,rfl,_,_,rfl,_,_,rfl,jr<|wf<|jb<|jh<|ju<|kA<|jf<|js<|jf<|js<|jf<|js<|jo ⟨Nat.le_of_ble_eq_true rfl,_,rfl,rfl,_,_,rfl,_,_,rfl,_,_,rfl,jr<|wf<|jb<|vc333i (Nat.le_trans (Nat.le_of_lt hA) (by decide)) (Nat.le_trans (Nat.le_of_lt hB) (by decide)) ⟨e2,e3,rfl,rfl⟩ ⟨rfl,rfl,rfl⟩ fun ll' hE hR=>vc333e hgp hA hB hE hR jc Q.sum Q.me.1 Q.me.2 (fun p hp=>Q.ok p (List.mem_append_left _ hp)) sub'⟩⟩⟩
theorem spec333(X:PC C){W G:Str}(hW:W.length<8)(hG:G.length<8)(h:Ψ (.int (kept W.cps.toList G.cps.toList:Nat)) Z):jC C (lv+1) (.ref 333) [.str W,.str G] Z Ψ:=
 jC.mono (Ψ':=fun v o=>v=.int (kept W.cps.toList G.cps.toList:Nat)∧j3 Z o) (jM X (X.fn 9 rfl) chk333 rfl (wG fun _ _ _=>rfl) fun A env x1 x2 x3 cs z k T hcd hcl hcn hcf R tk=>SpB.use (kj ⟨_,_,_,_,_,k,T⟩ (der333 _ _)) R tk (vc333 hW hG rfl rfl fun o hs=>⟨rfl,hs⟩)) fun v o q__=>kC (fun e hs=>⟨_,hs,e▸h⟩) q__
end
end
section
open PySem.StrLaws in
theorem jbo:∀(n i:Nat) (st:Array Nat×Nat),st.2≤i->st.1.size≤i->i+n=x.length+1->(forIn (List.range' i n) st (occBody x ⟨#[c]⟩ x.length (x.length+1))).run.fst.size=st.1.size+(x.cps.toList.drop i).count c:=by
 intro v__
 induction v__ with
 |zero=>
  intro i st h1 h2 h3
  rw[List.drop_of_length_le (show x.cps.toList.length≤i by rw[←kI];lia)];rfl
 |succ n ih=>
  intro i st h1 h2 h3
  rw[List.range'_succ,List.forIn_cons]
  have hs:=subAt_one x c i
  delta occBody
  by_cases e:x.cps.toList[i]? =some c
  ·have q:=hs.mpr e
   rw[if_pos ⟨⟨⟨by lia,h1⟩,q.1⟩,q.2⟩]
   have hd:x.cps.toList.drop i=c::x.cps.toList.drop (i+1):=by
    obtain ⟨hl,e'⟩:=List.getElem?_eq_some_iff.mp e
    rw[List.drop_eq_getElem_cons hl,e']
   have ih:=ih (i+1) (st.1.push i,i+1) (Nat.le_refl _) (by rw[Array.size_push];exact Nat.succ_le_succ h2) (by lia)
   rw[hd,List.count_cons_self]
   rw[Array.size_push]at ih
   exact ih.trans (by rw[Nat.add_right_comm];rfl)
  ·rw[if_neg fun q=>e (hs.mp ⟨q.1.2,q.2⟩)]
   have ih:=ih (i+1) st (Nat.le_succ_of_le h1) (Nat.le_succ_of_le h2) (by lia)
   refine ih.trans ?_
   by_cases hl:i<x.cps.toList.length
   ·rw[List.drop_eq_getElem_cons hl,List.count_cons_of_ne]
    exact fun q=>e (by rw[List.getElem?_eq_getElem hl,q])
   ·have hl:=Nat.le_of_not_lt hl
    rw[List.drop_of_length_le hl,List.drop_of_length_le (Nat.le_succ_of_le hl)]
theorem jcw:Txt.count x (sg c)=(x.cps.toList.count c:Nat):=by
 delta Txt.count
 rw[StrLaws.occ_eq]
 have:=jbo (x:=x) (c:=c) (x.length+1) 0 (#[],0) (Nat.le_refl _) (Nat.le_refl _) (Nat.zero_add _)
 rw[List.drop_zero]at this
 show ((Array.toList _).length:Int)=_
 rw[Array.length_toList,Nat.sub_zero]
 exact congrArg Nat.cast (this.trans (Nat.zero_add _))
noncomputable def UJ(W G:Str)(c:Nat):Nat:=min (W.cps.toList.count c) (G.cps.toList.count c)
noncomputable def Ok(W G:Str):Nat:=UJ W G 97+UJ W G 98+UJ W G 99
noncomputable def pt(c s:Nat):Nat:=if s=0 then 360360 else 720720*c/s
noncomputable def pts(W G:Str):List Nat:=[pt (min W.length G.length) (W.length+G.length),pt (Ok W G) (W.length+G.length),pt (kept W.cps.toList G.cps.toList) (W.length+G.length)]
theorem abc_at{i:Nat}{x:AV}(h:(vw (Str.ofString "abc"))[i]? =some x):x=.str (sg (97+i)):=by
 have e:vw (Str.ofString "abc")=[.str (sg 97),.str (sg 98),.str (sg 99)]:=by rfl
 rw[e]at h
 have hi:i<3:=(List.getElem?_eq_some_iff.mp h).1
 revert h
 exact lt3 hi (fun h=>by cases h;rfl) (fun h=>by cases h;rfl) fun h=>by cases h;rfl
section
variable {C:Cx} {lv:Nat} {loc:Loc} {Z:Sig} {Ψ:K1} {W G:Str}
theorem Kl{α:Type}{f:α->Int}{l:List α}:Km (l.map fun a=>.int (f a))=some (l.map f):=by
 induction l with
 |nil=>rfl
 |cons a l ih=>exact congrArg (Option.map (f a::·)) ih
theorem jbX(hf:FNS.contains fa=true)(h1:∀Ψ':K1,Ψ' x Z->W1 loc Z Ψ')(h2:∀Ψ':K1,Ψ' y Z->W2 loc Z Ψ')(h:jC C lv (.ref fa) [x,y] Z Ψ):jy C lv (jm (.ref fa)) (jg W1 (jg W2 jq)) loc Z Ψ:=⟨jA hf,h1 _<|h2 _ ⟨jA hf,h⟩⟩
theorem i_cnt(h:Ψ (.int (s.cps.toList.count c:Nat)) Z):wB C .count [.str s,.str (sg c)] Z Ψ:=by
 show Ψ (.int (Txt.count s (sg c))) Z
 rw[jcw];exact h
theorem UT(h:fm.lookup 0=none):KM (wE fm loc) (upd (wE fm loc) 0 x):=fun j v e=>by
 by_cases hj:j=0
 ·subst hj
  delta wE at e
  rw[h]at e;cases e
 ·rw[ji hj];exact e
theorem pt_eq(h:s≠0):((720720*c:Nat):Int).fdiv (s:Nat)=((pt c s:Nat):Int):=by
 delta pt
 rw[if_neg h];exact (Int.ofNat_fdiv _ _).symm
theorem vc338(X:PC C){c0 c1 c2:Addr}(hW:W.length<8)(hG:G.length<8)(h0:Z c0=some (.cell (some (.str W))))(h1:Z c1=some (.cell (some (.str G))))(h2:Z c2=some (.cell none))(n2:c2≠c0)(n21:c2≠c1)(e0:loc 0=some (.ref c0))(e1:loc 1=some (.ref c1))(e2:loc 2=some (.ref c2))
  (h:∀r o,(∀a x,a≠c2->Z a=some x->o a=some x)->Z r=none->o r=some (.list ((pts W G).map fun n:Nat=>.int (n:Int)))->Ψ (.ref r) o):Z0 C (lv+1) loc Z (j9 Ψ):=by
 have hW1:W.length≤1000:=Nat.le_trans (Nat.le_of_lt hW) (by decide)
 have hG1:G.length≤1000:=Nat.le_trans (Nat.le_of_lt hG) (by decide)
 refine jh<|ju<|jE<|qf (s:=W) hW1 (fun _ k=>k7 e0 h0 k)<|qf (s:=G) hG1 (fun _ k=>k7 e1 h1 k)<|jP (c:=((W.length+G.length:Nat):Int)) rfl<|zg e2 h2<|jb ?_
 have K:∀a x,a≠c2->Z a=some x->upd Z c2 (.cell (some (.int ((W.length+G.length:Nat):Int)))) a=some x:=fun a x ha e=>by rw[ji ha];exact e
 have h0':=K _ _ (Ne.symm n2) h0
 have h1':=K _ _ (Ne.symm n21) h1
 have h2':upd Z c2 (.cell (some (.int ((W.length+G.length:Nat):Int)))) c2=some (.cell (some (.int ((W.length+G.length:Nat):Int)))):=jc
 have hfr:∀a,upd Z c2 (.cell (some (.int ((W.length+G.length:Nat):Int)))) a=none->Z a=none:=fun a e=>by
  by_cases q:a=c2
  ·rw[q,jc]at e;cases e
  ·rw[ji q]at e;exact e
 generalize upd Z c2 (.cell (some (.int ((W.length+G.length:Nat):Int))))=Z1 at K h0' h1' h2' hfr⊢
 refine jh<|ju<|ke trivial<|jf ⟨fun p hp=> ?_,js<|Uv ⟨by decide,fun i ys o=>ys=(List.range i).map (fun p=>.int ((UJ W G (97+p):Nat):Int))∧Z1=o,⟨rfl,rfl⟩,?_,?_⟩⟩
 ·rcases List.mem_cons.mp hp with rfl|hp
  ·exact ⟨_,e1⟩
  ·rw[List.mem_singleton.mp hp];exact ⟨_,e0⟩
 ·rintro i ys _ ⟨rfl,rfl⟩ hi
  refine ⟨trivial,by rw[List.length_map,List.length_range];exact Nat.le_refl _,fun y hy=> ?_⟩
  have:=abc_at hy
  subst this
  refine jr ⟨UT rfl,qI ⟨fun _=>ke trivial<|jf<|jZ<|k7 (c:=c0) e0 h0' ⟨trivial,jf<|ja rfl<|jo<|i_cnt<|jf<|jZ<|k7 (c:=c1) e1 h1' ⟨trivial,jf<|ja rfl<|jo<|i_cnt<|jo<|Uu ⟨_,⟨by rw[List.range_succ,List.map_append];rfl,rfl⟩,.refl _⟩⟩⟩,(fun h=>nomatch h)⟩⟩
 ·rintro ys _ ⟨rfl,rfl⟩ a ha
  refine jo ⟨_,_,jS jc,Kl,?_⟩
  have hb:((List.range (vw (Str.ofString "abc")).length).map fun p=>((UJ W G (97+p):Nat):Int)).sum=((Ok W G:Nat):Int):=by
   have:(vw (Str.ofString "abc")).length=3:=by decide+kernel
   rw[this]
   show ((UJ W G 97:Nat):Int)+(((UJ W G 98:Nat):Int)+(((UJ W G 99:Nat):Int)+0))=_
   delta Ok
   lia
  rw[hb]
  refine jr<|jb<|jh<|ju<|qS<|jf<|ke trivial<|jf<|qf (s:=W) hW1 (fun _ k=>k7 e0 (je ha h0') k)<|jf<|qf (s:=G) hG1 (fun _ k=>k7 e1 (je ha h1') k)<|jo<|Uu<|jf<|ja rfl<|jf<|jbX (x:=.str W) (y:=.str G) rfl (fun _ k=>k7 e0 (je ha h0') k) (fun _ k=>k7 e1 (je ha h1') k)<|spec333 X hW hG<|jo ⟨Nat.le_of_ble_eq_true rfl,fun ct hct=>jr<|jb ?_⟩
  refine jh<|qu ⟨fun p hp=>⟨c2,by rw[List.mem_singleton.mp hp];exact e2⟩,vo<|ja rfl<|vB (jS jc) ⟨Nat.le_of_ble_eq_true rfl,fun i ys o=>ys=((pts W G).take i).map (fun n:Nat=>.int (n:Int))∧_=o,⟨rfl,rfl⟩,?_,?_⟩⟩
  ·rintro i ys _ ⟨rfl,rfl⟩ hi
   refine ⟨jS jc,by rw[List.length_map];exact List.length_take_le _ _,fun x hx=> ?_⟩
   have hx':∃c:Nat,x=.int (c:Int)∧c≤100∧(pts W G)[i]? =some (pt c (W.length+G.length)):=by
    have hm:min W.length G.length≤100:=by lia
    have hk:kept W.cps.toList G.cps.toList≤100:=Nat.le_trans Up (Nat.le_trans (Nat.le_of_lt hW) (by decide))
    have hbg:Ok W G≤100:=by
     have hc:∀c,UJ W G c≤8:=fun c=>Nat.le_trans (Nat.min_le_left _ _) (Nat.le_trans List.count_le_length (Nat.le_of_lt hW))
     have:=hc 97;have:=hc 98;have:=hc 99
     delta Ok;lia
    have hi3:i<3:=(List.getElem?_eq_some_iff.mp hx).1
    revert hx
    refine lt3 hi3 ?_ ?_ ?_
    ·exact fun h=>⟨_,(Option.some.inj h).symm,hm,rfl⟩
    ·exact fun h=>⟨_,(Option.some.inj h).symm,hbg,rfl⟩
    ·exact fun h=>⟨_,(Option.some.inj h).symm,hk,rfl⟩
   obtain ⟨c,rfl,hc,hp⟩:=hx'
   refine jr ⟨UT rfl,qI ⟨fun _=> ?_,(fun h=>nomatch h)⟩⟩
   have hs:((pts W G).take (i+1)).map (fun n:Nat=>AV.int (n:Int))=((pts W G).take i).map (fun n:Nat=>AV.int (n:Int))++[.int ((pt c (W.length+G.length):Nat):Int)]:=by
    rw[List.take_add_one,hp,List.map_append];rfl
   refine i_ife<|jz<|k7 (c:=c2) e2 (je hct (je ha h2'))<|js<|Ks rfl ⟨fun hb=> ?_,fun hb=> ?_⟩
   ·have hb:W.length+G.length≠0:=Nat.ne_of_gt (Int.ofNat_lt.mp (of_decide_eq_true hb))
    exact jE<|jE<|jE<|js<|js<|Ut (c:=720720) (by decide) rfl<|ja rfl<|Ut (c:=((720720*c:Nat):Int)) (by decide) rfl<|k7 (c:=c2) e2 (je hct (je ha h2'))<|Xa (by lia) (by lia) (pt_eq hb) ⟨_,⟨hs.symm,rfl⟩,.refl _⟩
   ·have hb:W.length+G.length=0:=Nat.eq_zero_of_not_pos fun q=>of_decide_eq_false hb (Int.ofNat_lt.mpr q)
    rw[hb]at hs
    exact js ⟨_,⟨hs.symm,rfl⟩,.refl _⟩
  ·rintro ys _ ⟨rfl,rfl⟩ r hr
   refine h r _ (fun b x hb e=>je hr (je hct (je ha (K b x hb e)))) (hfr r ?_) jc
   cases e:Z1 r with
   |none=>rfl
   |some x=>rw[je hct (je ha e)]at hr;cases hr
theorem spec338(X:PC C)(hW:W.length<8)(hG:G.length<8)(h:∀r,Z r=none->Ψ (.ref r) (upd Z r (.list ((pts W G).map fun n:Nat=>.int (n:Int))))):jC C (lv+2) (.ref 338) [.str W,.str G] Z Ψ:=by
 refine jC.mono (Ψ':=fun v o=>∃r,v=.ref r∧Z r=none∧j3 (upd Z r (.list ((pts W G).map fun n:Nat=>.int (n:Int)))) o) ?_ fun v o q__=>jX (fun r e hr hs=>⟨_,hs,e▸h r hr⟩) q__
 refine jM X (X.fn 10 rfl) chk338 rfl (wG fun _ _ _=>rfl) fun A env x1 x2 x3 cs z k T hcd hcl hcn hcf R tk=>SpB.use (kj ⟨_,_,_,_,_,k,T⟩ (der338 _ _)) R tk ?_
 obtain ⟨c0,c1,c2,rfl⟩:∃a b c,cs=[a,b,c]:=len3 hcl fun a b c=>⟨a,b,c,rfl⟩
 have f0:=hcf c0 (.head _)
 have f1:=hcf c1 (.tail _ (.head _))
 have f2:=hcf c2 (.tail _ (.tail _ (.head _)))
 rw[List.nodup_cons,List.nodup_cons]at hcn
 have n01:c0≠c1:=fun e=>hcn.1 (by rw[e];exact .head _)
 have n02:c0≠c2:=fun e=>hcn.1 (by rw[e];exact .tail _ (.head _))
 have n12:c1≠c2:=fun e=>hcn.2.1 (by rw[e];exact .head _)
 have s0:upd (upd (upd Z c0 (.cell (some (.str W)))) c1 (.cell (some (.str G)))) c2 (.cell none) c0=some (.cell (some (.str W))):=by rw[ji n02,ji n01];exact jc
 have s1:upd (upd (upd Z c0 (.cell (some (.str W)))) c1 (.cell (some (.str G)))) c2 (.cell none) c1=some (.cell (some (.str G))):=by rw[ji n12];exact jc
 refine vc338 X hW hG s0 s1 jc (Ne.symm n02) (Ne.symm n12) rfl rfl rfl fun r o hs hr ho=> ?_
 have K:∀a x,Z a=some x->o a=some x:=fun a x e=>by
  have h0:a≠c0:=fun q=>by rw[q,f0]at e;cases e
  have h1:a≠c1:=fun q=>by rw[q,f1]at e;cases e
  have h2:a≠c2:=fun q=>by rw[q,f2]at e;cases e
  exact hs a x h2 (by show upd (upd (upd Z c0 (.cell (some (.str W)))) c1 (.cell (some (.str G)))) c2 (.cell none) a=some x;rw[ji h2,ji h1,ji h0];exact e)
 change upd (upd (upd Z c0 (.cell (some (.str W)))) c1 (.cell (some (.str G)))) c2 (.cell none) r=none at hr
 refine ⟨r,rfl,?_,fun a x e=> ?_⟩
 ·by_cases h2:r=c2
  ·rw[h2,f2]
  ·rw[ji h2]at hr
   by_cases h1:r=c1
   ·rw[h1,f1]
   ·rw[ji h1]at hr
    by_cases h0:r=c0
    ·rw[h0,f0]
    ·rw[ji h0]at hr;exact hr
 ·by_cases q:a=r
  ·rw[q,jc]at e;rw[q,ho,←e]
  ·rw[ji q]at e;exact K a x e
end
end
noncomputable def tb:List (UInt64×Nat):=[(0,0),(4594314991293244562,51480),(4594710912139606804,55440),(4595172819793696085,60060),(4595718710657619782,65520),(4596373779694328218,72072),(4597174419628082972,80080),(4598175219545276416,90090),(4598818590920615058,102960),(4599214511766977300,110880),(4599676419421066581,120120),(4600222310284990278,131040),(4600877379321698714,144144),(4601392076421969627,154440),(4601678019255453468,160160),(4601985957691512990,166320),(4602678819172646912,180180),(4603088237320589684,196560),(4603322190547985554,205920),(4603579539098121011,216216),(4603718111394347796,221760),(4604180019048437077,240240),(4604608933298662839,257400),(4604725909912360774,262080),(4604930618986332160,270270),(4605103834356615641,277200),(4605380978949069210,288288),(4605681218924227243,300300),(4605895676049340123,308880),(4606181618882823964,320320),(4606363582504131863,327600),(4606489557318883486,332640),(4607182418800017408,360360)]
theorem tb_shr:((List.range 15).all fun s=>(List.range 8).all fun c=> !decide (2*c≤s)||tb.contains (shr c s,pt c s))=true:=by decide+kernel
noncomputable def neg(x:UInt64):UInt64:=Float64.sub 0x0000000000000000 x
noncomputable def relOk(a b:UInt64×Nat):Bool:=fLt a.1 b.1==decide (a.2<b.2)&&(fEq a.1 b.1==decide (a.2=b.2)&&(fGe a.1 b.1==decide (b.2≤a.2)&&(fLe a.1 b.1==decide (a.2≤b.2)&&(fLt (neg a.1) (neg b.1)==decide (b.2<a.2)&&fEq (neg a.1) (neg b.1)==decide (a.2=b.2)))))
noncomputable def oneOk(a:UInt64×Nat):Bool:=neg (neg a.1)==a.1&&(Float64.ofFrac false a.2 360360==a.1&&(!Float64.isInf a.1&&decide (a.2≤360360)))
theorem tb_rel:(tb.all fun a=>tb.all fun b=>relOk a b)=true:=by decide+kernel
theorem tb_one:(tb.all oneOk)=true:=by decide+kernel
def Sh(x:UInt64)(p:Nat):Prop:=(x,p)∈tb
theorem Sh.of(hs:s<15)(hc:2*c≤s):Sh (shr c s) (pt c s):=by
 have:=List.all_eq_true.mp (List.all_eq_true.mp tb_shr s (List.mem_range.mpr hs)) c (List.mem_range.mpr (by lia))
 rw[decide_eq_true hc]at this
 exact List.contains_iff_mem.mp this
structure RelOk(x y:UInt64)(p q:Nat):Prop where
 lt:fLt x y=decide (p<q)
 eq:fEq x y=decide (p=q)
 ge:fGe x y=decide (q≤p)
 le:fLe x y=decide (p≤q)
 nlt:fLt (neg x) (neg y)=decide (q<p)
 neq:fEq (neg x) (neg y)=decide (p=q)
theorem Sh.rel(h:Sh x p)(k:Sh y q):RelOk x y p q:=by
 have:=List.all_eq_true.mp (List.all_eq_true.mp tb_rel _ h) _ k
 unfold relOk at this
 simp only[Bool.and_eq_true,beq_iff_eq]at this
 refine x0_6 (fun a b c d e f=> ?_) this
 exact ⟨a,b,c,d,e,f⟩
theorem Sh.one(h:Sh x p):neg (neg x)=x∧Float64.ofFrac false p 360360=x∧Float64.isInf x=false∧p≤360360:=by
 have:=List.all_eq_true.mp tb_one _ h
 unfold oneOk at this
 simp only[Bool.and_eq_true,beq_iff_eq,Bool.not_eq_true',decide_eq_true_eq]at this
 exact this
section
noncomputable def jW(x:Nat->Nat->UInt64)(s k:Nat):AV:=.tup [.flt (neg (x s k)),.int (s:Int),.int (k:Int)]
noncomputable def rk(p:Nat->Nat->Nat):AV->Int
 | .tup [_,.int s,.int k]=> -(p s.toNat k.toNat:Int)*1000+s*100+k
 |_=>0
noncomputable def wg:AV->Nat
 | .tup [_,.int s,.int _]=>3-s.toNat
 |_=>0
noncomputable def rN(P s k:Nat):Int:= -(P:Int)*1000+(s:Int)*100+(k:Int)
theorem yu{x:Nat->Nat->UInt64}{p:Nat->Nat->Nat}:rk p (jW x s k)=rN (p s k) s k:=rfl
theorem ZT{x:Nat->Nat->UInt64}:wg (jW x s k)=3-s:=rfl
theorem rN1(hs:s<3)(hk:k<50)(h:Q<P):rN P s k<rN Q t j:=by delta rN;lia
theorem rN2(hk:k<50)(h:s<t):rN P s k<rN P t j:=by delta rN;lia
theorem rN3(h:k<j):rN P s k<rN P s j:=Int.add_lt_add_left (Int.ofNat_lt.mpr h) _
theorem rN_p(ht:t<3)(hj:j<50)(h:rN P s k≤rN Q t j):Q≤P:=Nat.le_of_not_lt fun q=>Int.not_lt.mpr h (rN1 ht hj q)
theorem rN_s(hj:j<50)(h:rN P s k≤rN P t j):s≤t:=Nat.le_of_not_lt fun q=>Int.not_lt.mpr h (rN2 hj q)
theorem rN_k(h:rN P s k≤rN P s j):k≤j:=Nat.le_of_not_lt fun q=>Int.not_lt.mpr h (rN3 q)
theorem OJ{x:Nat->Nat->UInt64}(e:jW x s i=jW x t j):i=j:=by
 injection e with e
 injection e with _ e
 injection e with _ e
 injection e with e _
 injection e with e
 exact Int.ofNat_inj.mp e
structure Dt(x:Nat->Nat->UInt64)(p:Nat->Nat->Nat)(N:Nat):Prop where
 sh:∀s k,s<3->k<N->Sh (x s k) (p s k)
 m1:∀k,k<N->p 1 k≤p 0 k
 m2:∀k,k<N->p 2 k≤p 1 k
 n:N≤50
def Ent(x:Nat->Nat->UInt64)(N:Nat)(u:AV):Prop:=∃s k,s<3∧k<N∧u=jW x s k
theorem zb{a b:Nat}:((a:Int)==(b:Int))=(a==b):=by
 rw[Bool.eq_iff_iff,beq_iff_eq,beq_iff_eq,Int.ofNat_inj]
theorem Dt.lt{x:Nat->Nat->UInt64}{p:Nat->Nat->Nat}(D:Dt x p N)(u v:AV)(hu:Ent x N u)(hv:Ent x N v):ltA u v=decide (rk p u<rk p v):=by
 obtain ⟨s,k,hs,hk,rfl⟩:=hu
 obtain ⟨t,j,ht,hj,rfl⟩:=hv
 have R:=(D.sh s k hs hk).rel (D.sh t j ht hj)
 have hk:=Nat.lt_of_lt_of_le hk D.n
 have hj:=Nat.lt_of_lt_of_le hj D.n
 rw[yu,yu]
 show (if fEq _ _=true then (if ((s:Int)==(t:Int))=true then (if ((k:Int)==(j:Int))=true then false else decide ((k:Int)<(j:Int)))else decide ((s:Int)<(t:Int)))else fLt _ _)=_
 rw[R.neq,R.nlt,zb,zb]
 generalize p s k=P
 generalize p t j=Q
 rcases Nat.lt_trichotomy Q P with h|rfl|h
 ·rw[decide_eq_false (Nat.ne_of_gt h),decide_eq_true h,decide_eq_true (rN1 hs hk h)];rfl
 ·rw[decide_eq_true rfl]
  rcases Nat.lt_trichotomy s t with h|rfl|h
  ·rw[beq_eq_false_iff_ne.mpr (Nat.ne_of_lt h),decide_eq_true (Int.ofNat_lt.mpr h),decide_eq_true (rN2 hk h)];rfl
  ·rw[beq_self_eq_true]
   rcases Nat.lt_trichotomy k j with h|rfl|h
   ·rw[beq_eq_false_iff_ne.mpr (Nat.ne_of_lt h),decide_eq_true (Int.ofNat_lt.mpr h),decide_eq_true (rN3 h)];rfl
   ·rw[beq_self_eq_true,decide_eq_false (Int.lt_irrefl (k:Int)),decide_eq_false (Int.lt_irrefl (rN Q s k))];rfl
   ·rw[beq_eq_false_iff_ne.mpr (Nat.ne_of_gt h),decide_eq_false (Int.not_lt.mpr (Int.ofNat_le.mpr (Nat.le_of_lt h))),decide_eq_false (Int.not_lt.mpr (Int.le_of_lt (rN3 h)))];rfl
  ·rw[beq_eq_false_iff_ne.mpr (Nat.ne_of_gt h),decide_eq_false (Int.not_lt.mpr (Int.ofNat_le.mpr (Nat.le_of_lt h))),decide_eq_false (Int.not_lt.mpr (Int.le_of_lt (rN2 hj h)))];rfl
 ·rw[decide_eq_false (Nat.ne_of_lt h),decide_eq_false (Nat.lt_asymm h),decide_eq_false (Int.not_lt.mpr (Int.le_of_lt (rN1 ht hj h)))];rfl
theorem Dt.hp{x:Nat->Nat->UInt64}{p:Nat->Nat->Nat}(D:Dt x p N)(hu:Ent x N u):Hp u:=by
 obtain ⟨s,k,hs,hk,rfl⟩:=hu
 refine ⟨_,_,_,rfl,?_⟩
 have R:=(D.sh s k hs hk).rel (D.sh s k hs hk)
 rw[R.neq];exact decide_eq_true rfl
noncomputable def key(p:Nat->Nat->Nat)(k:Nat):Int:=rN (p 2 k) 2 k
structure Bf(x:Nat->Nat->UInt64)(p:Nat->Nat->Nat)(N w:Nat)(st:Nat->Nat)(H:List AV)(T A0 A1:List Nat):Prop where
 nd:H.Nodup
 mem:∀u,u∈H↔∃k,k<N∧st k<3∧u=jW x (st k) k
 heap:qm (rk p) H 0
 len:H.length+T.length=N
 mu:A0.length+A1.length+T.length+(H.map wg).sum=3*N
 tm:∀k,k∈T↔k<N∧3≤st k
 ts:T.Pairwise fun a b=>key p a<key p b
 tmin:∀t∈T,∀k,k<N->st k<3->key p t<key p k
 n0:A0.Nodup
 m0:∀k,k∈A0↔k<N∧1≤st k
 n1:A1.Nodup
 m1:∀k,k∈A1↔k<N∧2≤st k
 low:∀s k j,s<2->s<st k->k<N->j<N->st j<3->p (st j) j≤p s k
 fin:T.length=w->∀t,T.getLast? =some t->∀s k,s<2->k<N->(s<st k↔p 2 t≤p s k)
 lw:T.length≤w
section
variable {x:Nat->Nat->UInt64} {p:Nat->Nat->Nat} {N w:Nat} {st:Nat->Nat} {H:List AV} {T A0 A1:List Nat}
theorem Bf.head(B:Bf x p N w st H T A0 A1)(D:Dt x p N)(hw:T.length<w)(hN:w≤N):∃k tl,k<N∧st k<3∧H=jW x (st k) k::tl∧∀j,j<N->st j<3->rk p (jW x (st k) k)≤rk p (jW x (st j) j):=by
 have hl:0<H.length:=by have:=B.len;lia
 cases hH:H with
 |nil=>rw[hH]at hl;cases hl
 |cons u tl=>
  obtain ⟨k,hk,hs,rfl⟩:=(B.mem u).mp (by rw[hH];exact .head _)
  refine ⟨k,tl,hk,hs,rfl,fun j hj hsj=> ?_⟩
  obtain ⟨i,hi,e⟩:=List.getElem_of_mem ((B.mem _).mpr ⟨j,hj,hsj,rfl⟩)
  have:=jb2 B.heap i hi
  have g0:H.getD 0 .none=jW x (st k) k:=by rw[hH];rfl
  have g1:H.getD i .none=H[i]:=by rw[List.getD_eq_getElem?_getD,List.getElem?_eq_getElem hi];rfl
  rw[g0,g1,e]at this
  exact this
theorem Dt.mono(D:Dt x p N)(h:s≤t)(ht:t<3)(hk:k<N):p t k≤p s k:=by
 have st:∀t,t<2->p (t+1) k≤p t k:=fun t ht=>lt2 ht (D.m1 k hk) (D.m2 k hk)
 induction t with
 |zero=>cases Nat.le_zero.mp h;exact Nat.le_refl _
 |succ t ih=>
  by_cases e:s=t+1
  ·exact e▸Nat.le_refl _
  ·exact Nat.le_trans (st t (Nat.lt_of_succ_lt_succ ht)) (ih (Nat.le_of_lt_succ (Nat.lt_of_le_of_ne h e)) (Nat.lt_of_succ_lt ht))
theorem Bf.tail(B:Bf x p N w st H T A0 A1)(hH:H=jW x (st k) k::tl):tl.Nodup∧∀u,u∈tl↔∃j,j<N∧j≠k∧st j<3∧u=jW x (st j) j:=by
 have nd:=B.nd
 rw[hH,List.nodup_cons]at nd
 refine ⟨nd.2,fun u=>⟨fun hu=> ?_,fun q__=>ZR (fun j h1 h2 h3 h4=> ?_) q__⟩⟩
 ·obtain ⟨j,h1,h2,h3⟩:=(B.mem u).mp (by rw[hH];exact .tail _ hu)
  refine ⟨j,h1,fun e=> ?_,h2,h3⟩
  subst e
  rw[h3]at hu
  exact nd.1 hu
 ·have:=(B.mem u).mpr ⟨j,h1,h3,h4⟩
  rw[hH]at this
  rcases List.mem_cons.mp this with e|h
  ·rw[h4]at e
   exact absurd (OJ e) h2
  ·exact h
theorem zU{A:List Nat}{s v:Nat}(m:∀j,j∈A↔j<N∧s≤st j)(h:s≤v↔s≤st k)(j:Nat):j∈A↔j<N∧s≤(if j=k then v else st j):=by
 by_cases q:j=k
 ·cases q;rw[if_pos rfl,h];exact m _
 ·rw[if_neg q];exact m j
theorem VQ{A:List Nat}{s v:Nat}(m:∀j,j∈A↔j<N∧s≤st j)(hk:k<N)(h:s≤v)(j:Nat):j∈A++[k]↔j<N∧s≤(if j=k then v else st j):=by
 by_cases q:j=k
 ·cases q;rw[if_pos rfl];exact ⟨fun _=>⟨hk,h⟩,fun _=>List.mem_append_right _ (List.mem_singleton_self _)⟩
 ·rw[if_neg q];exact (List.mem_append.trans (or_iff_left fun h=>q (List.mem_singleton.mp h))).trans (m j)
theorem jbq{A:List Nat}{s:Nat}(n:A.Nodup)(m:∀j,j∈A↔j<N∧s≤st j)(h:¬s≤st k):(A++[k]).Nodup:=(List.perm_append_singleton k A).nodup_iff.mpr (List.nodup_cons.mpr ⟨fun q=>h ((m k).mp q).2,n⟩)
theorem st_lo{v:Nat}(h:(if j=k then v else st j)<3)(hk:st k<3):st j<3:=by
 by_cases q:j=k
 ·exact q▸hk
 ·rw[if_neg q]at h;exact h
theorem mu1{a b c d e n:Nat}(h:e+1=d)(k:a+b+c+d=n):a+1+b+c+e=n∧a+(b+1)+c+e=n∧a+b+(c+1)+e=n:=by lia
theorem mu3{c t s s' n:Nat}(h:c+(t+1)+s'=n)(k:c+t+s=n):s'+1=s:=by lia
theorem mu4{a b a' b' t s s' n:Nat}(h:a'+b'+t+s'=n)(k:a+b+t+s=n)(e:a'+b'=a+b+1):s'+1=s:=by lia
theorem wg3(h:s<3):3-(s+1)+S+1=3-s+S:=lt3 h (Nat.succ_add 2 S).symm (Nat.succ_add 1 S).symm (Nat.succ_add 0 S).symm
theorem Bf.ask(B:Bf x p N w st H T A0 A1)(D:Dt x p N)(hk:k<N)(hs:st k<2)(hH:H=jW x (st k) k::tl)(hm:∀j,j<N->st j<3->rk p (jW x (st k) k)≤rk p (jW x (st j) j))(hw:T.length<w)(hP:H'.Perm (jW x (st k+1) k::tl))(hp:qm (rk p) H' 0):
  Bf x p N w (fun j=>if j=k then st k+1 else st j) H' T (if st k=0 then A0++[k]else A0) (if st k=0 then A1 else A1++[k]):=by
 refine kC (fun t1 t2=> ?_) (B.tail hH)
 have hs3:=Nat.lt_succ_of_lt hs
 have hmu:(H'.map wg).sum+1=(H.map wg).sum:=by
  rw[(hP.map wg).sum_nat,hH]
  exact wg3 hs3
 have hM:=mu1 hmu B.mu
 refine {nd:= ?_,mem:=fun u=> ?_,heap:=hp,len:= ?_,mu:= ?_,tm:=zU B.tm ⟨fun h=>absurd (Nat.le_of_succ_le_succ h) (Nat.not_le_of_lt hs),Nat.le_succ_of_le⟩,ts:=B.ts,tmin:=fun t ht j hj hsj=>B.tmin t ht j hj (st_lo hsj hs3),n0:= ?_,m0:= ?_,n1:= ?_,m1:= ?_,low:=fun s j i h1 h2 h3 h4 h5=> ?_,fin:=fun h=>absurd h (Nat.ne_of_lt hw),lw:=B.lw}
 ·rw[hP.nodup_iff,List.nodup_cons]
  refine ⟨fun h=> ?_,t1⟩
  exact ZR (fun j _ hj _ e=>hj (OJ e).symm) ((t2 _).mp h)
 ·rw[hP.mem_iff,List.mem_cons,t2]
  refine ⟨fun h=> ?_,fun h=>jX (fun j h1 h2 h3=> ?_) h⟩
  ·rcases h with h|⟨j,h1,h2,h3,h4⟩
   ·exact ⟨k,hk,by rw[if_pos rfl];exact Nat.succ_lt_succ hs,by rw[if_pos rfl];exact h⟩
   ·exact ⟨j,h1,by rw[if_neg h2];exact h3,by rw[if_neg h2];exact h4⟩
  ·by_cases e:j=k
   ·cases e;rw[if_pos rfl]at h3;exact .inl h3
   ·rw[if_neg e]at h2 h3;exact .inr ⟨j,h1,e,h2,h3⟩
 ·rw[hP.length_eq];exact (congrArg (fun l=>l.length+T.length) hH).symm.trans B.len
 ·by_cases e:st k=0
  ·rw[if_pos e,if_pos e,List.length_append];exact hM.1
  ·rw[if_neg e,if_neg e,List.length_append];exact hM.2.1
 ·split
  ·rename_i e;exact jbq B.n0 B.m0 (by rw[e];exact Nat.not_succ_le_zero 0)
  ·exact B.n0
 ·split
  ·exact VQ B.m0 hk (Nat.succ_pos _)
  ·rename_i e;exact zU B.m0 ⟨fun _=>Nat.pos_of_ne_zero e,fun _=>Nat.succ_pos _⟩
 ·split
  ·exact B.n1
  ·exact jbq B.n1 B.m1 (Nat.not_le_of_lt hs)
 ·split
  ·rename_i e;exact zU B.m1 ⟨fun h=>absurd h (by rw[e];exact Nat.lt_irrefl 1),fun h=>absurd h (Nat.not_le_of_lt hs)⟩
  ·rename_i e;exact VQ B.m1 hk (Nat.succ_le_succ (Nat.pos_of_ne_zero e))
 ·have hi:st i<3∧p (if i=k then st k+1 else st i) i≤p (st i) i:=by
   by_cases q:i=k
   ·cases q;rw[if_pos rfl];exact ⟨hs3,D.mono (Nat.le_succ _) (Nat.succ_lt_succ hs) h4⟩
   ·rw[if_neg q]at h5⊢;exact ⟨h5,Nat.le_refl _⟩
  refine Nat.le_trans hi.2 ?_
  by_cases q:j=k
  ·cases q
   rw[if_pos rfl]at h2
   rcases Nat.lt_succ_iff_lt_or_eq.mp h2 with q2|q2
   ·exact B.low s _ i h1 q2 h3 h4 hi.1
   ·rw[q2];exact rN_p hi.1 (Nat.lt_of_lt_of_le h4 D.n) (hm i h4 hi.1)
  ·rw[if_neg q]at h2
   exact B.low s j i h1 h2 h3 h4 hi.1
theorem Bf.tell(B:Bf x p N w st H T A0 A1)(D:Dt x p N)(hk:k<N)(hs:st k=2)(hH:H=jW x (st k) k::tl)(hm:∀j,j<N->st j<3->rk p (jW x (st k) k)≤rk p (jW x (st j) j))(hw:T.length<w)(hP:H'.Perm tl)(hp:qm (rk p) H' 0):
  Bf x p N w (fun j=>if j=k then 3 else st j) H' (T++[k]) A0 A1:=by
 refine kC (fun t1 t2=> ?_) (B.tail hH)
 have hs3:st k<3:=hs▸Nat.lt_succ_self 2
 have ne:∀{j},(if j=k then 3 else st j)<3->j≠k:=fun h e=>by rw[if_pos e]at h;exact Nat.lt_irrefl _ h
 have hmin:∀j,j<N->st j<3->j≠k->key p k<key p j∧(st j<2->p (st j) j<p 2 k):=fun j hj hsj hne=>by
  have h1:=hm j hj hsj
  rw[yu,yu,hs]at h1
  have hj50:=Nat.lt_of_lt_of_le hj D.n
  have hp:=rN_p hsj hj50 h1
  have hp2:=D.mono (Nat.le_of_lt_succ hsj) (Nat.lt_succ_self 2) hj
  have eq:p (st j) j=p 2 k->st j=2:=fun e=>Nat.le_antisymm (Nat.le_of_lt_succ hsj) (by rw[e]at h1;exact rN_s hj50 h1)
  refine ⟨?_,fun h=>Nat.lt_of_le_of_ne hp fun e=>absurd (eq e) (Nat.ne_of_lt h)⟩
  rcases Nat.lt_or_eq_of_le (Nat.le_trans hp2 hp)with h|h
  ·exact rN1 (Nat.lt_succ_self 2) (Nat.lt_of_lt_of_le hk D.n) h
  ·have e:=eq (Nat.le_antisymm hp (h▸hp2))
   rw[e,h]at h1
   delta key;rw[h]
   exact rN3 (Nat.lt_of_le_of_ne (rN_k h1) (Ne.symm hne))
 have hmu:(H'.map wg).sum+1=(H.map wg).sum:=by
  rw[(hP.map wg).sum_nat,hH,List.map_cons,List.sum_cons,ZT,hs]
  exact Nat.add_comm _ _
 refine {nd:=hP.nodup_iff.mpr t1,mem:=fun u=> ?_,heap:=hp,len:= ?_,mu:= ?_,tm:=VQ B.tm hk (Nat.le_refl 3),ts:= ?_,tmin:=fun t ht j hj hsj=> ?_,n0:=B.n0,m0:=zU B.m0 ⟨fun _=>hs▸Nat.le_succ 1,fun _=>Nat.succ_pos _⟩,n1:=B.n1,m1:=zU B.m1 ⟨fun _=>Nat.le_of_eq hs.symm,fun _=>Nat.le_succ 2⟩,low:=fun s j i h1 h2 h3 h4 h5=> ?_,fin:=fun h t ht s j h1 h2=> ?_,lw:= ?_}
 ·rw[hP.mem_iff,t2]
  refine ⟨fun h=>ZR (fun j h1 h2 h3 h4=>⟨j,h1,by rw[if_neg h2];exact h3,by rw[if_neg h2];exact h4⟩) h,fun h=>jX (fun j h1 h2 h3=> ?_) h⟩
  have e:=ne h2
  rw[if_neg e]at h2 h3;exact ⟨j,h1,e,h2,h3⟩
 ·have hl:=B.len
  rw[hH,List.length_cons]at hl
  rw[hP.length_eq,List.length_append]
  exact (Nat.succ_add_eq_add_succ _ _).symm.trans hl
 ·rw[List.length_append];exact (mu1 hmu B.mu).2.2
 ·rw[List.pairwise_append]
  refine ⟨B.ts,List.pairwise_singleton _ _,fun a ha b hb=> ?_⟩
  rw[List.mem_singleton.mp hb]
  exact B.tmin a ha k hk hs3
 ·have hne:=ne hsj
  rw[if_neg hne]at hsj
  rcases List.mem_append.mp ht with ht|ht
  ·exact B.tmin t ht j hj hsj
  ·rw[List.mem_singleton.mp ht];exact (hmin j hj hsj hne).1
 ·have hne:=ne h5
  rw[if_neg hne]at h5⊢
  refine B.low s j i h1 ?_ h3 h4 h5
  by_cases e:j=k
  ·cases e;exact hs▸h1
  ·rw[if_neg e]at h2;exact h2
 ·have ht':t=k:=by
   rw[List.getLast?_append,List.getLast?_singleton]at ht
   exact (Option.some.inj ht).symm
  cases ht'
  by_cases e:j=k
  ·cases e
   rw[if_pos rfl]
   exact ⟨fun _=>D.mono (Nat.le_of_lt h1) (Nat.lt_succ_self 2) h2,fun _=>Nat.lt_succ_of_lt h1⟩
  ·rw[if_neg e]
   refine ⟨fun h=> ?_,fun h=>Nat.lt_of_not_le fun q=> ?_⟩
   ·have:=B.low s j k h1 h h2 hk hs3
    rw[hs]at this;exact this
   ·have h2':=Nat.lt_of_le_of_lt q h1
    exact absurd (Nat.le_trans h (D.mono q (Nat.lt_succ_of_lt h1) h2)) (Nat.not_le_of_lt ((hmin j h2 (Nat.lt_succ_of_lt h2') e).2 h2'))
 ·rw[List.length_append];exact hw
end
end
section
theorem chk345:jV (jD 23) [Str.ofString "words",Str.ofString "goal",Str.ofString "wished",Str.ofString "matcher",Str.ofString "heap",Str.ofString "told",Str.ofString "asked",Str.ofString "place",Str.ofString "less",Str.ofString "stage",Str.ofString "share"] (.replicate 11 .local) [] [12,4,0,19,15,17] 3=true:=by decide+kernel
def w345_0(C:Cx)(lv:Nat):WS:=jj (kz (kh C .append (jd 4) (jg (qo (jg (jQ .Sub (jm (.flt 0x0000000000000000)) (kG C lv 267 (jd 3) jq)) (jg (jm (.int 0)) (jg (jd 7) jq)))) jq))) jv
def w345_1(C:Cx)(lv:Nat):WS:=jj (kz (kG C lv 202 (jd 3) (jg (kl (jd 0) (jd 7)) jq))) (w345_0 C lv)
def w345_2(C:Cx)(lv:Nat):WS:=jj (kz (kh C .append (jd 5) (jg (qo (jg (jd 7) (jg (jQ .Sub (jm (.flt 0x0000000000000000)) (jd 8)) jq))) jq))) jv
def ZZ(C:Cx)(lv:Nat):WS:=jj (kz (jy C lv (jm (.ref 293)) (jg (jd 4) jq))) (w345_2 C lv)
def ZY(C:Cx)(lv:Nat):WS:=jj (kz (jy C lv (jm (.ref 300)) (jg (jd 4) (jg (qo (jg (jQ .Sub (jm (.flt 0x0000000000000000)) (jd 10)) (jg (jQ .Add (jd 9) (jm (.int 1))) (jg (jd 7) jq)))) jq)))) jv
def ZX(C:Cx)(lv:Nat):WS:=jj (kz (kh C .append (kl (jd 6) (jd 9)) (jg (jd 7) jq))) (ZY C lv)
def w345_6(C:Cx)(lv:Nat):WS:=jj (jl (qIfe (j4 .Eq (jd 9) (jm (.int 0))) (kG C lv 260 (jd 3) jq) (kG C lv 253 (jd 3) jq)) (jw 10)) (ZX C lv)
def ZW(C:Cx)(lv:Nat):WS:=jj (kz (kG C lv 202 (jd 3) (jg (kl (jd 0) (jd 7)) jq))) (w345_6 C lv)
def w345_8(C:Cx)(lv:Nat):WS:=jj (sIf (j4 .Eq (jd 9) (jm (.int 2))) (ZZ C lv) (ZW C lv)) jv
def w345_9(C:Cx)(lv:Nat):WS:=jj (jl (kl (jd 4) (jm (.int 0))) (yQ 3 (jK (jw 8) (jK (jw 9) (jK (jw 7) qY))))) (w345_8 C lv)
def w345_10(C:Cx)(lv:Nat):WS:=jj (vc (qo (jg (jd 5) (jg (jd 6) jq)))) jv
def XC(C:Cx)(lv:Nat):WS:=jj (qG (j4 .Lt (jy C lv (jm (.bi .len)) (jg (jd 5) jq)) (jd 2)) (w345_9 C lv)) (w345_10 C lv)
def XA(C:Cx)(lv:Nat):WS:=jj (kz (jy C lv (jm (.ref 307)) (jg (jd 4) jq))) (XC C lv)
def Xz(C:Cx)(lv:Nat):WS:=jj (wP (qJ (jm (.ty "range")) (jg (jy C lv (jm (.bi .len)) (jg (jd 0) jq)) jq)) (jw 7) (w345_1 C lv)) (XA C lv)
def w345_14(C:Cx)(lv:Nat):WS:=jj (kz (kG C lv 209 (jd 3) (jg (jd 1) jq))) (Xz C lv)
def Xy(C:Cx)(lv:Nat):WS:=jj (jl (qo (jg (jy C lv (jm (.ref 270)) jq) (jg (vV jq) (jg (vV jq) (jg (vV (jg (vV jq) (jg (vV jq) jq))) jq))))) (yQ 4 (jK (jw 3) (jK (jw 4) (jK (jw 5) (jK (jw 6) qY)))))) (w345_14 C lv)
theorem der345(C:Cx)(lv:Nat):(rB (sto 12) ⟨C,lv,[Str.ofString "words",Str.ofString "goal",Str.ofString "wished",Str.ofString "matcher",Str.ofString "heap",Str.ofString "told",Str.ofString "asked",Str.ofString "place",Str.ofString "less",Str.ofString "stage",Str.ofString "share"],(.replicate 11 .local),k8 [12,4,0,19,15,17],0,[]⟩ (jR (jD 23))).1=Xy C lv:=by kernel_rfl!
theorem Bf.init{x:Nat->Nat->UInt64}{p:Nat->Nat->Nat}(D:Dt x p N)(hw:0<w):Bf x p N w (fun _=>0) (hpF (((List.range N).map (jW x 0)).length/2) ((List.range N).map (jW x 0))) [] [] []:=by
 have hle:((List.range N).map (jW x 0)).length/2≤((List.range N).map (jW x 0)).length:=Nat.div_le_self _ _
 have hG:∀y∈(List.range N).map (jW x 0),Ent x N y:=fun y hy=>by
  obtain ⟨k,hk,rfl⟩:=List.mem_map.mp hy
  exact ⟨0,k,by decide,List.mem_range.mp hk,rfl⟩
 have P:=jb0 _ _ hle
 have Hh:=jb1 D.lt _ _ hle hG Zz
 have hl:((List.range N).map (jW x 0)).length=N:=by rw[List.length_map,List.length_range]
 refine {nd:= ?_,mem:=fun u=> ?_,heap:=Hh,len:=by rw[P.length_eq,hl];rfl,mu:= ?_,tm:=fun k=> ?_,ts:=.nil,tmin:=fun t ht=>(nomatch ht),n0:=.nil,m0:=fun k=> ?_,n1:=.nil,m1:=fun k=> ?_,low:=fun s k j _ h=>absurd h (Nat.not_lt_zero _),fin:=fun h=>absurd h (Nat.ne_of_lt hw),lw:=Nat.zero_le _}
 ·rw[P.nodup_iff]
  refine List.Pairwise.map _ (fun a b h e=>h ?_) List.nodup_range
  unfold jW at e
  injection e with e
  injection e with _ e
  injection e with _ e
  injection e with e _
  injection e with e
  exact Int.ofNat_inj.mp e
 ·rw[P.mem_iff,List.mem_map]
  exact ⟨fun q__=>jp (fun k h1 h2=>⟨k,List.mem_range.mp h1,by decide,h2.symm⟩) q__,fun q__=>jX (fun k h1 _ h2=>⟨k,List.mem_range.mpr h1,h2.symm⟩) q__⟩
 ·rw[(P.map wg).sum_nat,List.map_map]
  have:∀n,((List.range n).map (wg∘jW x 0)).sum=3*n:=fun n=>by
   induction n with
   |zero=>rfl
   |succ n ih=>
    rw[List.range_succ,List.map_append,List.sum_append,ih]
    rfl
  rw[this]
  exact Nat.zero_add _
 ·exact ⟨fun h=>(nomatch h),fun h=>absurd h.2 (by decide)⟩
 ·exact ⟨fun h=>(nomatch h),fun h=>absurd h.2 (by decide)⟩
 ·exact ⟨fun h=>(nomatch h),fun h=>absurd h.2 (by decide)⟩
noncomputable def xsh(g:Str)(ws:List Str):Nat->Nat->UInt64
 |0,k=>sh0 g (ws.getD k nul)
 |1,k=>sh1 g (ws.getD k nul)
 |_,k=>sh2 g (ws.getD k nul)
noncomputable def tOf(x:Nat->Nat->UInt64)(k:Nat):AV:=.tup [.int (k:Int),.flt (neg (neg (x 2 k)))]
noncomputable def D5(h t as a0 a1:Addr):Addr->Bool:=fun a=>a==h||(a==t||(a==as||(a==a0||a==a1)))
structure N5(h t as a0 a1:Addr):Prop where
 ht:h≠t
 hs:h≠as
 h0:h≠a0
 h1:h≠a1
 ts:t≠as
 t0:t≠a0
 t1:t≠a1
 s0:as≠a0
 s1:as≠a1
 n01:a0≠a1
theorem kZ:D5 h t as a0 a1 a=true↔a=h∨a=t∨a=as∨a=a0∨a=a1:=by delta D5;simp
section
variable {C:Cx} {lv:Nat} {loc:Loc} {Z:Sig} {Ψ:K1} {h t as a0 a1 m d wl:Addr} {A A' g:Str} {H:List AV} {T A0 A1:List Nat} {o:Sig} {x:Nat->Nat->UInt64} {ws:List Str} {w:Nat}
structure qZ(Z:Sig)(h t as a0 a1 m d:Addr)(x:Nat->Nat->UInt64)(A g:Str)(H:List AV)(T A0 A1:List Nat)(o:Sig):Prop where
 hh:o h=some (.list H)
 ht:o t=some (.list (T.map (tOf x)))
 hs:o as=some (.list [.ref a0,.ref a1])
 h0:o a0=some (.list (A0.map fun k:Nat=>.int (k:Int)))
 h1:o a1=some (.list (A1.map fun k:Nat=>.int (k:Int)))
 M:MtK (vt o (D5 h t as a0 a1)) m d A g
 sub:j3 Z o
 hd:Z d=none
theorem qZ.dm(G:qZ Z h t as a0 a1 m d x A g H T A0 A1 o):∀a,D5 h t as a0 a1 a=true->o a≠none:=fun a e=>by
 rcases kZ.mp e with rfl|rfl|rfl|rfl|rfl
 ·rw[G.hh];simp
 ·rw[G.ht];simp
 ·rw[G.hs];simp
 ·rw[G.h0];simp
 ·rw[G.h1];simp
theorem jcW(hZ:∀a,D5 h t as a0 a1 a=true->Z a=none)(e:Z a=some v):D5 h t as a0 a1 a=false:=by
 cases q:D5 h t as a0 a1 a with
 |false=>rfl
 |true=>rw[hZ a q]at e;cases e
theorem qZ.step(G:qZ Z h t as a0 a1 m d x A g H T A0 A1 o)(hZ:∀a,D5 h t as a0 a1 a=true->Z a=none)(K:jN (vt o (D5 h t as a0 a1)) o' d)(M':MtK o' m d A' g')(e1:vt o2 (D5 h t as a0 a1)=o')(e2:∀a,D5 h t as a0 a1 a=true->o2 a=o a):qZ Z h t as a0 a1 m d x A' g' H T A0 A1 o2 where
 hh:=by rw[e2 _ (kZ.mpr (.inl rfl))];exact G.hh
 ht:=by rw[e2 _ (kZ.mpr (.inr (.inl rfl)))];exact G.ht
 hs:=by rw[e2 _ (kZ.mpr (.inr (.inr (.inl rfl))))];exact G.hs
 h0:=by rw[e2 _ (kZ.mpr (.inr (.inr (.inr (.inl rfl)))))];exact G.h0
 h1:=by rw[e2 _ (kZ.mpr (.inr (.inr (.inr (.inr rfl)))))];exact G.h1
 M:=by rw[e1];exact M'
 sub:=fun a v e=>by
  have ha:=jcW hZ e
  have hd:a≠d:=fun q=>by rw[q,G.hd]at e;cases e
  have:=K a v hd (by rw[qz ha];exact G.sub a v e)
  rw[←e1,qz ha]at this;exact this
 hd:=G.hd
theorem zG(hZ:Z h=none)(hs:j3 Z o):j3 Z (upd o h v):=fun a x e=>by rw[ji (fun q=>by rw[q,hZ]at e;cases e)];exact hs a x e
theorem qZ.putH(G:qZ Z h t as a0 a1 m d x A g H T A0 A1 o)(n:N5 h t as a0 a1)(hZ:∀a,D5 h t as a0 a1 a=true->Z a=none):qZ Z h t as a0 a1 m d x A g H' T A0 A1 (upd o h (.list H'))where
 hh:=jc
 ht:=by rw[ji (Ne.symm n.ht)];exact G.ht
 hs:=by rw[ji (Ne.symm n.hs)];exact G.hs
 h0:=by rw[ji (Ne.symm n.h0)];exact G.h0
 h1:=by rw[ji (Ne.symm n.h1)];exact G.h1
 M:=by rw[qg (kZ.mpr (.inl rfl))];exact G.M
 sub:=zG (hZ _ (kZ.mpr (.inl rfl))) G.sub
 hd:=G.hd
theorem qZ.putT(G:qZ Z h t as a0 a1 m d x A g H T A0 A1 o)(n:N5 h t as a0 a1)(hZ:∀a,D5 h t as a0 a1 a=true->Z a=none)(hL:L=T'.map (tOf x)):qZ Z h t as a0 a1 m d x A g H T' A0 A1 (upd o t (.list L))where
 hh:=by rw[ji n.ht];exact G.hh
 ht:=by rw[hL];exact jc
 hs:=by rw[ji (Ne.symm n.ts)];exact G.hs
 h0:=by rw[ji (Ne.symm n.t0)];exact G.h0
 h1:=by rw[ji (Ne.symm n.t1)];exact G.h1
 M:=by rw[qg (kZ.mpr (.inr (.inl rfl)))];exact G.M
 sub:=zG (hZ _ (kZ.mpr (.inr (.inl rfl)))) G.sub
 hd:=G.hd
theorem qZ.put0(G:qZ Z h t as a0 a1 m d x A g H T A0 A1 o)(n:N5 h t as a0 a1)(hZ:∀a,D5 h t as a0 a1 a=true->Z a=none)(hL:L=A0'.map fun k:Nat=>.int (k:Int)):qZ Z h t as a0 a1 m d x A g H T A0' A1 (upd o a0 (.list L))where
 hh:=by rw[ji n.h0];exact G.hh
 ht:=by rw[ji n.t0];exact G.ht
 hs:=by rw[ji n.s0];exact G.hs
 h0:=by rw[hL];exact jc
 h1:=by rw[ji (Ne.symm n.n01)];exact G.h1
 M:=by rw[qg (kZ.mpr (.inr (.inr (.inr (.inl rfl)))))];exact G.M
 sub:=zG (hZ _ (kZ.mpr (.inr (.inr (.inr (.inl rfl)))))) G.sub
 hd:=G.hd
theorem qZ.put1(G:qZ Z h t as a0 a1 m d x A g H T A0 A1 o)(n:N5 h t as a0 a1)(hZ:∀a,D5 h t as a0 a1 a=true->Z a=none)(hL:L=A1'.map fun k:Nat=>.int (k:Int)):qZ Z h t as a0 a1 m d x A g H T A0 A1' (upd o a1 (.list L))where
 hh:=by rw[ji n.h1];exact G.hh
 ht:=by rw[ji n.t1];exact G.ht
 hs:=by rw[ji n.s1];exact G.hs
 h0:=by rw[ji n.n01];exact G.h0
 h1:=by rw[hL];exact jc
 M:=by rw[qg (kZ.mpr (.inr (.inr (.inr (.inr rfl)))))];exact G.M
 sub:=zG (hZ _ (kZ.mpr (.inr (.inr (.inr (.inr rfl)))))) G.sub
 hd:=G.hd
def ZM(wl:Addr)(g:Str)(w:Nat)(m h t as:Addr)(ll:Loc):Prop:=ll 0=some (.ref wl)∧ll 1=some (.str g)∧ll 2=some (.int (w:Int))∧ll 3=some (.ref m)∧ll 4=some (.ref h)∧ll 5=some (.ref t)∧ll 6=some (.ref as)
def jcQ(Z:Sig)(wl:Addr)(g:Str)(ws:List Str)(w:Nat)(p:Nat->Nat->Nat)(m d h t as a0 a1:Addr)(n:Nat)(ll:Loc)(o:Sig):Prop:=
 ∃st H T A0 A1 A,ZM wl g w m h t as ll∧qZ Z h t as a0 a1 m d (xsh g ws) A g H T A0 A1 o∧Bf (xsh g ws) p ws.length w st H T A0 A1∧(H.map wg).sum=n
theorem Xt(hk:k<ws.length):(ws.map AV.str)[k]? =some (.str (ws.getD k nul)):=by
 rw[List.getElem?_map,List.getElem?_eq_getElem hk,List.getD_eq_getElem?_getD,List.getElem?_eq_getElem hk];rfl
theorem ja4{r:AV->Int}{G:AV->Prop}(hr:∀u v,G u->G v->ltA u v=decide (r u<r v))(e:H=h0::tl)(hG:∀y∈H,G y)(hv:G v)(hp:qm r H 0):(upP (H.set 0 v) 0).Perm (v::tl)∧qm r (upP (H.set 0 v) 0) 0:=by
 have hs:H.set 0 v=v::tl:=by rw[e];rfl
 have hl:0<(H.set 0 v).length:=by rw[hs];exact Nat.succ_pos _
 refine ⟨by rw[←hs];exact yi hl,UO hr hl (fun y hy=> ?_) fun i h0' hi hpar=> ?_⟩
 ·rcases zJ hy with rfl|hy
  ·exact hv
  ·exact hG y hy
 ·rw[List.length_set]at hi
  rw[kF (by lia),kF (by lia)]
  exact hp i h0' hi (Nat.zero_le _)
theorem pop_ok{r:AV->Int}{G:AV->Prop}(hr:∀u v,G u->G v->ltA u v=decide (r u<r v))(e:H=l++[v])(e2:H=h0::tl)(hG:∀y∈H,G y)(hp:qm r H 0):(if l=[]then []else upP (l.set 0 v) 0).Perm tl∧qm r (if l=[]then []else upP (l.set 0 v) 0) 0:=by
 cases l with
 |nil=>
  rw[if_pos rfl]
  rw[e]at e2
  injection e2 with _ e2
  rw[←e2]
  exact ⟨.nil,fun i h0 hi=>absurd hi (Nat.not_lt_zero _)⟩
 |cons u l'=>
  rw[if_neg (fun h=>nomatch h)]
  have et:tl=l'++[v]:=by
   rw[e]at e2
   injection e2 with _ e2
   exact e2.symm
  have hv:G v:=hG v (by rw[e];exact List.mem_append_right _ (.head _))
  have hG':∀y∈u::l',G y:=fun y hy=>hG y (by rw[e];exact List.mem_append_left _ hy)
  have hp':qm r (u::l') 0:=fun i h0 hi hs=>by
   have:=hp i h0 (by rw[e,List.length_append];exact Nat.lt_of_lt_of_le hi (Nat.le_add_right _ _)) hs
   rw[e,List.getD_eq_getElem?_getD,List.getD_eq_getElem?_getD,List.getElem?_append_left hi,List.getElem?_append_left (Nat.lt_of_lt_of_le (Nat.lt_of_le_of_lt (Nat.div_le_self _ _) (Nat.sub_lt h0 Nat.one_pos)) (Nat.le_of_lt hi))]at this
   rw[List.getD_eq_getElem?_getD,List.getD_eq_getElem?_getD]
   exact this
  have:=ja4 hr (v:=v) (rfl:u::l'=u::l') hG' hv hp'
  refine ⟨this.1.trans ?_,this.2⟩
  rw[et]
  exact (List.perm_append_singleton v l').symm
theorem V9(k:Ψ (.flt (Float64.sub a b)) Z):wY .Sub (.flt a) (.flt b) Z Ψ:=k
theorem jcq(e:H=jW x s k::tl):H[0]? =some (.tup [.flt (neg (x s k)),.int (s:Int),.int (k:Int)]):=by rw[e];rfl
theorem vc345t(X:PC C){p:Nat->Nat->Nat}{st:Nat->Nat}{Φ:Fl->Loc->Sig->Prop}(D:Dt (xsh g ws) p ws.length)(hZ:∀a,D5 h t as a0 a1 a=true->Z a=none)(n5:N5 h t as a0 a1)(hw4:w≤50)(hE:ZM wl g w m h t as ll)(G:qZ Z h t as a0 a1 m d (xsh g ws) A g H T A0 A1 o)(B:Bf (xsh g ws) p ws.length w st H T A0 A1)(hn:(H.map wg).sum=n)(hTw:T.length<w)(hk:k<ws.length)(hs:st k=2)(hH:H=jW (xsh g ws) (st k) k::tl)(hm:∀j,j<ws.length->st j<3->rk p (jW (xsh g ws) (st k) k)≤rk p (jW (xsh g ws) (st j) j))
  (e7:ll 7=some (.int (k:Int))) (e8:ll 8=some (.flt (neg (xsh g ws 2 k)))):ZZ C (lv+5) ll o (q9 jv (kq (jcQ Z wl g ws w p m d h t as a0 a1) Φ n)):=by
 have hne:H≠[]:=fun e=>by rw[hH]at e;cases e
 have hl:=(List.dropLast_concat_getLast hne).symm
 generalize H.dropLast=l at hl
 generalize H.getLast hne=v at hl
 have hEnt:∀y∈H,Ent (xsh g ws) ws.length y:=fun y hy=>by
  obtain ⟨j,h1,h2,h3⟩:=(B.mem y).mp hy
  exact ⟨_,j,h2,h1,h3⟩
 have dn:=D.n
 have hlen:l.length≤999:=by
  have h1:=B.len
  rw[hl,List.length_append]at h1
  exact Nat.le_trans (Nat.le_of_add_right_le (Nat.le_of_add_right_le (Nat.le_of_eq h1))) (Nat.le_trans dn (of_decide_eq_true rfl))
 have P:=pop_ok D.lt hl hH hEnt B.heap
 have hh:=G.hh
 rw[hl]at hh
 have hhp:∀y∈l,Hp y:=fun y hy=>D.hp (hEnt y (by rw[hl];exact List.mem_append_left _ hy))
 have hv:Hp v:=D.hp (hEnt v (by rw[hl];exact List.mem_append_right _ (.head _)))
 refine jh<|jU<|ke (jA rfl)<|jf<|ja hE.2.2.2.2.1<|jo ⟨jA rfl,spec293 X _ hh hlen hhp hv ?_⟩
 generalize (if l=[]then []else upP (l.set 0 v) 0)=H' at P⊢
 have G1:=G.putH n5 hZ (H':=H')
 have B1:=B.tell D hk hs hH hm hTw P.1 P.2
 have hmu:(H'.map wg).sum+1=(H.map wg).sum:=by
  have h1:=B.mu
  have h2:=B1.mu
  rw[List.length_append]at h2
  exact mu3 h2 h1
 have hT:T.length≤1000:=Nat.le_trans (Nat.le_of_lt hTw) (Nat.le_trans hw4 (of_decide_eq_true rfl))
 refine jb<|jh<|jU<|jZ<|ja hE.2.2.2.2.2.1 ⟨⟨_,G1.ht⟩,jf<|kA<|jf<|ja e7<|jf<|jE<|js<|ja e8<|V9<|jo ⟨Nat.le_of_ble_eq_true rfl,jo ⟨_,G1.ht,by rw[List.length_map];exact hT,jb<|jt<|jb<|jt<|vd (hn▸Nat.lt_of_succ_le (Nat.le_of_eq hmu)) ⟨_,H',T++[k],A0,A1,A,hE,G1.putT n5 hZ (by rw[List.map_append];rfl),B1,rfl⟩⟩⟩⟩
theorem vc345a(X:PC C){p:Nat->Nat->Nat}{st:Nat->Nat}{Φ:Fl->Loc->Sig->Prop}(D:Dt (xsh g ws) p ws.length)(hZ:∀a,D5 h t as a0 a1 a=true->Z a=none)(n5:N5 h t as a0 a1)(hwl:Z wl=some (.list (ws.map .str)))(h248:Z 248=some (.tab 411 22))(hg:g.length<8)(hws:∀u∈ws,u.length<8)(hE:ZM wl g w m h t as ll)(G:qZ Z h t as a0 a1 m d (xsh g ws) A g H T A0 A1 o)(B:Bf (xsh g ws) p ws.length w st H T A0 A1)(hn:(H.map wg).sum=n)(hTw:T.length<w)(hk:k<ws.length)(hs:st k<2)(hH:H=jW (xsh g ws) (st k) k::tl)(hm:∀j,j<ws.length->st j<3->rk p (jW (xsh g ws) (st k) k)≤rk p (jW (xsh g ws) (st j) j))
  (e7:ll 7=some (.int (k:Int))) (e9:ll 9=some (.int ((st k:Nat):Int))):ZW C (lv+5) ll o (q9 jv (kq (jcQ Z wl g ws w p m d h t as a0 a1) Φ n)):=by
 have dn:=D.n
 have hEnt:∀y∈H,Ent (xsh g ws) ws.length y:=fun y hy=>by
  obtain ⟨j,h1,h2,h3⟩:=(B.mem y).mp hy
  exact ⟨_,j,h2,h1,h3⟩
 obtain ⟨E0,E1,E2,E3,E4,E5,E6⟩:=hE
 obtain ⟨f,hd,_⟩:=G.M.ex
 have hku:(ws.getD k nul).length<8:=hws _ (by rw[List.getD_eq_getElem?_getD,List.getElem?_eq_getElem hk];exact List.getElem_mem _)
 refine jh<|jU<|kx<|ja E3 ⟨m,d,f,rfl,jG _ _ G.M.im,jG _ _ hd,jf<|ka<|ja E0<|ja e7<|jO (G.sub _ _ hwl) (Xt hk) (by rw[List.length_map];exact Nat.le_trans dn (of_decide_eq_true rfl))<|jo<|jC.frame _ G.dm<|jby X G.M fun o1 K1 M1 o2 q1 q2=>jb ?_⟩
 have G1:=G.step hZ K1 M1 q1 q2
 clear G K1 M1 q1 q2 hd
 have R:=ja4 D.lt hH hEnt (v:=jW (xsh g ws) (st k+1) k) ⟨_,k,Nat.succ_lt_succ hs,hk,rfl⟩ B.heap
 have B1:=B.ask D hk hs hH hm hTw R.1 R.2
 have hlH:0<H.length∧H.length≤1000:=by
  have h1:=B.len
  rw[hH]at h1⊢
  exact ⟨Nat.succ_pos _,Nat.le_trans (Nat.le_of_add_right_le (Nat.le_of_eq h1)) (Nat.le_trans dn (of_decide_eq_true rfl))⟩
 have hB:=B.mu
 have hAA:A0.length+A1.length≤1000:=Nat.le_trans (Nat.le_of_add_right_le (Nat.le_of_add_right_le (Nat.le_of_eq hB))) (Nat.le_trans (Nat.mul_le_mul_left 3 dn) (of_decide_eq_true rfl))
 have rest:∀o3,qZ Z h t as a0 a1 m d (xsh g ws) (ws.getD k nul) g H T A0 A1 o3->ZX C (lv+5) (upd ll 10 (.flt (xsh g ws (st k+1) k))) o3 (q9 jv (kq (jcQ Z wl g ws w p m d h t as a0 a1) Φ n)):=fun o3 G3=>by
  have fin:∀{o4 A0' A1'},qZ Z h t as a0 a1 m d (xsh g ws) (ws.getD k nul) g H T A0' A1' o4->Bf (xsh g ws) p ws.length w (fun j=>if j=k then st k+1 else st j) (upP (H.set 0 (jW (xsh g ws) (st k+1) k)) 0) T A0' A1'->A0'.length+A1'.length=A0.length+A1.length+1->ZY C (lv+5) (upd ll 10 (.flt (xsh g ws (st k+1) k))) o4 (q9 jv (kq (jcQ Z wl g ws w p m d h t as a0 a1) Φ n)):=fun{o4 A0' A1'} G4 B4 hl=>by
   have h4:=B4.mu
   have hv:Hp (jW (xsh g ws) (st k+1) k):=D.hp ⟨_,k,Nat.succ_lt_succ hs,hk,rfl⟩
   refine jh<|jU<|ke (jA rfl)<|jf<|ja E4<|jf<|kA<|jf<|jE<|js<|ja rfl<|V9<|jf<|jE<|ja e9<|js<|jP (c:=((st k+1:Nat):Int)) rfl<|jf<|ja e7<|jo ⟨Nat.le_of_ble_eq_true rfl,jo ⟨jA rfl,spec300 X _ G4.hh hlH.1 hlH.2 (fun y hy=>D.hp (hEnt y hy)) hv ?_⟩⟩
   exact jb<|jt<|jb<|jt<|vd (hn▸Nat.lt_of_succ_le (Nat.le_of_eq (mu4 h4 hB hl))) ⟨_,upP (H.set 0 (jW (xsh g ws) (st k+1) k)) 0,T,A0',A1',_,⟨E0,E1,E2,E3,E4,E5,E6⟩,G4.putH n5 hZ,B4,rfl⟩
  by_cases e:st k=0
  ·rw[if_pos e,if_pos e]at B1
   have e9':ll 9=some (.int ((0:Nat):Int)):=by rw[e9,e]
   have hlen:A0.length≤1000:=Nat.le_of_add_right_le hAA
   exact jh<|jU<|jZ<|ka<|ja E6<|ja e9'<|jO G3.hs (i:=0) rfl (Nat.le_of_ble_eq_true rfl) ⟨⟨_,G3.h0⟩,jf<|ja e7<|jo ⟨_,G3.h0,by rw[List.length_map];exact hlen,jb<|fin (G3.put0 n5 hZ (by rw[List.map_append];rfl)) B1 (by rw[List.length_append];exact Nat.add_right_comm _ 1 _)⟩⟩
  ·rw[if_neg e,if_neg e]at B1
   have e1:st k=1:=Nat.le_antisymm (Nat.le_of_lt_succ hs) (Nat.pos_of_ne_zero e)
   have e9':ll 9=some (.int ((1:Nat):Int)):=by rw[e9,e1]
   have hlen:A1.length≤1000:=Nat.le_of_add_left_le hAA
   exact jh<|jU<|jZ<|ka<|ja E6<|ja e9'<|jO G3.hs (i:=1) rfl (Nat.le_of_ble_eq_true rfl) ⟨⟨_,G3.h1⟩,jf<|ja e7<|jo ⟨_,G3.h1,by rw[List.length_map];exact hlen,jb<|fin (G3.put1 n5 hZ (by rw[List.map_append];rfl)) B1 (by rw[List.length_append];rfl)⟩⟩
 obtain ⟨f,hd,_⟩:=G1.M.ex
 have hD248:vt o2 (D5 h t as a0 a1) 248=some (.tab 411 22):=by rw[qz (jcW hZ h248)];exact G1.sub _ _ h248
 refine jh<|ju<|i_ife<|jz<|ja e9<|js<|Vm rfl ⟨fun hb=> ?_,fun hb=> ?_⟩
 ·have e:st k=0:=Int.ofNat_inj.mp (eq_of_beq hb)
  refine kx<|ja E3 ⟨m,d,f,rfl,jG _ _ G1.M.im,jG _ _ hd,jo<|jC.frame _ G1.dm<|X9 X G1.M hku hg fun o3 K3 M3 o4 q3 q4=>jr<|jb ?_⟩
  have G3:=G1.step hZ K3 M3 q3 q4
  have:=rest _ G3
  rw[e]at this
  exact this
 ·have e:st k=1:=Nat.le_antisymm (Nat.le_of_lt_succ hs) (Nat.pos_of_ne_zero fun q=>beq_eq_false_iff_ne.mp hb (congrArg Nat.cast q))
  refine kx<|ja E3 ⟨m,d,f,rfl,jG _ _ G1.M.im,jG _ _ hd,jo<|jC.frame _ G1.dm<|O4 X G1.M hku hg hD248 fun o3 K3 M3 o4 q3 q4=>jr<|jb ?_⟩
  have G3:=G1.step hZ K3 M3 q3 q4
  have:=rest _ G3
  rw[e]at this
  exact this
def Gt(Z:Sig)(g:Str)(ws:List Str)(w:Nat)(p:Nat->Nat->Nat)(Ψ:K1):Prop:=∀(t as a0 a1:Addr) st H T A0 A1 o,j3 Z o->T.length=w->Bf (xsh g ws) p ws.length w st H T A0 A1->o t=some (.list (T.map (tOf (xsh g ws))))->o as=some (.list [.ref a0,.ref a1])->o a0=some (.list (A0.map fun k:Nat=>.int (k:Int)))->o a1=some (.list (A1.map fun k:Nat=>.int (k:Int)))->Ψ (.tup [.ref t,.ref as]) o
theorem vc345l(X:PC C){p:Nat->Nat->Nat}{st:Nat->Nat}(D:Dt (xsh g ws) p ws.length)(hZ:∀a,D5 h t as a0 a1 a=true->Z a=none)(n5:N5 h t as a0 a1)(hwl:Z wl=some (.list (ws.map .str)))(h248:Z 248=some (.tab 411 22))(hg:g.length<8)(hws:∀u∈ws,u.length<8)(hwN:w≤ws.length)(hE:ZM wl g w m h t as ll)(G:qZ Z h t as a0 a1 m d (xsh g ws) A g H T A0 A1 o)(B:Bf (xsh g ws) p ws.length w st H T A0 A1)(q:Gt Z g ws w p Ψ):XC C (lv+5) ll o (j9 Ψ):=by
 have dn:=D.n
 refine jh<|vZ (jcQ Z wl g ws w p m d h t as a0 a1) _ ⟨st,H,T,A0,A1,A,hE,G,B,rfl⟩ ?_
 clear hE G B
 rintro n ll o ⟨st,H,T,A0,A1,A,hE,G,B,hn⟩
 have htl:(T.map (tOf (xsh g ws))).length≤1000:=by rw[List.length_map];exact Nat.le_trans B.lw (Nat.le_trans hwN (Nat.le_trans dn (of_decide_eq_true rfl)))
 refine jz<|Kr hE.2.2.2.2.2.1 (jS G.ht) htl<|ja hE.2.2.1<|yC rfl ⟨fun hb=>jb ?_,fun hb=> ?_⟩
 ·rw[List.length_map]at hb
  have hb:=fun q=>of_decide_eq_false hb (Int.ofNat_lt.mpr q)
  have hw:T.length=w:=Nat.le_antisymm B.lw (Nat.le_of_not_lt hb)
  exact jh<|qu<|kA<|jf<|ja hE.2.2.2.2.2.1<|jf<|ja hE.2.2.2.2.2.2<|jo ⟨Nat.le_of_ble_eq_true rfl,q t as a0 a1 st H T A0 A1 o G.sub hw B G.ht G.hs G.h0 G.h1⟩
 ·rw[List.length_map]at hb
  have hTw:=Int.ofNat_lt.mp (of_decide_eq_true hb)
  obtain ⟨k,tl,hk,hs,hH,hm⟩:=B.head D hTw hwN
  have hlH:H.length≤1000:=Nat.le_trans (Nat.le_of_add_right_le (Nat.le_of_eq B.len)) (Nat.le_trans dn (of_decide_eq_true rfl))
  refine jh<|ju<|ka<|ja hE.2.2.2.2.1<|js<|jO G.hh (i:=0) (jcq hH) hlH ⟨_,rfl,rfl,_,_,rfl,_,_,rfl,_,_,rfl,jr<|wf<|jb<|jh<|qk<|jz<|ja rfl<|js<|Vm rfl ⟨fun hb=> ?_,fun hb=> ?_⟩⟩
  ·have e:st k=2:=Int.ofNat_inj.mp (eq_of_beq hb)
   exact vc345t X D hZ n5 (Nat.le_trans hwN dn) hE G B hn hTw hk e hH hm rfl (by show some _=_;rw[e])
  ·have e:st k<2:=Nat.lt_of_le_of_ne (Nat.le_of_lt_succ hs) fun q=>beq_eq_false_iff_ne.mp hb (congrArg Nat.cast q)
   exact vc345a X D hZ n5 hwl h248 hg hws hE G B hn hTw hk e hH hm rfl rfl
theorem vc345f(X:PC C){p:Nat->Nat->Nat}(D:Dt (xsh g ws) p ws.length)(hZ:∀a,D5 h t as a0 a1 a=true->Z a=none)(n5:N5 h t as a0 a1)(hwl:Z wl=some (.list (ws.map .str)))(h248:Z 248=some (.tab 411 22))(hg:g.length<8)(hws:∀u∈ws,u.length<8)(hw0:0<w)(hwN:w≤ws.length)(hE:ZM wl g w m h t as ll)(G:qZ Z h t as a0 a1 m d (xsh g ws) A g [] [] [] [] o)(q:Gt Z g ws w p Ψ):Xz C (lv+5) ll o (j9 Ψ):=by
 have dn:=D.n
 have hN:(ws.map AV.str).length≤1000:=by rw[List.length_map];exact Nat.le_trans dn (of_decide_eq_true rfl)
 refine jh<|jbU (n:=ws.length) (Nat.le_trans dn (of_decide_eq_true rfl)) (fun Ψ' k=>Kr hE.1 (jS (G.sub _ _ hwl)) hN (by rw[List.length_map];exact k)) (fun k ll o=>ZM wl g w m h t as ll∧∃A,qZ Z h t as a0 a1 m d (xsh g ws) A g ((List.range k).map (jW (xsh g ws) 0)) [] [] [] o) ⟨hE,A,G⟩ ?_ ?_
 ·clear G hE
  rintro k ll o ⟨⟨E0,E1,E2,E3,E4,E5,E6⟩,A,G⟩ hk
  obtain ⟨f,hd,_⟩:=G.M.ex
  have hku:(ws.getD k nul).length<8:=hws _ (by rw[List.getD_eq_getElem?_getD,List.getElem?_eq_getElem hk];exact List.getElem_mem _)
  refine jh<|jU<|kx<|ja E3 ⟨m,d,f,rfl,jG _ _ G.M.im,jG _ _ hd,jf<|ka<|ja E0<|ja rfl<|jO (G.sub _ _ hwl) (Xt hk) hN<|jo<|jC.frame _ G.dm<|jby X G.M fun o1 K1 M1 o2 q1 q2=>jb ?_⟩
  have G1:=G.step hZ K1 M1 q1 q2
  obtain ⟨f,hd,hf,_⟩:=G1.M.ex
  refine jh<|jU<|jZ<|ja E4 ⟨⟨_,G1.hh⟩,jf<|kA<|jf<|jE<|js<|kx<|ja E3 ⟨m,d,f,rfl,jG _ _ G1.M.im,jG _ _ hd,jo<|X8 X (jG _ _ G1.M.im) (jG _ _ hd) hf hku hg<|V9<|jf<|js<|jf<|ja rfl<|jo ⟨Nat.le_of_ble_eq_true rfl,jo ⟨_,G1.hh,by rw[List.length_map,List.length_range];exact Nat.le_trans (Nat.le_of_lt hk) (Nat.le_trans dn (of_decide_eq_true rfl)),jb<|jt<|kM (Φ:=q9 (XA C (lv+5)) (j9 Ψ)) ⟨⟨E0,E1,E2,E3,E4,E5,E6⟩,ws.getD k nul,?_⟩⟩⟩⟩⟩
  rw[List.range_succ,List.map_append]
  exact G1.putH n5 hZ
 ·clear G hE
  rintro ll o ⟨hE,A,G⟩
  have hl:((List.range ws.length).map (jW (xsh g ws) 0)).length≤1000:=by rw[List.length_map,List.length_range];exact Nat.le_trans dn (of_decide_eq_true rfl)
  refine jb<|jh<|jU<|ke (jA rfl)<|jf<|ja hE.2.2.2.2.1<|jo ⟨jA rfl,spec307 X _ G.hh hl (fun y hy=> ?_)<|jb<|vc345l X D hZ n5 hwl h248 hg hws hwN hE (G.putH n5 hZ) (Bf.init D hw0) q⟩
  obtain ⟨k,hk,rfl⟩:=List.mem_map.mp hy
  exact D.hp ⟨0,k,by decide,List.mem_range.mp hk,rfl⟩
theorem vc345(X:PC C){p:Nat->Nat->Nat}(D:Dt (xsh g ws) p ws.length)(hwl:Z wl=some (.list (ws.map .str)))(h248:Z 248=some (.tab 411 22))(hg:g.length<8)(hga:g.cps.all (·<128)=true)(hws:∀u∈ws,u.length<8)(hw0:0<w)(hwN:w≤ws.length)(e0:ll 0=some (.ref wl))(e1:ll 1=some (.str g))(e2:ll 2=some (.int (w:Int)))(q:Gt Z g ws w p Ψ):Xy C (lv+5) ll Z (j9 Ψ):=by
 refine jh<|ju<|kA<|jf<|ke (jA rfl)<|jo ⟨jA rfl,X6 X fun m d o hm hd hs M=> ?_⟩
 refine jf<|qS<|jo ⟨Nat.le_of_ble_eq_true rfl,fun h hh=>jf<|qS<|jo ⟨Nat.le_of_ble_eq_true rfl,fun t ht=> ?_⟩⟩
 refine jf<|qS<|jf<|qS<|jo ⟨Nat.le_of_ble_eq_true rfl,fun a0 h0=>jf<|qS<|jo ⟨Nat.le_of_ble_eq_true rfl,fun a1 h1=>jo ⟨Nat.le_of_ble_eq_true rfl,fun as has=>jo ⟨Nat.le_of_ble_eq_true rfl,_,rfl,rfl,_,_,rfl,_,_,rfl,_,_,rfl,_,_,rfl,jr<|wf<|jb ?_⟩⟩⟩⟩
 have nx:∀{τ:Sig} {a b:Addr} {v:AO},upd τ a v b=none->b≠a∧τ b=none:=fun{τ a b v} e=>by
  by_cases q:b=a
  ·rw[q,jc]at e;cases e
  ·exact ⟨q,by rw[ji q]at e;exact e⟩
 have ht':=nx ht
 have h0a:=nx h0
 have h0b:=nx h0a.2
 have h1a:=nx h1
 have h1b:=nx h1a.2
 have h1c:=nx h1b.2
 have hsa:=nx has
 have hsb:=nx hsa.2
 have hsc:=nx hsb.2
 have hsd:=nx hsc.2
 have n5:N5 h t as a0 a1:=⟨Ne.symm ht'.1,Ne.symm hsd.1,Ne.symm h0b.1,Ne.symm h1c.1,Ne.symm hsc.1,Ne.symm h0a.1,Ne.symm h1b.1,hsb.1,hsa.1,Ne.symm h1a.1⟩
 have hoD:∀a,D5 h t as a0 a1 a=true->o a=none:=fun a e=>by
  rcases kZ.mp e with rfl|rfl|rfl|rfl|rfl
  ·exact hh
  ·exact ht'.2
  ·exact hsd.2
  ·exact h0b.2
  ·exact h1c.2
 have hZ:∀a,D5 h t as a0 a1 a=true->Z a=none:=fun a e=>by
  cases e':Z a with
  |none=>rfl
  |some v=>have:=hoD a e;rw[hs a v e']at this;cases this
 have hcut:vt o (D5 h t as a0 a1)=o:=by
  funext a
  delta vt
  by_cases e:D5 h t as a0 a1 a=true
  ·rw[if_pos e,hoD a e]
  ·rw[if_neg e]
 have G:qZ Z h t as a0 a1 m d (xsh g ws) nul nul [] [] [] [] (upd (upd (upd (upd (upd o h (.list [])) t (.list [])) a0 (.list [])) a1 (.list [])) as (.list [.ref a0,.ref a1])):={
  hh:=by rw[ji n5.hs,ji n5.h1,ji n5.h0,ji n5.ht];exact jc
  ht:=by rw[ji n5.ts,ji n5.t1,ji n5.t0];exact jc
  hs:=jc
  h0:=by rw[ji (Ne.symm n5.s0),ji n5.n01];exact jc
  h1:=by rw[ji (Ne.symm n5.s1)];exact jc
  M:=by
   rw[qg (kZ.mpr (.inr (.inr (.inl rfl)))),qg (kZ.mpr (.inr (.inr (.inr (.inr rfl))))),qg (kZ.mpr (.inr (.inr (.inr (.inl rfl))))),qg (kZ.mpr (.inr (.inl rfl))),qg (kZ.mpr (.inl rfl)),hcut]
   exact M
  sub:=fun a v e=>je has (je h1 (je h0 (je ht (je hh (hs a v e)))))
  hd:=hd}
 generalize upd (upd (upd (upd (upd o h (.list [])) t (.list [])) a0 (.list [])) a1 (.list [])) as (.list [.ref a0,.ref a1])=O at G
 obtain ⟨f,hdf,_⟩:=G.M.ex
 refine jh<|jU<|kx<|ja rfl ⟨m,d,f,rfl,jG _ _ G.M.im,jG _ _ hdf,jf<|ja e1<|jo<|jC.frame _ G.dm<|mt209 X G.M hg hga fun o1 K1 M1 o2 q1 q2=>jb<|vc345f X D hZ n5 hwl h248 hg hws hw0 hwN ⟨e0,e1,e2,rfl,rfl,rfl,rfl⟩ (G.step hZ K1 M1 q1 q2) q⟩
theorem spec345(X:PC C){p:Nat->Nat->Nat}(D:Dt (xsh g ws) p ws.length)(hwl:Z wl=some (.list (ws.map .str)))(h248:Z 248=some (.tab 411 22))(hg:g.length<8)(hga:g.cps.all (·<128)=true)(hws:∀u∈ws,u.length<8)(hw0:0<w)(hwN:w≤ws.length)(q:Gt Z g ws w p Ψ):jC C (lv+6) (.ref 345) [.ref wl,.str g,.int (w:Int)] Z Ψ:=
 jM X (X.fn 11 rfl) chk345 rfl (Xm fun _ _ _ _=>rfl) fun A env x1 x2 x3 cs z k T hcd hcl hcn hcf R tk=>SpB.use (kj ⟨_,_,_,_,_,k,T⟩ (der345 _ _)) R tk (vc345 X D hwl h248 hg hga hws hw0 hwN rfl rfl rfl q)
end
end
def abc(l:List Nat):Prop:=∀c∈l,c=97∨c=98∨c=99
noncomputable def bo3(a b:List Nat):Nat:=min (a.count 97) (b.count 97)+min (a.count 98) (b.count 98)+min (a.count 99) (b.count 99)
noncomputable def UF(l:List Nat):Nat:=l.count 97+l.count 98+l.count 99
theorem OM:UF (x::l)=(if x=97 then 1 else 0)+(if x=98 then 1 else 0)+(if x=99 then 1 else 0)+UF l:=by
 delta UF
 simp only[List.count_cons,List.count_cons,List.count_cons]
 simp only[beq_iff_eq]
 lia
theorem YJ:∀l:List Nat,UF l≤l.length:=by
 intro v__
 induction v__ with
 |nil=>
  exact Nat.le_refl _
 |cons x l ih=>
  simp only[OM,List.length_cons]
  have:=ih
  by_cases h1:x=97
  ·subst h1;simp;lia
  ·by_cases h2:x=98
   ·subst h2;simp;lia
   ·rw[if_neg h1,if_neg h2];split<;>lia
theorem jcy:∀{l:List Nat},abc l->UF l=l.length:=by
 intro v__
 induction v__ with
 |nil=>
  intro _
  exact rfl
 |cons x l ih=>
  intro h
  simp only[OM,List.length_cons,ih fun c hc=>h c (List.mem_cons_of_mem _ hc)]
  rcases h x (.head _)with rfl|rfl|rfl<;>simp<;>lia
theorem bo3_le:bo3 a b≤UF a∧bo3 a b≤UF b:=by
 exact ⟨Nat.add_le_add (Nat.add_le_add (Nat.min_le_left _ _) (Nat.min_le_left _ _)) (Nat.min_le_left _ _),Nat.add_le_add (Nat.add_le_add (Nat.min_le_right _ _) (Nat.min_le_right _ _)) (Nat.min_le_right _ _)⟩
theorem jcF(hy:y=97∨y=98∨y=99):bo3 (a++[y]) b=bo3 a b+if a.count y<b.count y then 1 else 0:=by
 delta bo3
 rcases hy with rfl|rfl|rfl
 ·simp
  split<;>lia
 ·simp
  split<;>lia
 ·simp
  split<;>lia
theorem mQ_bo3(h:abc a):∀i,i≤a.length->mQ b a i=bo3 (a.take i) b:=by
 intro v__
 induction v__ with
 |zero=>
  intro _
  show 0=bo3 [] b;delta bo3;simp
 |succ i ih=>
  intro hi
  haveI hg:a[i]? =some (a.getD i 0):=by rw[List.getD_eq_getElem?_getD,List.getElem?_eq_getElem hi];rfl
  rw[mQ_s,ih (Nat.le_of_succ_le hi),qE hg,jcF (h _ (List.mem_of_getElem? hg))]
theorem bo3_app:UF m+bo3 a1 b1+bo3 a2 b2≤bo3 (a1++(m++a2)) (b1++(m++b2)):=by
 haveI key:∀u v s u' v':Nat,s+min u u'+min v v'≤min (u+(s+v)) (u'+(s+v')):=fun u v s u' v'=>by omega
 delta bo3 UF
 simp only[List.count_append]
 have h1:=key (a1.count 97) (a2.count 97) (m.count 97) (b1.count 97) (b2.count 97)
 have h2:=key (a1.count 98) (a2.count 98) (m.count 98) (b1.count 98) (b2.count 98)
 have h3:=key (a1.count 99) (a2.count 99) (m.count 99) (b1.count 99) (b2.count 99)
 generalize min (a1.count 97+(m.count 97+a2.count 97)) (b1.count 97+(m.count 97+b2.count 97))=x1 at h1⊢
 generalize min (a1.count 98+(m.count 98+a2.count 98)) (b1.count 98+(m.count 98+b2.count 98))=x2 at h2⊢
 generalize min (a1.count 99+(m.count 99+a2.count 99)) (b1.count 99+(m.count 99+b2.count 99))=x3 at h3⊢
 lia
theorem jbQ:∀{n:Nat} {a b:List Nat},abc a->wy n a b≤bo3 a b:=by
 intro v__
 induction v__ with
 |zero=>
  intro _ _ _
  exact Nat.zero_le _
 |succ n ih=>
  intro a b h
  rw[vY]
  by_cases e:(j8 a b).1=0
  ·rw[if_pos e];exact Nat.zero_le _
  ·rw[if_neg e]
   have B:=(yN (a:=a) (b:=b)).blk
   generalize j8 a b=r at B⊢
   obtain ⟨s,p,q⟩:=r
   have ea:a=a.take p++((a.drop p).take s++a.drop (p+s)):=by
    rw[←List.drop_drop,List.take_append_drop,List.take_append_drop]
   have eb:b=b.take q++((a.drop p).take s++b.drop (q+s)):=by
    have:(a.drop p).take s=(b.drop q).take s:=by
     apply List.ext_getElem?
     intro t
     by_cases ht:t<s
     ·simp only[List.getElem?_take_of_lt ht,List.getElem?_take_of_lt ht,List.getElem?_drop,List.getElem?_drop]
      exact B.eq t ht
     ·simp only[List.getElem?_take_eq_none (Nat.le_of_not_lt ht),List.getElem?_take_eq_none (Nat.le_of_not_lt ht)]
    rw[this,←List.drop_drop,List.take_append_drop,List.take_append_drop]
   have h1:=ih (a:=a.take p) (b:=b.take q) fun c hc=>h c (List.mem_of_mem_take hc)
   have h2:=ih (a:=a.drop (p+s)) (b:=b.drop (q+s)) fun c hc=>h c (List.mem_of_mem_drop hc)
   have h3:=bo3_app (a1:=a.take p) (a2:=a.drop (p+s)) (b1:=b.take q) (b2:=b.drop (q+s)) (m:=(a.drop p).take s)
   rw[←ea,←eb,jcy fun c hc=>h c (List.mem_of_mem_drop (List.mem_of_mem_take hc))]at h3
   have hl:((a.drop p).take s).length=s:=by
    have:=B.p2
    simp only[List.length_take,List.length_drop]
    dsimp only at this
    lia
   rw[hl]at h3
   lia
theorem Yk(h:c≤d):pt c s≤pt d s:=by
 delta pt
 split
 ·exact Nat.le_refl _
 ·exact Nat.div_le_div_right (Nat.mul_le_mul_left _ h)
noncomputable def ppt(g:Str)(ws:List Str)(s k:Nat):Nat:=(pts (ws.getD k nul) g).getD s 0
theorem ZS(hg:g.length<8)(hw:∀u∈ws,u.length<8∧abc u.cps.toList)(hN:ws.length≤50):Dt (xsh g ws) (ppt g ws) ws.length:=by
 have key:∀k,k<ws.length->(ws.getD k nul).length<8∧abc (ws.getD k nul).cps.toList:=fun k hk=>hw _ (by rw[List.getD_eq_getElem?_getD,List.getElem?_eq_getElem hk];exact List.getElem_mem _)
 have fact:∀{u:Str},u.length<8->abc u.cps.toList->mQ g.cps.toList u.cps.toList u.length=Ok u g∧kept u.cps.toList g.cps.toList≤Ok u g∧Ok u g≤min u.length g.length:=fun{u} hu ha=>by
  haveI e:Ok u g=bo3 u.cps.toList g.cps.toList:=rfl
  have h1:=bo3_le (a:=u.cps.toList) (b:=g.cps.toList)
  refine ⟨?_,jbQ ha,?_⟩
  ·simp only[e,kI,mQ_bo3 ha _ (Nat.le_refl _),List.take_length]
  ·exact Nat.le_min.mpr ⟨Nat.le_trans h1.1 (YJ u.cps.toList),Nat.le_trans h1.2 (YJ g.cps.toList)⟩
 refine ⟨fun s k hs hk=> ?_,fun k hk=> ?_,fun k hk=> ?_,hN⟩
 ·obtain ⟨hu,ha⟩:=key k hk
  refine wO (fun f1 f2 f3=> ?_) (fact hu ha)
  refine lt3 hs (Sh.of (by lia) (by lia)) ?_ (Sh.of (by lia) (by lia))
  show Sh (sh1 g _) (pt (Ok _ g) _)
  exact f1▸(Sh.of (by lia) (by lia))
 ·obtain ⟨hu,ha⟩:=key k hk
  exact Yk (fact hu ha).2.2
 ·obtain ⟨hu,ha⟩:=key k hk
  exact Yk (fact hu ha).2.1
section
theorem srt{f:Nat->AV}{κ:Nat->Int}(hlt:∀a∈L,∀b∈L,ltA (f a) (f b)=decide (κ a<κ b)):∃S:List Nat,S.Perm L∧S.Pairwise (fun a b=>κ a≤κ b)∧jT ltA false (L.map f)=S.map f:=by
 obtain ⟨S,e,P⟩:=U6 (f:=f) (qp (lt:=ltA) (b:=false) (l:=L.map f))
 refine ⟨S,P,?_,e⟩
 have hs:=KV ltA .none (L.map f) (fun x y hx hy h=> ?_) fun x y z hx hy hz h1 h2=> ?_
 ·have e':qF ltA .none (L.map f)=S.map f:=e
  rw[e',List.pairwise_map]at hs
  refine hs.imp_of_mem fun{a b} ha hb h=> ?_
  rw[hlt b (P.mem_iff.mp hb) a (P.mem_iff.mp ha)]at h
  exact Int.not_lt.mp (of_decide_eq_false h)
 ·obtain ⟨a,ha,rfl⟩:=List.mem_map.mp hx
  obtain ⟨b,hb,rfl⟩:=List.mem_map.mp hy
  rw[hlt a ha b hb]at h
  rw[hlt b hb a ha]
  exact decide_eq_false (Int.not_lt.mpr (Int.le_of_lt (of_decide_eq_true h)))
 ·obtain ⟨a,ha,rfl⟩:=List.mem_map.mp hx
  obtain ⟨b,hb,rfl⟩:=List.mem_map.mp hy
  obtain ⟨c,hc,rfl⟩:=List.mem_map.mp hz
  rw[hlt b hb a ha]at h1
  rw[hlt c hc b hb]at h2
  rw[hlt c hc a ha]
  exact decide_eq_false (Int.not_lt.mpr (Int.le_trans (Int.not_lt.mp (of_decide_eq_false h1)) (Int.not_lt.mp (of_decide_eq_false h2))))
theorem jaB{f:Nat->AV}{κ:Nat->Int}{L S:List Nat}(hlt:∀a∈L,∀b∈L,ltA (f a) (f b)=decide (κ a<κ b))(inj:∀a∈L,∀b∈L,κ a=κ b->a=b)(P:S.Perm L)(hs:S.Pairwise fun a b=>κ a≤κ b):jT ltA false (L.map f)=S.map f:=by
 obtain ⟨S0,P0,h0,e⟩:=srt hlt
 rw[e,P0.trans P.symm|>.eq_of_pairwise (fun a b ha hb h1 h2=>inj a (P0.mem_iff.mp ha) b (P.mem_iff.mp hb) (Int.le_antisymm h1 h2)) h0 hs]
noncomputable def yl(p:Nat->Nat->Nat)(k:Nat):AV:=.tup [.int (-(p 2 k:Int)),.int (k:Int)]
theorem neg_beq{a b:Nat}:(-(a:Int)== -(b:Int))=(a==b):=by
 rw[Bool.eq_iff_iff,beq_iff_eq,beq_iff_eq,Int.neg_inj,Int.ofNat_inj]
theorem lt_tup2{p:Nat->Nat->Nat}(ha:a<N)(hb:b<N)(hN:N≤50):ltA (yl p a) (yl p b)=decide (key p a<key p b):=by
 show (if (-(p 2 a:Int)== -(p 2 b:Int))=true then (if ((a:Int)==(b:Int))=true then false else decide ((a:Int)<(b:Int)))else decide (-(p 2 a:Int)< -(p 2 b:Int)))=_
 rw[neg_beq,zb]
 delta key
 generalize p 2 a=P
 generalize p 2 b=Q
 have ha:=Nat.lt_of_lt_of_le ha hN
 have hb:=Nat.lt_of_lt_of_le hb hN
 rcases Nat.lt_trichotomy Q P with h|rfl|h
 ·rw[beq_eq_false_iff_ne.mpr (Nat.ne_of_gt h),decide_eq_true (Int.neg_lt_neg (Int.ofNat_lt.mpr h)),decide_eq_true (rN1 (Nat.lt_succ_self 2) ha h)];rfl
 ·rw[beq_self_eq_true]
  rcases Nat.lt_trichotomy a b with h|rfl|h
  ·rw[beq_eq_false_iff_ne.mpr (Nat.ne_of_lt h),decide_eq_true (Int.ofNat_lt.mpr h),decide_eq_true (rN3 h)];rfl
  ·rw[beq_self_eq_true,decide_eq_false (Int.lt_irrefl (a:Int)),decide_eq_false (Int.lt_irrefl (rN Q 2 a))];rfl
  ·rw[beq_eq_false_iff_ne.mpr (Nat.ne_of_gt h),decide_eq_false (Int.not_lt.mpr (Int.ofNat_le.mpr (Nat.le_of_lt h))),decide_eq_false (Int.not_lt.mpr (Int.le_of_lt (rN3 h)))];rfl
 ·rw[beq_eq_false_iff_ne.mpr (Nat.ne_of_lt h),decide_eq_false (Int.not_lt.mpr (Int.le_of_lt (Int.neg_lt_neg (Int.ofNat_lt.mpr h)))),decide_eq_false (Int.not_lt.mpr (Int.le_of_lt (rN1 (Nat.lt_succ_self 2) hb h)))];rfl
section
variable {x:Nat->Nat->UInt64} {p:Nat->Nat->Nat} {N w:Nat} {st:Nat->Nat} {H:List AV} {T A0 A1:List Nat}
theorem Bf.order(B:Bf x p N w st H T A0 A1)(hw:T.length=w)(hN:N≤50):(jT ltA false ((List.range N).map (yl p))).take w=T.map (yl p):=by
 have hlt:∀L:List Nat,(∀a∈L,a<N)->∀a∈L,∀b∈L,ltA (yl p a) (yl p b)=decide (key p a<key p b):=fun L h a ha b hb=>lt_tup2 (h a ha) (h b hb) hN
 have hf:∀a∈(List.range N).filter (fun k=>decide (k∉T)),a<N:=fun a ha=>List.mem_range.mp (List.mem_filter.mp ha).1
 obtain ⟨R,PR,hR,_⟩:=srt (hlt _ hf)
 have mR:∀k,k∈R↔k<N∧k∉T:=fun k=>by rw[PR.mem_iff,List.mem_filter,List.mem_range,decide_eq_true_eq]
 have nT:T.Nodup:=B.ts.imp fun h e=>by rw[e]at h;exact Int.lt_irrefl _ h
 have nR:R.Nodup:=PR.nodup_iff.mpr (List.nodup_range.filter _)
 have P:(T++R).Perm (List.range N):=(List.perm_ext_iff_of_nodup (List.nodup_append.mpr ⟨nT,nR,fun a ha b hb e=>((mR b).mp hb).2 (e▸ha)⟩) List.nodup_range).mpr fun k=>by
  rw[List.mem_append,mR,List.mem_range,B.tm]
  refine ⟨fun h=>h.elim And.left And.left,fun h=> ?_⟩
  by_cases q:3≤st k
  ·exact .inl ⟨h,q⟩
  ·exact .inr ⟨h,fun h2=>q h2.2⟩
 have e:=jaB (f:=yl p) (κ:=key p) (hlt (List.range N) fun a ha=>List.mem_range.mp ha) (fun a ha b hb h=> ?_) P ?_
 ·rw[e,List.map_append,List.take_append_of_le_length (by rw[List.length_map,hw];exact Nat.le_refl _),List.take_of_length_le (by rw[List.length_map,hw];exact Nat.le_refl _)]
 ·have e:=Nat.le_antisymm (rN_p (Nat.lt_succ_self 2) (Nat.lt_of_lt_of_le (List.mem_range.mp ha) hN) (Int.le_of_eq h.symm)) (rN_p (Nat.lt_succ_self 2) (Nat.lt_of_lt_of_le (List.mem_range.mp hb) hN) (Int.le_of_eq h))
  unfold key at h
  rw[e]at h
  exact Nat.le_antisymm (rN_k (Int.le_of_eq h)) (rN_k (Int.le_of_eq h.symm))
 ·refine List.pairwise_append.mpr ⟨B.ts.imp Int.le_of_lt,hR,fun a ha b hb=>Int.le_of_lt (B.tmin a ha b ((mR b).mp hb).1 ?_)⟩
  have h1:=((mR b).mp hb).1
  have h2:=fun q=>((mR b).mp hb).2 ((B.tm b).mpr ⟨h1,q⟩)
  exact Nat.lt_of_not_le h2
noncomputable def due(p:Nat->Nat->Nat)(N s l:Nat):List Nat:=(List.range N).filter fun k=>decide (l≤p s k)
theorem Vv{A:List Nat}{s l:Nat}(nd:A.Nodup)(hm:∀k,k∈A↔k<N∧l≤p s k):jT ltA false (A.map fun k:Nat=>.int (k:Int))=(due p N s l).map fun k:Nat=>.int (k:Int):=by
 refine jaB (κ:=fun k=>(k:Int)) (fun a _ b _=>rfl) (fun a _ b _ h=>Int.ofNat_inj.mp h) ?_ ?_
 ·refine (List.perm_ext_iff_of_nodup (List.nodup_range.filter _) nd).mpr fun k=> ?_
  rw[List.mem_filter,List.mem_range,decide_eq_true_eq,hm]
 ·exact (List.pairwise_lt_range.filter _).imp fun h=>Int.ofNat_le.mpr (Nat.le_of_lt h)
theorem Bf.asked(B:Bf x p N w st H T A0 A1)(hw:T.length=w){t:Nat}(ht:T.getLast? =some t):jT ltA false (A0.map fun k:Nat=>.int (k:Int))=((due p N 0 (p 2 t)).map fun k:Nat=>.int (k:Int))∧jT ltA false (A1.map fun k:Nat=>.int (k:Int))=(due p N 1 (p 2 t)).map fun k:Nat=>.int (k:Int):=by
 have h:=B.fin hw t ht
 refine ⟨Vv B.n0 fun k=> ?_,Vv B.n1 fun k=> ?_⟩
 ·rw[B.m0]
  exact and_congr_right fun hk=>h 0 k (by decide) hk
 ·rw[B.m1]
  exact and_congr_right fun hk=>h 1 k (by decide) hk
end
theorem Y7{α:Type}{f g:α->AV}{L:List α}{b:Bool}(hf:∀a∈L,∃l,f a=.tup l)(hg:∀a∈L,∃l,g a=.tup l)(h:∀a∈L,∀c∈L,ltA (f a) (f c)=ltA (g a) (g c)):∃S:List α,jT ltA b (L.map f)=S.map f∧jT ltA b (L.map g)=S.map g∧S.Perm L:=by
 have key:∀{M:List α},(∀a∈M,∃l,f a=.tup l)->(∀a∈M,∃l,g a=.tup l)->(∀a∈M,∀c∈M,ltA (f a) (f c)=ltA (g a) (g c))->∃S:List α,qF ltA .none (M.map f)=S.map f∧qF ltA .none (M.map g)=S.map g∧S.Perm M:=fun{M} hf hg h=>by
  have at_:∀(u:α->AV) i,(M.map u).getD i .none=(M[i]?.map u).getD .none:=fun u i=>by rw[List.getD_eq_getElem?_getD,List.getElem?_map]
  have e:(fun i j=>ltA ((M.map f).getD i .none) ((M.map f).getD j .none))=fun i j=>ltA ((M.map g).getD i .none) ((M.map g).getD j .none):=by
   funext i j
   rw[at_,at_,at_,at_]
   cases hi:M[i]? with
   |none=>
    cases hj:M[j]? with
    |none=>rfl
    |some c=>
     obtain ⟨l,e1⟩:=hf c (List.mem_of_getElem? hj)
     obtain ⟨m,e2⟩:=hg c (List.mem_of_getElem? hj)
     show ltA .none (f c)=ltA .none (g c)
     rw[e1,e2];rfl
   |some a=>
    obtain ⟨l,e1⟩:=hf a (List.mem_of_getElem? hi)
    obtain ⟨m,e2⟩:=hg a (List.mem_of_getElem? hi)
    cases hj:M[j]? with
    |none=>
     show ltA (f a) .none=ltA (g a) .none
     rw[e1,e2];rfl
    |some c=>exact h a (List.mem_of_getElem? hi) c (List.mem_of_getElem? hj)
  cases M with
  |nil=>exact ⟨[],rfl,rfl,.nil⟩
  |cons a0 M'=>
   have P:=zV (fun i j=>ltA (((a0::M').map f).getD i .none) (((a0::M').map f).getD j .none)) (a0::M').length
   have hin:∀(u:α->AV) (l:List Nat),(∀i∈l,i<(a0::M').length)->l.map (fun i=>((a0::M').map u).getD i .none)=(l.map fun i=>(a0::M').getD i a0).map u:=fun u l hl=>by
    rw[List.map_map]
    refine List.map_congr_left fun i hi=> ?_
    have:=hl i hi
    rw[at_,List.getElem?_eq_getElem this]
    show _=u ((a0::M').getD i a0)
    rw[List.getD_eq_getElem?_getD,List.getElem?_eq_getElem this];rfl
   refine ⟨(zW (fun i j=>ltA (((a0::M').map f).getD i .none) (((a0::M').map f).getD j .none)) (a0::M').length).map fun i=>(a0::M').getD i a0,?_,?_,?_⟩
   ·delta qF
    rw[List.length_map,hin f _ fun i hi=>List.mem_range.mp (P.mem_iff.mp hi)]
   ·delta qF
    rw[List.length_map,←e,hin g _ fun i hi=>List.mem_range.mp (P.mem_iff.mp hi)]
   ·have:=P.map fun i=>(a0::M').getD i a0
    rw[qe]at this
    exact this
 cases b with
 |false=>exact key hf hg h
 |true=>
  obtain ⟨S,e1,e2,P⟩:=key (M:=L.reverse) (fun a ha=>hf a (List.mem_reverse.mp ha)) (fun a ha=>hg a (List.mem_reverse.mp ha)) fun a ha c hc=>h a (List.mem_reverse.mp ha) c (List.mem_reverse.mp hc)
  refine ⟨S.reverse,?_,?_,(List.reverse_perm S).trans (P.trans (List.reverse_perm L))⟩
  ·show (qF ltA .none (L.map f).reverse).reverse=_
   rw[←List.map_reverse,e1,List.map_reverse]
  ·show (qF ltA .none (L.map g).reverse).reverse=_
   rw[←List.map_reverse,e2,List.map_reverse]
end
theorem chk350:jV (jD 24) [Str.ofString "script",Str.ofString "goal",Str.ofString "wished",Str.ofString "words",Str.ofString "points",Str.ofString "order",Str.ofString "told",Str.ofString "asked",Str.ofString "least",Str.ofString "stage",Str.ofString "due",Str.ofString "close",Str.ofString "near"] [.local,.cell,.local,.cell,.cell,.local,.local,.local,.cell,.cell,.local,.local,.local] [1,3,4,8,9] [22,2,3,4,0,25,14] 1=true:=by decide+kernel
def w350_0(C:Cx)(lv:Nat):WE:=qC [] (w8 C (jQ .Add (vV (jg (jm (.int 39)) (jg (jm (.int 149)) (jg (jm (.int 0)) jq)))) (y6 C (jd 0) (jm .none) (jm (.int 9))))) (jw 0) k5 (jy C lv (jm (.ref 326)) (jg (jd 0) jq))
def w350_1(C:Cx)(lv:Nat):WE:=qC [(1,1)] (w8 C (k9 3)) (jw 0) k5 (jy C lv (jm (.ref 338)) (jg (jd 0) (jg (k9 1) jq)))
def w350_2(C:Cx)(lv:Nat):WE:=qC [(1,4)] (qJ (jm (.ty "range")) (jg (jy C lv (jm (.bi .len)) (jg (k9 3) jq)) jq)) (jw 0) k5 (qo (jg (VY (kl (kl (k9 1) (jd 0)) (jm (.int 2)))) (jg (jd 0) jq)))
def w350_3(C:Cx)(lv:Nat):WE:=qC [] (w8 C (jd 5)) (yQ 2 (jK (jw 0) (jK (jw 1) qY))) k5 (qo (jg (jd 1) (jg (jQ .Div (VY (jd 0)) (jm (.int 360360))) jq)))
def w350_4(C:Cx)(lv:Nat):WS:=jj (vc (jm (.bool false))) jv
def w350_5(C:Cx)(lv:Nat):WE:=qC [(1,8),(2,4),(3,9)] (qJ (jm (.ty "range")) (jg (jy C lv (jm (.bi .len)) (jg (k9 3) jq)) jq)) (jw 0) (j4 .GtE (kl (kl (k9 2) (jd 0)) (k9 3)) (k9 1)) (jd 0)
def w350_6(C:Cx)(lv:Nat):WS:=jj (vc (jm (.bool false))) jv
def w350_7(C:Cx)(lv:Nat):WS:=jj (sIf (j4 .NotEq (VX C false (jm (.bi .sorted)) (kl (jd 7) (k9 9))) (jd 10)) (w350_6 C lv) jv) jv
def ZV(C:Cx)(lv:Nat):WS:=jj (UY 10 (w350_5 C lv)) (w350_7 C lv)
def w350_9(C:Cx)(lv:Nat):WE:=qC [(1,8),(2,4),(3,3)] (qJ (jm (.ty "range")) (jg (jy C lv (jm (.bi .len)) (jg (k9 3) jq)) jq)) (jw 0) (j4 .GtE (kl (kl (k9 2) (jd 0)) (jm (.int 2))) (k9 1)) (qo (jg (kl (kl (k9 2) (jd 0)) (jm (.int 2))) (jg (kl (k9 3) (jd 0)) jq)))
def w350_10(C:Cx)(lv:Nat):WE:=qC [] (w8 C (VX C true (jm (.bi .sorted)) (jd 11))) (yQ 2 (jK (jw 0) (jK (jw 1) qY))) k5 (jd 1)
def w350_11(C:Cx)(lv:Nat):WS:=jj (vc (qCmp .Eq (jd 12) (w350_10 C lv))) jv
def w350_12(C:Cx)(lv:Nat):WS:=jj (jl (jy C lv (jm (.ref 286)) (jg (k9 1) (jg (k9 3) (jg (jy C lv (jm (.bi .len)) (jg (k9 3) jq)) (jg (kl (kl (jd 6) (VY (jm (.int 1)))) (jm (.int 1))) jq))))) (jw 12)) (w350_11 C lv)
def OS(C:Cx)(lv:Nat):WS:=jj (UY 11 (w350_9 C lv)) (w350_12 C lv)
def Xx(C:Cx)(lv:Nat):WS:=jj (wP (qJ (jm (.ty "range")) (jg (jm (.int 2)) jq)) (UL 9) (ZV C lv)) (OS C lv)
def w350_15(C:Cx)(lv:Nat):WS:=jj (jl (VY (kl (kl (jd 5) (VY (jm (.int 1)))) (jm (.int 0)))) (UL 8)) (Xx C lv)
def w350_16(C:Cx)(lv:Nat):WS:=jj (sIf (j4 .NotEq (jd 6) (w350_3 C lv)) (w350_4 C lv) jv) (w350_15 C lv)
def Xw(C:Cx)(lv:Nat):WS:=jj (jl (jy C lv (jm (.ref 345)) (jg (k9 3) (jg (k9 1) (jg (jd 2) jq)))) (yQ 2 (jK (jw 6) (jK (jw 7) qY)))) (w350_16 C lv)
def w350_18(C:Cx)(lv:Nat):WS:=jj (jl (y6 C (VX C false (jm (.bi .sorted)) (w350_2 C lv)) (jm .none) (jd 2)) (jw 5)) (Xw C lv)
def w350_19(C:Cx)(lv:Nat):WS:=jj (jl (w350_1 C lv) (UL 4)) (w350_18 C lv)
def Xv(C:Cx)(lv:Nat):WS:=jj (jl (w350_0 C lv) (UL 3)) (w350_19 C lv)
def Xu(C:Cx)(lv:Nat):WS:=jj (jl (qo (jg (jy C lv (jm (.ref 326)) (jg (jQ .Add (jm (.int 633)) (jy C lv (jm (.bi .sum)) (jg (jd 0) jq))) jq)) (jg (jQ .Add (jm (.int 1)) (jQ .Mod (jy C lv (jm (.bi .sum)) (jg (jd 0) jq)) (jm (.int 4)))) jq))) (yQ 2 (jK (UL 1) (jK (jw 2) qY)))) (Xv C lv)
theorem der350(C:Cx)(lv:Nat):(rB (sto 12) ⟨C,lv,[Str.ofString "script",Str.ofString "goal",Str.ofString "wished",Str.ofString "words",Str.ofString "points",Str.ofString "order",Str.ofString "told",Str.ofString "asked",Str.ofString "least",Str.ofString "stage",Str.ofString "due",Str.ofString "close",Str.ofString "near"],[.local,.cell,.local,.cell,.cell,.local,.local,.local,.cell,.cell,.local,.local,.local],k8 [22,2,3,4,0,25,14],0,[]⟩ (jR (jD 24))).1=Xu C lv:=by kernel_rfl!
section
section
variable {C:Cx} {lv:Nat} {loc:Loc} {Z:Sig} {Ψ:K1} {c1 c3 c4 c8 c9 wl pa:Addr} {g:Str} {ws:List Str}
structure vv(c1 c3 c4:Addr)(g:Str)(ws:List Str)(wl pa:Addr)(o:Sig):Prop where
 fg:o c1=some (.cell (some (.str g)))
 fw:o c3=some (.cell (some (.ref wl)))
 fl:o wl=some (.list (ws.map .str))
 fp:o c4=some (.cell (some (.ref pa)))
 fa:∃rs:List Addr,o pa=some (.list (rs.map .ref))∧rs.length=ws.length∧∀k r,rs[k]? =some r->o r=some (.list ((pts (ws.getD k nul) g).map fun n:Nat=>.int (n:Int)))
 ft:o 248=some (.tab 411 22)
theorem vv.mono(B:vv c1 c3 c4 g ws wl pa o)(h:∀a v,o a=some v->((∃u,v=.cell (some (.str u)))∨(∃u,v=.cell (some (.ref u)))∨(∃u,v=.list u)∨∃l c,v=.tab l c)->o2 a=some v):vv c1 c3 c4 g ws wl pa o2 where
 fg:=h _ _ B.fg (.inl ⟨_,rfl⟩)
 fw:=h _ _ B.fw (.inr (.inl ⟨_,rfl⟩))
 fl:=h _ _ B.fl (.inr (.inr (.inl ⟨_,rfl⟩)))
 fp:=h _ _ B.fp (.inr (.inl ⟨_,rfl⟩))
 fa:=by
  obtain ⟨rs,h1,h2,h3⟩:=B.fa
  exact ⟨rs,h _ _ h1 (.inr (.inr (.inl ⟨_,rfl⟩))),h2,fun k r e=>h _ _ (h3 k r e) (.inr (.inr (.inl ⟨_,rfl⟩)))⟩
 ft:=h _ _ B.ft (.inr (.inr (.inr ⟨_,_,rfl⟩)))
theorem vv.sub(B:vv c1 c3 c4 g ws wl pa o)(h:j3 o o2):vv c1 c3 c4 g ws wl pa o2:=B.mono fun a v e _=>h a v e
theorem vv.cell(B:vv c1 c3 c4 g ws wl pa o)(hc:o c=some (.cell v))(hv:v=none∨∃i,v=some (.int i)):vv c1 c3 c4 g ws wl pa (upd o c y):=B.mono fun a u e k=>by
 rw[ji]
 ·exact e
 ·rintro rfl
  rw[hc]at e
  injection e with e
  subst e
  rcases k with ⟨u,k⟩|⟨u,k⟩|⟨u,k⟩|⟨l,c,k⟩
  ·injection k with k
   subst k
   rcases hv with hv|⟨i,hv⟩<;>cases hv
  ·injection k with k
   subst k
   rcases hv with hv|⟨i,hv⟩<;>cases hv
  ·cases k
  ·cases k
theorem pts_at(hi:i<3):((pts W G).map fun n:Nat=>AV.int (n:Int))[i]? =some (.int (((pts W G).getD i 0:Nat):Int)):=lt3 hi rfl rfl rfl
theorem Yx{j i k:Nat}{W1 W2:WE}(B:vv c1 c3 c4 g ws wl pa Z)(hj:loc j=some (.ref c4))(hk:k<ws.length)(hi:i<3)(hN:ws.length≤50)(h1:∀Ψ':K1,Ψ' (.int (k:Int)) Z->W1 loc Z Ψ')(h2:∀Ψ':K1,Ψ' (.int (i:Int)) Z->W2 loc Z Ψ')(h:Ψ (.int ((ppt g ws i k:Nat):Int)) Z):kl (kl (k9 j) W1) W2 loc Z Ψ:=by
 obtain ⟨rs,p1,p2,p3⟩:=B.fa
 have hk':k<rs.length:=by rw[p2];exact hk
 have e:=List.getElem?_eq_getElem hk'
 exact ka<|ka<|k7 hj B.fp<|h1 _<|jO p1 (by rw[List.getElem?_map,e];rfl) (by rw[List.length_map,p2];exact Nat.le_trans hN (by decide))<|h2 _<|jO (p3 k _ e) (pts_at hi) (by rw[List.length_map];exact Nat.le_of_ble_eq_true rfl) h
theorem i_wrd(B:vv c1 c3 c4 g ws wl pa Z)(hj:loc j=some (.ref c3))(hk:k<ws.length)(hN:ws.length≤50)(h1:∀Ψ':K1,Ψ' (.int (k:Int)) Z->W1 loc Z Ψ')(h:Ψ (.str (ws.getD k nul)) Z):kl (k9 j) W1 loc Z Ψ:=
 ka<|k7 hj B.fw<|h1 _<|jO B.fl (Xt hk) (by rw[List.length_map];exact Nat.le_trans hN (by decide)) h
theorem Yy(B:vv c1 c3 c4 g ws wl pa Z)(hj:loc j=some (.ref c3))(hN:ws.length≤50)(h:Ψ (.int ((ws.length:Nat):Int)) Z):jy C lv (jm (.bi .len)) (jg (k9 j) jq) loc Z Ψ:=
 ⟨trivial,k7 hj B.fw<|jo (Λ:=fun xs Zw2=>zP C lv (.bi .len) (.ref wl::xs) Zw2 Ψ) ⟨_,jS B.fl,by rw[List.length_map];exact Nat.le_trans hN (by decide),by rw[List.length_map];exact h⟩⟩
theorem Xb{fm:List (Nat×Nat)}{Wl:WE}{Wc:WT}{We:WE}{N:Nat}{cnd:Nat->Bool}{el:Nat->AV}(hN:N≤1000)(hfm:∀p∈fm,∃c,loc p.2=some (.ref c))(h0:fm.lookup 0=none)(hl:∀Ψ':K1,Ψ' (.int (N:Int)) Z->Wl loc Z Ψ')(hc:∀k,k<N->∀Ξ:Bool->Sig->Prop,Ξ (cnd k) Z->Wc (upd (wE fm loc) 0 (.int (k:Int))) Z Ξ)(he:∀k,k<N->cnd k=true->∀Ψ':K1,Ψ' (el k) Z->We (upd (wE fm loc) 0 (.int (k:Int))) Z Ψ')
  (h:∀a,Z a=none->Ψ (.ref a) (upd Z a (.list (((List.range N).filter cnd).map el)))):qC fm (qJ (jm (.ty "range")) (jg Wl jq)) (jw 0) Wc We loc Z Ψ:=by
 refine ⟨hfm,trivial,hl _ ⟨rfl,(by decide:(-1000:Int)≤0),(by decide:(0:Int)≤1000),(by lia:(-1000:Int)≤(N:Int)),(by lia:(N:Int)≤1000),?_⟩⟩
 dsimp only
 rw[rng]
 refine ⟨by rw[qt];exact hN,fun i ys o=>ys=((List.range i).filter cnd).map el∧Z=o,⟨rfl,rfl⟩,?_,?_⟩
 ·rintro i ys _ ⟨rfl,rfl⟩ hi
  refine ⟨trivial,by rw[List.length_map];exact Nat.le_trans (List.length_filter_le _ _) (by rw[List.length_range];exact Nat.le_refl _),fun x hx=> ?_⟩
  obtain ⟨hk,rfl⟩:=vf hx
  rw[vS]
  have e:∀b,cnd i=b->((List.range (i+1)).filter cnd).map el=((List.range i).filter cnd).map el++if b=true then [el i]else []:=fun b hb=>by
   rw[List.range_succ,List.filter_append,List.map_append]
   cases b with
   |true=>rw[List.filter_cons_of_pos hb,if_pos rfl];rfl
   |false=>rw[List.filter_cons_of_neg (by rw[hb];decide),if_neg (by decide)];rfl
  refine jr ⟨UT h0,hc i hk _ ⟨fun hb=>he i hk hb _ ⟨_,⟨(e _ hb).symm,rfl⟩,.refl _⟩,fun hb=>⟨_,⟨?_,rfl⟩,.refl _⟩⟩⟩
  have:=e _ hb
  rw[if_neg (by decide),List.append_nil]at this
  exact this.symm
 ·rintro ys _ ⟨rfl,rfl⟩ a ha
  rw[qt]
  exact h a ha
def YL(fm:List (Nat×Nat))(Wt:WA)(Wc:WT)(We:WE)(loc:Loc)(Ψ:K1)(xs:List AV)(D:Sig->Prop)(Zw1:Sig):Prop:=xs.length≤1000∧∃J:Nat->List AV->Sig->Prop,J 0 [] Zw1∧
 (∀i ys o,J i ys o->i≤xs.length->D o∧ys.length≤i∧(∀x,xs[i]? =some x->Wt x (wE fm loc) o fun lw1 ow1=>KM (wE fm loc) lw1∧Wc lw1 ow1 fun b ow2=>(b=true->We lw1 ow2 fun y ow3=>∃τ,J (i+1) (ys++[y]) τ∧j3 τ ow3)∧(b=false->∃τ,J (i+1) ys τ∧j3 τ ow2)))∧
 ∀ys o,J xs.length ys o->∀a,o a=none->Ψ (.ref a) (upd o a (.list ys))
theorem Uw(hfm:∀p∈fm,∃c,loc p.2=some (.ref c))(h:Wi loc Z (YL fm Wt Wc We loc Ψ)):qC fm Wi Wt Wc We loc Z Ψ:=⟨hfm,h⟩
theorem Yz{a:Addr}{L:List Nat}{u v el:Nat->AV}{We:WE}(hg:vQ C Z a (L.map fun k=>.tup [u k,v k]))(hl:L.length≤1000)(he:∀k∈L,∀Ψ':K1,Ψ' (el k) Z->We (upd (upd (wE [] loc) 0 (u k)) 1 (v k)) Z Ψ')(h:∀r,Z r=none->Ψ (.ref r) (upd Z r (.list (L.map el)))):zj C (.ref a) Z (YL [] (yQ 2 (jK (jw 0) (jK (jw 1) qY))) k5 We loc Ψ):=by
 refine vB hg ⟨by rw[List.length_map];exact hl,fun i ys o=>ys=(L.take i).map el∧Z=o,⟨rfl,rfl⟩,?_,?_⟩
 ·rintro i ys _ ⟨rfl,rfl⟩ hi
  refine ⟨hg,by rw[List.length_map];exact List.length_take_le _ _,fun x hx=> ?_⟩
  rw[List.getElem?_map]at hx
  obtain ⟨k,hk,rfl⟩:=Option.map_eq_some_iff.mp hx
  refine ⟨_,rfl,rfl,_,_,rfl,_,_,rfl,jr<|wf ⟨(fun i v e=>nomatch e),qI ⟨fun _=>he k (List.mem_of_getElem? hk) _ ⟨_,⟨?_,rfl⟩,.refl _⟩,(fun h=>nomatch h)⟩⟩⟩
  rw[List.take_add_one,hk,List.map_append];rfl
 ·rintro ys _ ⟨rfl,rfl⟩ r hr
  rw[List.length_map,List.take_length]
  exact h r hr
theorem Yw{Φ:Fl->Loc->Sig->Prop}(h:W loc Z fun v Zw1=>Φ .next (upd loc i v) Zw1):UY i W loc Z Φ:=h
theorem Kq(h:Ψ (.int (-i)) Z):wNeg (.int i) Z Ψ:=h
theorem zO(ha:Z a=some (.list l))(h:l.getLast? =some v)(k:Ψ v Z):yf (.ref a) (.int (-1)) Z Ψ:=by
 refine ⟨l,v,ha,?_,by decide,k⟩
 have hne:l≠[]:=fun e=>by rw[e]at h;cases h
 have hl:0<l.length:=List.length_pos_iff.mpr hne
 have e1:(-1:Int)+(l.length:Int)=((l.length-1:Nat):Int):=by lia
 have e2:seqIndex? (-1) l.length=some (l.length-1):=by
  delta seqIndex?
  dsimp only
  rw[if_pos (show (-1:Int)<0 by decide),e1]
  exact if_pos (by simp;lia)
 delta pick
 rw[e2]
 show l[l.length-1]? =some v
 rw[←List.getLast?_eq_getElem?];exact h
theorem clo_due{cut:UInt64}{tk:Nat}(D:Dt (xsh g ws) (ppt g ws) ws.length)(hk:tk<ws.length)(hc:cut=xsh g ws 2 tk):clo g cut ws=(due (ppt g ws) ws.length 2 (ppt g ws 2 tk)).map fun k=>.tup [.flt (xsh g ws 2 k),.str (ws.getD k nul)]:=by
 have e:ws=(List.range ws.length).map fun k=>ws.getD k nul:=(qe ws nul).symm
 have key:∀q:Str->Bool,ws.filter q=((List.range ws.length).filter (q∘fun k=>ws.getD k nul)).map fun k=>ws.getD k nul:=fun q=>by
  conv=>lhs;rw[e]
  exact List.filter_map
 have hcl:∀k∈List.range ws.length,(Od g cut∘fun k=>ws.getD k nul) k=decide (ppt g ws 2 tk≤ppt g ws 2 k):=fun k hk'=>by
  have hk':=List.mem_range.mp hk'
  subst hc
  have r0:=((D.sh 0 k (by decide) hk').rel (D.sh 2 tk (by decide) hk)).ge
  have r1:=((D.sh 1 k (by decide) hk').rel (D.sh 2 tk (by decide) hk)).ge
  have r2:=((D.sh 2 k (by decide) hk').rel (D.sh 2 tk (by decide) hk)).ge
  show (fGe (xsh g ws 0 k) (xsh g ws 2 tk)&&(fGe (xsh g ws 1 k) (xsh g ws 2 tk)&&fGe (xsh g ws 2 k) (xsh g ws 2 tk)))=_
  rw[r0,r1,r2]
  have m1:=D.m1 k hk'
  have m2:=D.m2 k hk'
  by_cases q:ppt g ws 2 tk≤ppt g ws 2 k
  ·rw[decide_eq_true q,decide_eq_true (Nat.le_trans q m2),decide_eq_true (Nat.le_trans q (Nat.le_trans m2 m1))];rfl
  ·rw[decide_eq_false q,Bool.and_false,Bool.and_false]
 delta clo due
 rw[key,List.map_map,List.filter_congr hcl]
 rfl
theorem jct{p:Nat->Nat->Nat}(h:k∈due p N s l):k<N:=List.mem_range.mp (List.mem_filter.mp h).1
theorem eq_strs{α:Type}{f:α->Str}{S:List α}:Kc (S.map fun k=>.str (f k)) (S.map fun k=>.str (f k))=true∧yb (S.map fun k=>.str (f k)) (S.map fun k=>.str (f k))=true:=by
 delta Kc yb
 rw[wm]
 refine ⟨?_,?_⟩
 ·simp only[List.all_map,List.all_eq_true]
  exact fun _ _=>rfl
 ·rw[beq_self_eq_true,Bool.true_and]
  simp only[List.all_map,List.all_eq_true]
  exact fun k _=>beq_self_eq_true (f k)
def jcV(c1 c3 c4 c8 c9 t as:Addr)(ll:Loc):Prop:=ll 1=some (.ref c1)∧ll 3=some (.ref c3)∧ll 4=some (.ref c4)∧ll 8=some (.ref c8)∧ll 9=some (.ref c9)∧ll 6=some (.ref t)∧ll 7=some (.ref as)
theorem vc350a(X:PC C){t as:Addr}{T:List Nat}{tk:Nat}{ll:Loc}(D:Dt (xsh g ws) (ppt g ws) ws.length)(hg:g.length<8)(hga:g.cps.all (·<128)=true)(hws:∀u∈ws,u.length<8)(hN3:3≤ws.length)(B:vv c1 c3 c4 g ws wl pa Z)(hE:jcV c1 c3 c4 c8 c9 t as ll)(h8:Z c8=some (.cell (some (.int (ppt g ws 2 tk:Nat)))))(ht:Z t=some (.list (T.map (tOf (xsh g ws)))))(hT:T.getLast? =some tk)(htk:tk<ws.length)(h:∀o,vv c1 c3 c4 g ws wl pa o->Ψ (.bool true) o):OS C (lv+6) ll Z (j9 Ψ):=by
 obtain ⟨E1,E3,E4,E8,E9,E6,E7⟩:=hE
 have hN:=D.n
 have hfm:∀p∈[((1:Nat),(8:Nat)),(2,4),(3,3)],∃c,ll p.2=some (.ref c):=fun p hp=>by
  rcases List.mem_cons.mp hp with rfl|hp
  ·exact ⟨_,E8⟩
  ·rcases List.mem_cons.mp hp with rfl|hp
   ·exact ⟨_,E4⟩
   ·rw[List.mem_singleton.mp hp];exact ⟨_,E3⟩
 have ige:∀{a b:Nat},decide (b≤a)=decide ((b:Int)≤(a:Int)):=fun{a b}=>decide_eq_decide.mpr Int.ofNat_le.symm
 refine jh<|Yw<|Xb (N:=ws.length) (cnd:=fun k=>decide (ppt g ws 2 tk≤ppt g ws 2 k)) (el:=fun k=>.tup [.int ((ppt g ws 2 k:Nat):Int),.str (ws.getD k nul)]) (Nat.le_trans hN (by decide)) hfm rfl (fun _ k=>Yy B E3 hN k) (fun k hk Ξ hΞ=>jz<|Yx B E4 hk (by decide) hN (fun _ k=>ja rfl k) (fun _ k=>js k)<|k7 E8 h8<|jbW ige hΞ) (fun k hk _ Ψ' hΨ=>kA<|jf<|Yx B E4 hk (by decide) hN (fun _ k=>ja rfl k) (fun _ k=>js k)<|jf<|i_wrd B E3 hk hN (fun _ k=>ja rfl k)<|jo ⟨Nat.le_of_ble_eq_true rfl,hΨ⟩) fun cl hcl=>jb ?_
 have B1:=B.sub (o2:=upd Z cl (.list ((due (ppt g ws) ws.length 2 (ppt g ws 2 tk)).map fun k=>.tup [.int ((ppt g ws 2 k:Nat):Int),.str (ws.getD k nul)]))) fun a v e=>je hcl e
 have ht1:=je (v:=.list ((due (ppt g ws) ws.length 2 (ppt g ws 2 tk)).map fun k=>.tup [.int ((ppt g ws 2 k:Nat):Int),.str (ws.getD k nul)])) hcl ht
 have S2:=D.sh 2 tk (by decide) htk
 have hTl:(T.map (tOf (xsh g ws))).getLast? =some (.tup [.int (tk:Int),.flt (xsh g ws 2 tk)]):=by
  rw[List.getLast?_map,hT]
  show some (AV.tup [.int (tk:Int),.flt (neg (neg (xsh g ws 2 tk)))])=_
  rw[S2.one.1]
 refine jh<|ju<|ke (jA rfl)<|jf<|k7 E1 B1.fg<|jf<|k7 E3 B1.fw<|jf<|Yy B1 E3 hN<|jf<|ka<|ka<|ja E6<|Vl<|js<|Kq<|zO ht1 hTl<|js<|Ov (i:=1) rfl (Nat.le_of_ble_eq_true rfl)<|jo ⟨jA rfl,?_⟩
 have z0:Sh 0x0000000000000000 0:=List.Mem.head _
 have z1:Sh 0x3ff0000000000000 360360:=List.contains_iff_mem.mp (by decide+kernel)
 have l0:=(z0.rel S2).le
 have l1:=(S2.rel z1).le
 have hfe:∀u∈ws,fEq (sh2 g u) (sh2 g u)=true:=fun u hu=>by
  obtain ⟨k,hk,e⟩:=List.getElem_of_mem hu
  have S:=D.sh 2 k (by decide) hk
  have e':xsh g ws 2 k=sh2 g u:=by
   show sh2 g (ws.getD k nul)=_
   rw[List.getD_eq_getElem?_getD,List.getElem?_eq_getElem hk,←e];rfl
  rw[e']at S
  rw[(S.rel S).eq];exact decide_eq_true rfl
 refine spec286 X hg hga hws B1.ft B1.fl (by lia) (by lia) (by lia) (Nat.le_refl _) (by lia) (by rw[l0];exact decide_eq_true (Nat.zero_le _)) (by rw[l1];exact decide_eq_true S2.one.2.2.2) hfe fun r hr=>jr<|jb ?_
 rw[clo_due D htk rfl]
 obtain ⟨S,e1,e2,P⟩:=Y7 (b:=true) (L:=due (ppt g ws) ws.length 2 (ppt g ws 2 tk)) (f:=fun k=>.tup [.flt (xsh g ws 2 k),.str (ws.getD k nul)]) (g:=fun k=>.tup [.int ((ppt g ws 2 k:Nat):Int),.str (ws.getD k nul)]) (fun a _=>⟨_,rfl⟩) (fun a _=>⟨_,rfl⟩) fun a ha c hc=>by
  have R:=(D.sh 2 a (by decide) (jct ha)).rel (D.sh 2 c (by decide) (jct hc))
  show ltT [.flt _,.str _] [.flt _,.str _]=ltT [.int _,.str _] [.int _,.str _]
  rw[ltT,ltT]
  show (if fEq _ _=true then _ else fLt _ _)=if (((ppt g ws 2 a:Nat):Int)==((ppt g ws 2 c:Nat):Int))=true then _ else decide (((ppt g ws 2 a:Nat):Int)<((ppt g ws 2 c:Nat):Int))
  rw[R.eq,R.lt]
  by_cases q:ppt g ws 2 a=ppt g ws 2 c
  ·rw[decide_eq_true q,q,beq_self_eq_true];rfl
  ·rw[decide_eq_false q,beq_eq_false_iff_ne.mpr fun e=>q (Int.ofNat_inj.mp e),if_neg (by decide),if_neg (by decide)]
   exact decide_eq_decide.mpr Int.ofNat_lt.symm
 have hSl:S.length≤50:=by
  rw[P.length_eq]
  exact Nat.le_trans (List.length_filter_le _ _) (by rw[List.length_range];exact hN)
 rw[e1]
 have hn1:(S.map fun k=>AV.tup [.flt (xsh g ws 2 k),.str (ws.getD k nul)]).map jaX=S.map fun k=>.str (ws.getD k nul):=by rw[List.map_map];rfl
 rw[hn1]
 have hC:(due (ppt g ws) ws.length 2 (ppt g ws 2 tk)).length<64:=by rw[←P.length_eq];lia
 refine jh<|qu<|i_cmp<|ja rfl<|Uw (fun p hp=>nomatch hp)<|vo ⟨rfl,ja rfl ⟨cl,_,rfl,jS (je hr jc),by rw[List.length_map];exact hC,.oT 1 (fun x hx=> ?_) (fun x hx y hy=> ?_),fun c hc=> ?_⟩⟩
 ·obtain ⟨k,_,rfl⟩:=List.mem_map.mp hx
  exact ⟨_,_,rfl,rfl⟩
 ·obtain ⟨k,_,rfl⟩:=List.mem_map.mp hx
  obtain ⟨j,_,rfl⟩:=List.mem_map.mp hy
  rfl
 delta due at e2
 rw[e2]
 refine Yz (loc:=upd (upd ll 11 (.ref cl)) 12 (.ref r)) (We:=jd 1) (L:=S) (u:=fun k=>.int ((ppt g ws 2 k:Nat):Int)) (v:=fun k=>.str (ws.getD k nul)) (el:=fun k=>.str (ws.getD k nul)) (jS jc) (Nat.le_trans hSl (by decide)) (fun k _ Ψ' q=>ja rfl q) fun r2 hr2=> ?_
 have q:=eq_strs (f:=fun k=>ws.getD k nul) (S:=S)
 exact ⟨_,_,je hr2 (je hc jc),jc,fun _=>q.1,by rw[q.2];exact h _ (B1.sub fun a v e=>je hr2 (je hc (je hr e)))⟩
end
end
section
section
variable {C:Cx} {lv:Nat} {loc:Loc} {Z:Sig} {Ψ:K1} {c1 c3 c4 c8 c9 wl pa t as a0 a1:Addr} {g:Str} {ws:List Str}
theorem i_rngA{n:Nat}{W:WE}{S:WS}{At:WA}{Φ:Fl->Loc->Sig->Prop}(hn:n≤1000)(hW:∀Ψ':K1,Ψ' (.int (n:Int)) Z->W loc Z Ψ')(J:Nat->Loc->Sig->Prop)(h0:J 0 loc Z)(hs:∀k l o,J k l o->k<n->At (.int (k:Int)) l o fun lw1 ow1=>S lw1 ow1 (kc J Φ k))(he:∀l o,J n l o->Φ .next l o):wP (qJ (jm (.ty "range")) (jg W jq)) At S loc Z Φ:=by
 refine ⟨trivial,hW _ ⟨rfl,(by decide:(-1000:Int)≤0),(by decide:(0:Int)≤1000),(by lia:(-1000:Int)≤(n:Int)),(by lia:(n:Int)≤1000),J,h0,fun k l o hJ hk=> ?_⟩⟩
 rw[qt]at hk⊢
 dsimp only at hk⊢
 rw[rng]at hk⊢
 refine ⟨trivial,fun x hx=> ?_,fun e=>he _ _ (e▸hJ)⟩
 obtain ⟨hl,rfl⟩:=vf hx
 rw[vS]
 exact hs k l o hJ hl
theorem eq_ints{L:List Nat}:Kc (L.map fun k:Nat=>.int (k:Int)) (L.map fun k:Nat=>.int (k:Int))=true∧yb (L.map fun k:Nat=>.int (k:Int)) (L.map fun k:Nat=>.int (k:Int))=true:=by
 delta Kc yb
 rw[wm]
 refine ⟨?_,?_⟩
 ·simp only[List.all_map,List.all_eq_true]
  exact fun _ _=>rfl
 ·rw[beq_self_eq_true,Bool.true_and]
  simp only[List.all_map,List.all_eq_true]
  exact fun k _=>beq_self_eq_true (k:Int)
theorem jaq{s l:Nat}{aS:Addr}{AS:List Nat}{ll:Loc}{Φ:Fl->Loc->Sig->Prop}(hs:s<2)(hN:ws.length≤50)(B:vv c1 c3 c4 g ws wl pa Z)(hE:jcV c1 c3 c4 c8 c9 t as ll)(h8:Z c8=some (.cell (some (.int (l:Nat)))))(h9:Z c9=some (.cell (some (.int (s:Nat)))))(has:Z as=some (.list [.ref a0,.ref a1]))(hat:[AV.ref a0,.ref a1][s]? =some (.ref aS))(hA:Z aS=some (.list (AS.map fun k:Nat=>.int (k:Int))))(hlen:AS.length<64)(e:jT ltA false (AS.map fun k:Nat=>.int (k:Int))=(due (ppt g ws) ws.length s l).map fun k:Nat=>.int (k:Int))(h:∀r o,j3 Z o->Φ .next (upd ll 10 (.ref r)) o):ZV C lv ll Z Φ:=by
 obtain ⟨E1,E3,E4,E8,E9,E6,E7⟩:=hE
 have hfm:∀p∈[((1:Nat),(8:Nat)),(2,4),(3,9)],∃c,ll p.2=some (.ref c):=fun p hp=>by
  rcases List.mem_cons.mp hp with rfl|hp
  ·exact ⟨_,E8⟩
  ·rcases List.mem_cons.mp hp with rfl|hp
   ·exact ⟨_,E4⟩
   ·rw[List.mem_singleton.mp hp];exact ⟨_,E9⟩
 have ige:∀{a b:Nat},decide (b≤a)=decide ((b:Int)≤(a:Int)):=fun{a b}=>decide_eq_decide.mpr Int.ofNat_le.symm
 refine jh<|Yw<|Xb (N:=ws.length) (cnd:=fun k=>decide (l≤ppt g ws s k)) (el:=fun k=>.int (k:Int)) (Nat.le_trans hN (by decide)) hfm rfl (fun _ k=>Yy B E3 hN k) (fun k hk Ξ hΞ=>jz<|Yx B E4 hk (Nat.lt_succ_of_lt hs) hN (fun _ k=>ja rfl k) (fun _ k=>k7 E9 h9 k)<|k7 E8 h8<|jbW ige hΞ) (fun k hk _ Ψ' hΨ=>ja rfl hΨ) fun r hr=>jb ?_
 refine jh<|qk<|jz ⟨rfl,ka<|ja E7<|k7 E9 (je hr h9)<|jO (je hr has) hat (Nat.le_of_ble_eq_true rfl) ⟨aS,_,rfl,jS (je hr hA),by rw[List.length_map];exact hlen,.oI fun x hx=> ?_,fun c hc=>ja rfl ⟨_,_,jc,je hc jc,?_⟩⟩⟩
 ·obtain ⟨k,_,rfl⟩:=List.mem_map.mp hx
  exact ⟨_,rfl⟩
 ·rw[e]
  have q:=eq_ints (L:=due (ppt g ws) ws.length s l)
  unfold due at q⊢
  rw[q.2]
  exact ⟨fun _=>q.1,_,rfl,(fun h=>nomatch h),fun _=>jt<|jb<|jt<|h r _ fun a v e=>je hc (je hr e)⟩
theorem vc350b(X:PC C){T A0 A1:List Nat}{H:List AV}{st:Nat->Nat}{w tk:Nat}{ll:Loc}(D:Dt (xsh g ws) (ppt g ws) ws.length)(hg:g.length<8)(hga:g.cps.all (·<128)=true)(hws:∀u∈ws,u.length<8)(hN3:3≤ws.length)(Bf:Bf (xsh g ws) (ppt g ws) ws.length w st H T A0 A1)(hTw:T.length=w)(B:vv c1 c3 c4 g ws wl pa Z)(hE:jcV c1 c3 c4 c8 c9 t as ll)(h89:c8≠c9)(h8:Z c8=some (.cell (some (.int (ppt g ws 2 tk:Nat)))))(h9:Z c9=some (.cell none))(ht:Z t=some (.list (T.map (tOf (xsh g ws)))))(has:Z as=some (.list [.ref a0,.ref a1]))(hA0:Z a0=some (.list (A0.map fun k:Nat=>.int (k:Int))))(hA1:Z a1=some (.list (A1.map fun k:Nat=>.int (k:Int))))(hT:T.getLast? =some tk)(h:∀o,vv c1 c3 c4 g ws wl pa o->Ψ (.bool true) o):Xx C (lv+6) ll Z (j9 Ψ):=by
 have hN:=D.n
 have htk:tk<ws.length:=((Bf.tm tk).mp (List.mem_of_getLast? hT)).1
 obtain ⟨q0,q1⟩:=Bf.asked hTw hT
 have hdl:∀{A:List Nat} {s l:Nat},jT ltA false (A.map fun k:Nat=>.int (k:Int))=((due (ppt g ws) ws.length s l).map fun k:Nat=>.int (k:Int))->A.length<64:=fun{A s l} e=>by
  have e:=congrArg List.length e
  rw[qp.length_eq,List.length_map,List.length_map]at e
  have:=List.length_filter_le (fun k=>decide (l≤ppt g ws s k)) (List.range ws.length)
  rw[List.length_range]at this
  delta due at e
  lia
 have hlen:A0.length<64∧A1.length<64:=⟨hdl q0,hdl q1⟩
 refine jh<|i_rngA (n:=2) (by decide) (fun _ k=>js k) (fun k ll o=>jcV c1 c3 c4 c8 c9 t as ll∧vv c1 c3 c4 g ws wl pa o∧o c8=some (.cell (some (.int (ppt g ws 2 tk:Nat))))∧(∃v,o c9=some (.cell v)∧(v=none∨∃i,v=some (.int i)))∧o t=some (.list (T.map (tOf (xsh g ws))))∧o as=some (.list [.ref a0,.ref a1])∧o a0=some (.list (A0.map fun k:Nat=>.int (k:Int)))∧o a1=some (.list (A1.map fun k:Nat=>.int (k:Int)))) ⟨hE,B,h8,⟨_,h9,.inl rfl⟩,ht,has,hA0,hA1⟩ ?_ ?_
 ·clear B hE h8 h9 ht has hA0 hA1
  rintro k ll o ⟨hE,B,h8,⟨v,h9,hv⟩,ht,has,hA0,hA1⟩ hk
  have hl:∀{a:Addr} {L:List AV},o a=some (.list L)->upd o c9 (.cell (some (.int (k:Nat)))) a=some (.list L):=fun{a L} e=>by rw[ji (fun q=>by rw[q,h9]at e;cases e)];exact e
  have B1:=B.cell (y:=.cell (some (.int (k:Nat)))) h9 hv
  have h8':upd o c9 (.cell (some (.int (k:Nat)))) c8=some (.cell (some (.int (ppt g ws 2 tk:Nat)))):=by rw[ji h89];exact h8
  have fin:∀r o2,j3 (upd o c9 (.cell (some (.int (k:Nat))))) o2->kc (fun k ll o=>jcV c1 c3 c4 c8 c9 t as ll∧vv c1 c3 c4 g ws wl pa o∧o c8=some (.cell (some (.int (ppt g ws 2 tk:Nat))))∧(∃v,o c9=some (.cell v)∧(v=none∨∃i,v=some (.int i)))∧o t=some (.list (T.map (tOf (xsh g ws))))∧o as=some (.list [.ref a0,.ref a1])∧o a0=some (.list (A0.map fun k:Nat=>.int (k:Int)))∧o a1=some (.list (A1.map fun k:Nat=>.int (k:Int)))) (q9 (OS C (lv+6)) (j9 Ψ)) k .next (upd ll 10 (.ref r)) o2:=fun r o2 hs=>
   kM ⟨hE,B1.sub hs,hs _ _ h8',⟨_,hs _ _ jc,.inr ⟨_,rfl⟩⟩,hs _ _ (hl ht),hs _ _ (hl has),hs _ _ (hl hA0),hs _ _ (hl hA1)⟩
  refine zg hE.2.2.2.2.1 h9 ?_
  obtain rfl|rfl:k=0∨k=1:=lt2 hk (.inl rfl) (.inr rfl)
  ·exact jaq (by decide) hN B1 hE h8' jc (hl has) rfl (hl hA0) hlen.1 q0 fin
  ·exact jaq (by decide) hN B1 hE h8' jc (hl has) rfl (hl hA1) hlen.2 q1 fin
 ·clear B hE h8 h9 ht has hA0 hA1
  rintro ll o ⟨hE,B,h8,_,ht,_⟩
  exact jb<|vc350a X D hg hga hws hN3 B hE h8 ht hT htk h
theorem i_divp(S:Sh x p)(h:Ψ (.flt x) Z):wY .Div (.int (-(-(p:Int)))) (.int 360360) Z Ψ:=by
 rw[Int.neg_neg]
 have e:Float64.ofFrac (decide ((p:Int)<0) !=decide ((360360:Int)<0)) (p:Int).natAbs (360360:Int).natAbs=x:=by
  rw[decide_eq_false (Int.not_lt.mpr (Int.natCast_nonneg p))]
  exact S.one.2.1
 exact ⟨by decide,by rw[e];exact S.one.2.2.1,by rw[e];exact h⟩
theorem eq_told{x:Nat->Nat->UInt64}{L:List Nat}(hf:∀k∈L,fEq (x 2 k) (x 2 k)=true):Kc (L.map fun k:Nat=>.tup [.int (k:Int),.flt (x 2 k)]) (L.map fun k:Nat=>.tup [.int (k:Int),.flt (x 2 k)])=true∧yb (L.map fun k:Nat=>.tup [.int (k:Int),.flt (x 2 k)]) (L.map fun k:Nat=>.tup [.int (k:Int),.flt (x 2 k)])=true:=by
 delta Kc yb
 rw[wm]
 refine ⟨?_,?_⟩
 ·simp only[List.all_map,List.all_eq_true]
  intro k hk
  show (true&&(fOk (x 2 k) (x 2 k)&&true))=true
  delta fOk
  rw[hf k hk,Bool.or_true];rfl
 ·rw[beq_self_eq_true,Bool.true_and]
  simp only[List.all_map,List.all_eq_true]
  intro k hk
  show (true&&(((k:Int)==(k:Int))&&(fEq (x 2 k) (x 2 k)&&true)))=true
  rw[hf k hk,beq_self_eq_true];rfl
theorem vc350c(X:PC C){w:Nat}{od:Addr}{ll:Loc}(D:Dt (xsh g ws) (ppt g ws) ws.length)(hg:g.length<8)(hga:g.cps.all (·<128)=true)(hws:∀u∈ws,u.length<8)(hN3:3≤ws.length)(hw0:0<w)(hwN:w≤ws.length)(B:vv c1 c3 c4 g ws wl pa Z)(E1:ll 1=some (.ref c1))(E2:ll 2=some (.int (w:Int)))(E3:ll 3=some (.ref c3))(E4:ll 4=some (.ref c4))(E5:ll 5=some (.ref od))(E8:ll 8=some (.ref c8))(E9:ll 9=some (.ref c9))(h89:c8≠c9)(h8:Z c8=some (.cell none))(h9:Z c9=some (.cell none))(ho:Z od=some (.list ((jT ltA false ((List.range ws.length).map (yl (ppt g ws)))).take w)))(h:∀o,vv c1 c3 c4 g ws wl pa o->Ψ (.bool true) o):Xw C (lv+6) ll Z (j9 Ψ):=by
 have hN:=D.n
 refine jh<|ju<|ke (jA rfl)<|jf<|k7 E3 B.fw<|jf<|k7 E1 B.fg<|jf<|ja E2<|jo ⟨jA rfl,spec345 X D B.fl B.ft hg hga hws hw0 hwN fun t as a0 a1 st H T A0 A1 o hs hTw Bf ht has hA0 hA1=>⟨_,rfl,rfl,_,_,rfl,_,_,rfl,jr<|wf<|jb ?_⟩⟩
 rw[Bf.order hTw hN]at ho
 have hTm:∀k∈T,k<ws.length:=fun k hk=>((Bf.tm k).mp hk).1
 obtain ⟨tk,hT⟩:∃tk,T.getLast? =some tk:=by
  cases e:T.getLast? with
  |none=>rw[List.getLast?_eq_none_iff]at e;rw[e]at hTw;exact absurd hTw (Nat.ne_of_lt hw0)
  |some tk=>exact ⟨tk,rfl⟩
 have ho':=hs _ _ ho
 have ht':o t=some (.list (T.map fun k:Nat=>.tup [.int (k:Int),.flt (xsh g ws 2 k)])):=by
  rw[ht]
  congr 2
  refine List.map_congr_left fun k hk=> ?_
  delta tOf
  rw[(D.sh 2 k (by decide) (hTm k hk)).one.1]
 have hTl:T.length≤1000:=by lia
 refine jh<|qk<|jz<|ja rfl<|Uw (fun p hp=>nomatch hp)<|vo<|ja E5<|Yz (loc:=upd (upd ll 6 (.ref t)) 7 (.ref as)) (L:=T) (u:=fun k=>.int (-((ppt g ws 2 k:Nat):Int))) (v:=fun k=>.int (k:Int)) (el:=fun k:Nat=>.tup [.int (k:Int),.flt (xsh g ws 2 k)]) (jS ho') hTl (fun k hk Ψ' q=>kA<|jf<|ja rfl<|jf<|jE<|Vl<|ja rfl<|Kq<|js<|i_divp (D.sh 2 k (by decide) (hTm k hk))<|jo ⟨Nat.le_of_ble_eq_true rfl,q⟩) fun r hr=>⟨_,_,je hr ht',jc,?_⟩
 have q:=eq_told (x:=xsh g ws) (L:=T) fun k hk=>by
  have S:=D.sh 2 k (by decide) (hTm k hk)
  rw[(S.rel S).eq];exact decide_eq_true rfl
 rw[q.2]
 refine ⟨fun _=>q.1,_,rfl,(fun h=>nomatch h),fun _=>jt<|jb ?_⟩
 have B1:vv c1 c3 c4 g ws wl pa (upd o r (.list (T.map fun k:Nat=>.tup [.int (k:Int),.flt (xsh g ws 2 k)]))):=B.sub fun a v e=>je hr (hs a v e)
 have hsub:∀{a v},o a=some v->upd o r (.list (T.map fun k:Nat=>.tup [.int (k:Int),.flt (xsh g ws 2 k)])) a=some v:=fun e=>je hr e
 have hol:(T.map (yl (ppt g ws))).getLast? =some (.tup [.int (-((ppt g ws 2 tk:Nat):Int)),.int (tk:Int)]):=by rw[List.getLast?_map,hT];rfl
 have h8':=hsub (hs _ _ h8)
 have h9':=hsub (hs _ _ h9)
 refine jh<|ju<|Vl<|ka<|ka<|ja E5<|Vl<|js<|Kq<|zO (hsub ho') hol<|js<|Ov (i:=0) rfl (Nat.le_of_ble_eq_true rfl)<|Kq ?_
 rw[Int.neg_neg]
 have put:∀{a:Addr} {L:List AV},o a=some (.list L)->upd (upd o r (.list (T.map fun k:Nat=>.tup [.int (k:Int),.flt (xsh g ws 2 k)]))) c8 (.cell (some (.int (ppt g ws 2 tk:Nat)))) a=some (.list L):=fun{a L} e=>by
  rw[ji (fun q=>by rw[q,hs _ _ h8]at e;cases e)];exact hsub e
 refine zg E8 h8'<|jb<|vc350b X D hg hga hws hN3 Bf hTw (B1.cell h8' (.inl rfl)) ⟨E1,E3,E4,E8,E9,rfl,rfl⟩ h89 jc (by rw[ji (Ne.symm h89)];exact h9') (put ht) (put has) (put hA0) (put hA1) hT h
end
end
section
section
variable {C:Cx} {lv:Nat} {loc:Loc} {Z:Sig} {Ψ:K1} {c1 c3 c4 c8 c9 wl pa sa:Addr} {sl:List AV} {g:Str} {ws:List Str}
theorem i_slL(h1:∀Ψ':K1,Ψ' (.ref a) Z->W loc Z Ψ')(hg:vQ C Z a l)(hl:l.length≤1000)(k:∀c,Z c=none->Ψ (.ref c) (upd Z c (.list (l.take n)))):y6 C W (jm .none) (jm (.int (n:Int))) loc Z Ψ:=
 h1 _ ⟨l,hg,hl,fun c hc=>by rw[vq];exact k c hc⟩
theorem i_cone{α:Type}{fm:List (Nat×Nat)}{a:Addr}{L:List α}{u el:α->AV}{We:WE}(h0:fm.lookup 0=none)(hg:vQ C Z a (L.map u))(hl:L.length≤1000)(he:∀k∈L,∀Ψ':K1,Ψ' (el k) Z->We (upd (wE fm loc) 0 (u k)) Z Ψ')(h:∀r,Z r=none->Ψ (.ref r) (upd Z r (.list (L.map el)))):zj C (.ref a) Z (YL fm (jw 0) k5 We loc Ψ):=by
 refine vB hg ⟨by rw[List.length_map];exact hl,fun i ys o=>ys=(L.take i).map el∧Z=o,⟨rfl,rfl⟩,?_,?_⟩
 ·rintro i ys _ ⟨rfl,rfl⟩ hi
  refine ⟨hg,by rw[List.length_map];exact List.length_take_le _ _,fun x hx=> ?_⟩
  rw[List.getElem?_map]at hx
  obtain ⟨k,hk,rfl⟩:=Option.map_eq_some_iff.mp hx
  refine jr ⟨UT h0,qI ⟨fun _=>he k (List.mem_of_getElem? hk) _ ⟨_,⟨?_,rfl⟩,.refl _⟩,(fun h=>nomatch h)⟩⟩
  rw[List.take_add_one,hk,List.map_append];rfl
 ·rintro ys _ ⟨rfl,rfl⟩ r hr
  rw[List.length_map,List.take_length]
  exact h r hr
theorem i_pts(X:PC C)(hg:g.length<8)(hws:∀u∈ws,u.length<8)(hN:ws.length≤50)(hw:Z wl=some (.list (ws.map .str)))(h1:Z c1=some (.cell (some (.str g))))(e1:loc 1=some (.ref c1))(h:∀r o,j3 Z o->Z r=none->(∃rs:List Addr,o r=some (.list (rs.map .ref))∧rs.length=ws.length∧∀k r,rs[k]? =some r->o r=some (.list ((pts (ws.getD k nul) g).map fun n:Nat=>.int (n:Int))))->Ψ (.ref r) o):zj C (.ref wl) Z (YL [(1,1)] (jw 0) k5 (jy C (lv+2) (jm (.ref 338)) (jg (jd 0) (jg (k9 1) jq))) loc Ψ):=by
 have hN':(ws.map AV.str).length≤1000:=by rw[List.length_map];exact Nat.le_trans hN (by decide)
 refine vB (jS hw) ⟨hN',fun i ys o=>∃rs:List Addr,ys=rs.map .ref∧rs.length=i∧j3 Z o∧∀k r,rs[k]? =some r->o r=some (.list ((pts (ws.getD k nul) g).map fun n:Nat=>.int (n:Int))),⟨[],rfl,rfl,.refl _,fun k r e=>nomatch e⟩,?_,?_⟩
 ·rintro i ys o ⟨rs,rfl,rfl,hs,hrs⟩ hi
  rw[List.length_map]at hi
  refine ⟨jS (hs _ _ hw),by rw[List.length_map];exact Nat.le_refl _,fun x hx=> ?_⟩
  have hk:rs.length<ws.length:=by
   have:=(List.getElem?_eq_some_iff.mp hx).1
   rw[List.length_map]at this;exact this
  rw[Xt hk]at hx
  cases hx
  have hku:(ws.getD rs.length nul).length<8:=hws _ (by rw[List.getD_eq_getElem?_getD,List.getElem?_eq_getElem hk];exact List.getElem_mem _)
  refine jr ⟨UT rfl,qI ⟨fun _=>ke (jA rfl)<|jf<|ja rfl<|jf<|k7 (c:=c1) e1 (hs _ _ h1)<|jo ⟨jA rfl,spec338 X hku hg fun r hr=>⟨_,⟨rs++[r],by rw[List.map_append];rfl,by rw[List.length_append];rfl,fun a v e=>je hr (hs a v e),fun k r' e=> ?_⟩,.refl _⟩⟩,(fun h=>nomatch h)⟩⟩
  by_cases q:k<rs.length
  ·rw[List.getElem?_append_left q]at e
   exact je hr (hrs k r' e)
  ·have q':k=rs.length:=by
    have:=(List.getElem?_eq_some_iff.mp e).1
    rw[List.length_append,List.length_singleton]at this
    lia
   subst q'
   rw[List.getElem?_concat_length]at e
   cases e
   exact jc
 ·rintro ys o ⟨rs,rfl,hl,hs,hrs⟩ a ha
  rw[List.length_map]at hl
  refine h a _ (fun b v e=>je ha (hs b v e)) ?_ ⟨rs,jc,hl,fun k r e=>je ha (hrs k r e)⟩
  cases e:Z a with
  |none=>rfl
  |some v=>rw[hs _ _ e]at ha;cases ha
noncomputable def lwW(xs:List Int):List Str:=([39,149,0]++xs.take 9).map lwS
noncomputable def lwG(xs:List Int):Str:=lwS (633+xs.sum)
noncomputable def lwN(xs:List Int):Nat:=1+(xs.sum.fmod 4).toNat
theorem Zu(x:Int):(lwS x).cps.all (·<128)=true:=by
 rw[←Array.all_toList,List.all_eq_true]
 intro c hc
 have:=Yq hc
 exact decide_eq_true (by lia)
theorem V5:0<lwN xs∧lwN xs≤(lwW xs).length:=by
 delta lwN lwW
 refine ⟨Nat.lt_of_lt_of_le Nat.one_pos (Nat.le_add_right _ _),?_⟩
 rw[List.length_map,List.length_append,List.length_take]
 have h1:=Int.fmod_nonneg_of_pos xs.sum (b:=4) (by decide)
 have h2:=Int.fmod_lt_of_pos xs.sum (b:=4) (by decide)
 cases xs with
 |nil=>decide
 |cons x xs=>
  have hx:(x::xs).length=xs.length+1:=rfl
  show 1+_≤3+min 9 (x::xs).length
  lia
theorem lwW_len:(lwW xs).length≤50∧3≤(lwW xs).length:=by
 delta lwW
 rw[List.length_map,List.length_append,List.length_take]
 show 3+_≤50∧3≤3+_
 lia
theorem vc350d(X:PC C){xs:List Int}{ll:Loc}(hxs:xs.length≤1000)(n13:c1≠c3)(n14:c1≠c4)(n18:c1≠c8)(n19:c1≠c9)(n34:c3≠c4)(n38:c3≠c8)(n39:c3≠c9)(n48:c4≠c8)(n49:c4≠c9)(n89:c8≠c9)(h1:Z c1=some (.cell none))(h3:Z c3=some (.cell none))(h4:Z c4=some (.cell none))(h8:Z c8=some (.cell none))(h9:Z c9=some (.cell none))(hro:C.ro sa=some (xs.map .int))(h248:Z 248=some (.tab 411 22))(e0:ll 0=some (.ref sa))(E1:ll 1=some (.ref c1))(E3:ll 3=some (.ref c3))(E4:ll 4=some (.ref c4))(E8:ll 8=some (.ref c8))(E9:ll 9=some (.ref c9))(h:∀o,o 248=some (.tab 411 22)->Ψ (.bool true) o):Xu C (lv+6) ll Z (j9 Ψ):=by
 have hmx:(xs.map AV.int).length≤1000:=by rw[List.length_map];exact hxs
 have hio:Km (xs.map AV.int)=some xs:=by
  have:=Kl (f:=fun i:Int=>i) (l:=xs)
  rw[List.map_id']at this;exact this
 have hf1:=Int.fmod_nonneg_of_pos xs.sum (b:=4) (by decide)
 refine jh<|ju<|kA<|jf<|ke (jA rfl)<|jf<|jE<|js<|ke trivial<|jf<|ja e0<|jo ⟨_,_,(.inl hro),hio,jP rfl<|jo ⟨jA rfl,X7 X<|jf<|jE<|js<|jE<|ke trivial<|jf<|ja e0<|jo ⟨_,_,(.inl hro),hio,js<|i_mod (by decide) rfl<|jP (c:=((lwN xs:Nat):Int)) (by delta lwN;lia)<|jo ⟨Nat.le_of_ble_eq_true rfl,_,rfl,rfl,_,_,rfl,zg E1 h1 ⟨_,_,rfl,jr<|wf<|jb ?_⟩⟩⟩⟩⟩
 have K1:∀{a:Addr} {v:AO},a≠c1->Z a=some v->upd Z c1 (.cell (some (.str (lwG xs)))) a=some v:=fun ha e=>by rw[ji ha];exact e
 have g1:upd Z c1 (.cell (some (.str (lwG xs)))) c1=some (.cell (some (.str (lwG xs)))):=jc
 have t1:=K1 (fun q=>by rw[q,h1]at h248;cases h248) h248
 have a3:=K1 (Ne.symm n13) h3
 have a4:=K1 (Ne.symm n14) h4
 have a8:=K1 (Ne.symm n18) h8
 have a9:=K1 (Ne.symm n19) h9
 clear K1 h1 h3 h4 h8 h9 h248
 change Xv C (lv+6) _ (upd Z c1 (.cell (some (.str (lwG xs))))) _
 generalize upd Z c1 (.cell (some (.str (lwG xs))))=Z1 at g1 t1 a3 a4 a8 a9⊢
 refine jh<|ju<|Uw (fun p hp=>nomatch hp)<|vo<|jE<|qS<|jf<|js<|jf<|js<|jf<|js<|jo ⟨Nat.le_of_ble_eq_true rfl,fun u1 hu1=>i_slL (n:=9) (fun _ k=>ja e0 k) (.inl hro) hmx fun u2 hu2=> ?_⟩
 have ec:(xs.map AV.int).take 9=(xs.take 9).map .int:=List.map_take.symm
 rw[ec]
 refine ⟨_,_,je hu2 jc,jc,?_,fun u3 hu3=> ?_⟩
 ·rw[List.length_map,List.length_take]
  show 3+_≤1000
  lia
 have ec2:[AV.int 39,.int 149,.int 0]++(xs.take 9).map AV.int=([39,149,0]++xs.take 9).map AV.int:=by rw[List.map_append];rfl
 rw[ec2]
 have hwl0:=lwW_len (xs:=xs)
 have hLl:([39,149,0]++xs.take 9).length≤1000:=by
  have e:(lwW xs).length=([39,149,0]++xs.take 9).length:=List.length_map ..
  lia
 have sub2:j3 Z1 (upd (upd (upd Z1 u1 (.list [.int 39,.int 149,.int 0])) u2 (.list ((xs.take 9).map AV.int))) u3 (.list (([39,149,0]++xs.take 9).map AV.int))):=fun a v e=>je hu3 (je hu2 (je hu1 e))
 have gu3:upd (upd (upd Z1 u1 (.list [.int 39,.int 149,.int 0])) u2 (.list ((xs.take 9).map AV.int))) u3 (.list (([39,149,0]++xs.take 9).map AV.int)) u3=some (.list (([39,149,0]++xs.take 9).map AV.int)):=jc
 generalize upd (upd (upd Z1 u1 (.list [.int 39,.int 149,.int 0])) u2 (.list ((xs.take 9).map AV.int))) u3 (.list (([39,149,0]++xs.take 9).map AV.int))=Z2 at sub2 gu3⊢
 refine i_cone (u:=AV.int) (el:=fun x=>.str (lwS x)) rfl (jS gu3) hLl (fun x _ Ψ' q=>ke (jA rfl)<|jf<|ja rfl<|jo ⟨jA rfl,X7 X q⟩) fun wl hwl=>zg E3 (je hwl (sub2 _ _ a3))<|jb ?_
 have ew:(([39,149,0]++xs.take 9).map fun x=>AV.str (lwS x))=(lwW xs).map .str:=by delta lwW;rw[List.map_map];rfl
 rw[ew]
 have K2:∀{a:Addr} {v:AO},a≠c3->Z1 a=some v->upd (upd Z2 wl (.list ((lwW xs).map .str))) c3 (.cell (some (.ref wl))) a=some v:=fun ha e=>by rw[ji ha];exact je hwl (sub2 _ _ e)
 have hw3:wl≠c3:=fun q=>by rw[q,sub2 _ _ a3]at hwl;cases hwl
 have b1:=K2 n13 g1
 have bw:upd (upd Z2 wl (.list ((lwW xs).map .str))) c3 (.cell (some (.ref wl))) wl=some (.list ((lwW xs).map .str)):=by rw[ji hw3];exact jc
 have b3:upd (upd Z2 wl (.list ((lwW xs).map .str))) c3 (.cell (some (.ref wl))) c3=some (.cell (some (.ref wl))):=jc
 have bt:=K2 (fun q=>by rw[q,a3]at t1;cases t1) t1
 have b4:=K2 (Ne.symm n34) a4
 have b8:=K2 (Ne.symm n38) a8
 have b9:=K2 (Ne.symm n39) a9
 clear K2 g1 t1 a3 a4 a8 a9 sub2 gu3 hwl
 generalize upd (upd Z2 wl (.list ((lwW xs).map .str))) c3 (.cell (some (.ref wl)))=Z3 at b1 bw b3 bt b4 b8 b9⊢
 have hgl:(lwG xs).length<8:=Un _
 have hga:(lwG xs).cps.all (·<128)=true:=Zu _
 have hwsa:∀u∈lwW xs,u.length<8∧abc u.cps.toList:=fun u hu=>by
  obtain ⟨x,_,rfl⟩:=List.mem_map.mp hu
  exact ⟨Un _,fun c hc=>Yq hc⟩
 have hws:∀u∈lwW xs,u.length<8:=fun u hu=>(hwsa u hu).1
 have D:=ZS hgl hwsa hwl0.1
 refine jh<|ju<|Uw (fun p hp=>⟨c1,by rw[List.mem_singleton.mp hp];exact E1⟩)<|vo<|k7 E3 b3<|i_pts X hgl hws hwl0.1 bw b1 E1 fun pa o hs hpa hrs=>zg E4 (hs _ _ b4)<|jb ?_
 obtain ⟨rs,p1,p2,p3⟩:=hrs
 have K3:∀{a:Addr} {v:AO},a≠c4->o a=some v->upd o c4 (.cell (some (.ref pa))) a=some v:=fun ha e=>by rw[ji ha];exact e
 have o4:=hs _ _ b4
 have l4:∀{a:Addr} {L:List AV},o a=some (.list L)->upd o c4 (.cell (some (.ref pa))) a=some (.list L):=fun{a L} e=>K3 (fun q=>by rw[q,o4]at e;cases e) e
 have B:vv c1 c3 c4 (lwG xs) (lwW xs) wl pa (upd o c4 (.cell (some (.ref pa)))):=⟨K3 n14 (hs _ _ b1),K3 n34 (hs _ _ b3),l4 (hs _ _ bw),jc,⟨rs,l4 p1,p2,fun k r e=>l4 (p3 k r e)⟩,K3 (fun q=>by have:=hs _ _ bt;rw[q,o4]at this;cases this) (hs _ _ bt)⟩
 have d8:=K3 (Ne.symm n48) (hs _ _ b8)
 have d9:=K3 (Ne.symm n49) (hs _ _ b9)
 clear K3 l4 o4 p1 p2 p3 b1 bw b3 bt b4 b8 b9 hs hpa
 generalize upd o c4 (.cell (some (.ref pa)))=Z4 at B d8 d9⊢
 have hN:=hwl0.1
 have hNle:lwN xs≤1000:=Nat.le_trans V5.2 (Nat.le_trans hN (by decide))
 refine jh<|ju<|i_slc ⟨rfl,Xb (N:=(lwW xs).length) (cnd:=fun _=>true) (el:=yl (ppt (lwG xs) (lwW xs))) (Nat.le_trans hN (by decide)) (fun p hp=>⟨c4,by rw[List.mem_singleton.mp hp];exact E4⟩) rfl (fun _ k=>Yy B E3 hN k) (fun k hk Ξ hΞ=>hΞ) (fun k hk _ Ψ' q=>kA<|jf<|Vl<|Yx B E4 hk (by decide) hN (fun _ k=>ja rfl k) (fun _ k=>js k)<|Kq<|jf<|ja rfl<|jo ⟨Nat.le_of_ble_eq_true rfl,q⟩) fun a ha=> ?_⟩
 have ef:(List.range (lwW xs).length).filter (fun _=>true)=List.range (lwW xs).length:=List.filter_eq_self.mpr fun _ _=>rfl
 rw[ef]
 have hll:((List.range (lwW xs).length).map (yl (ppt (lwG xs) (lwW xs)))).length<64:=by rw[List.length_map,List.length_range];lia
 refine ⟨a,_,rfl,jS jc,hll,.oT 1 (fun x hx=> ?_) (fun x hx y hy=> ?_),fun c hc=> ?_⟩
 ·obtain ⟨k,_,rfl⟩:=List.mem_map.mp hx
  exact ⟨_,_,rfl,rfl⟩
 ·obtain ⟨k,_,rfl⟩:=List.mem_map.mp hx
  obtain ⟨j,_,rfl⟩:=List.mem_map.mp hy
  rfl
 ·refine js<|ja rfl ⟨_,jS jc,by rw[qp.length_eq];exact Nat.le_trans (Nat.le_of_lt hll) (by decide),fun od hod=>jr<|jb ?_⟩
  rw[vq]
  have hs:j3 Z4 (upd (upd (upd Z4 a (.list ((List.range (lwW xs).length).map (yl (ppt (lwG xs) (lwW xs)))))) c (.list (jT ltA false ((List.range (lwW xs).length).map (yl (ppt (lwG xs) (lwW xs))))))) od (.list ((jT ltA false ((List.range (lwW xs).length).map (yl (ppt (lwG xs) (lwW xs))))).take (lwN xs)))):=fun b v e=>je hod (je hc (je ha e))
  exact vc350c X D hgl hga hws hwl0.2 V5.1 V5.2 (B.sub hs) E1 rfl E3 E4 rfl E8 E9 n89 (hs _ _ d8) (hs _ _ d9) jc fun o' B'=>h o' B'.ft
theorem spec350(X:PC C){xs:List Int}(hxs:xs.length≤1000)(hro:C.ro sa=some (xs.map .int))(h248:Z 248=some (.tab 411 22))(h:∀o,o 248=some (.tab 411 22)->Ψ (.bool true) o):jC C (lv+7) (.ref 350) [.ref sa] Z Ψ:=by
 refine jM X (X.fn 12 rfl) chk350 rfl (wd fun _ _=>rfl) fun A env x1 x2 x3 cs z k T hcd hcl hcn hcf R tk=>SpB.use (kj ⟨_,_,_,_,_,k,T⟩ (der350 _ _)) R tk ?_
 obtain ⟨c1,c3,c4,c8,c9,rfl⟩:∃a b c d e,cs=[a,b,c,d,e]:=len5 hcl fun a b c d e=>⟨a,b,c,d,e,rfl⟩
 have f1:=hcf c1 (.head _)
 have f3:=hcf c3 (.tail _ (.head _))
 have f4:=hcf c4 (.tail _ (.tail _ (.head _)))
 have f8:=hcf c8 (.tail _ (.tail _ (.tail _ (.head _))))
 have f9:=hcf c9 (.tail _ (.tail _ (.tail _ (.tail _ (.head _)))))
 simp only[List.nodup_cons,List.mem_cons,List.not_mem_nil,or_false,not_or]at hcn
 obtain ⟨⟨n13,n14,n18,n19⟩,⟨n34,n38,n39⟩,⟨n48,n49⟩,n89,_⟩:=hcn
 have g1:upd (upd (upd (upd (upd Z c1 (.cell none)) c3 (.cell none)) c4 (.cell none)) c8 (.cell none)) c9 (.cell none) c1=some (.cell none):=by rw[ji n19,ji n18,ji n14,ji n13];exact jc
 have g3:upd (upd (upd (upd (upd Z c1 (.cell none)) c3 (.cell none)) c4 (.cell none)) c8 (.cell none)) c9 (.cell none) c3=some (.cell none):=by rw[ji n39,ji n38,ji n34];exact jc
 have g4:upd (upd (upd (upd (upd Z c1 (.cell none)) c3 (.cell none)) c4 (.cell none)) c8 (.cell none)) c9 (.cell none) c4=some (.cell none):=by rw[ji n49,ji n48];exact jc
 have g8:upd (upd (upd (upd (upd Z c1 (.cell none)) c3 (.cell none)) c4 (.cell none)) c8 (.cell none)) c9 (.cell none) c8=some (.cell none):=by rw[ji n89];exact jc
 have hk:∀{a:Addr} {v:AO},Z a=some v->upd (upd (upd (upd (upd Z c1 (.cell none)) c3 (.cell none)) c4 (.cell none)) c8 (.cell none)) c9 (.cell none) a=some v:=fun{a v} e=>by
  have q:∀{c},Z c=none->a≠c:=fun hc q=>by rw[q,hc]at e;cases e
  rw[ji (q f9),ji (q f8),ji (q f4),ji (q f3),ji (q f1)];exact e
 exact vc350d X hxs n13 n14 n18 n19 n34 n38 n39 n48 n49 n89 g1 g3 g4 g8 jc hro (hk h248) rfl rfl rfl rfl rfl rfl h
end
end
end
section
open PySem PySem.W PyProof.Rows PySem.Calls
set_option maxHeartbeats 8000000
structure Bd where
 D:Str
 R:List Stmt
 a:List PySem.Expr
 v:PySem.Expr
 o:Option PySem.Expr
 b:List Stmt
 c:List Stmt
noncomputable abbrev XB:=Nat->Nat->Bd
inductive IsF(f:Bd->Stmt):Type|mk:IsF f
inductive IsS(s:Stmt):Type|mk:IsS s
inductive IsC(f:List Stmt->Stmt):Type|mk:IsC f
inductive IsN{α:Type}(l:List α):Type|mk:IsN l
noncomputable def kE{α:Type}{l:List α}(_:IsN l):List α:=l
inductive IsP(f:List Stmt->Program):Type|mk:IsP f
noncomputable def qc{f:Bd->Stmt}(_:IsF f):Bd->Stmt:=f
noncomputable def wh{s:Stmt}(_:IsS s):Stmt:=s
noncomputable def getC{f:List Stmt->Stmt}(_:IsC f):List Stmt->Stmt:=f
noncomputable def getP{f:List Stmt->Program}(_:IsP f):List Stmt->Program:=f
section
variable {s:Stmt} {n:Str} {a:Arguments} {B R b1 b2:List Stmt} {d ts:List PySem.Expr} {r o o2:Option PySem.Expr} {t:List TypeParam} {l:Scope} {u:Option Scope} {b D:Str} {p q z:Pos} {kk:Nat} {e v:PySem.Expr} {kw:List Keyword} {sa:List Str}
noncomputable def vj(_:s=.FunctionDef n a (.Expr (.Constant (.str D) kk p) q::R) d r t l u b z):IsF (fun x=>.FunctionDef n a (.Expr (.Constant (.str x.D) kk p) q::x.R) d r t l u b z):=.mk
noncomputable def ja1(_:s=.FunctionDef n a (.Assign ts v p::R) d r t l u b z):IsF (fun x=>.FunctionDef n a (.Assign x.a x.v p::x.R) d r t l u b z):=.mk
noncomputable def shIf(_:s=.FunctionDef n a (.If v b1 b2 p::R) d r t l u b z):IsF (fun x=>.FunctionDef n a (.If x.v x.b x.c p::x.R) d r t l u b z):=.mk
noncomputable def shWhile(_:s=.FunctionDef n a (.While v b1 b2 p::R) d r t l u b z):IsF (fun x=>.FunctionDef n a (.While x.v x.b x.c p::x.R) d r t l u b z):=.mk
noncomputable def shRet(_:s=.FunctionDef n a (.Return o p::R) d r t l u b z):IsF (fun x=>.FunctionDef n a (.Return x.o p::x.R) d r t l u b z):=.mk
noncomputable def shRai(_:s=.FunctionDef n a (.Raise o o2 p::R) d r t l u b z):IsF (fun x=>.FunctionDef n a (.Raise x.o o2 p::x.R) d r t l u b z):=.mk
noncomputable def shEx(_:s=.FunctionDef n a (.Expr e p::R) d r t l u b z):IsF (fun x=>.FunctionDef n a (.Expr e p::x.R) d r t l u b z):=.mk
noncomputable def ja2(m:Scope)(_:s=.FunctionDef n a (.Expr (.Constant (.str D) kk p) q::R) d r t l u b z):IsF (fun x=>.FunctionDef n a (.Expr (.Constant (.str x.D) kk p) q::x.R) d r t m u b z):=.mk
noncomputable def UX(m:Scope)(_:s=.FunctionDef n a (.Assign ts v p::R) d r t l u b z):IsF (fun x=>.FunctionDef n a (.Assign x.a x.v p::x.R) d r t m u b z):=.mk
noncomputable def scIf(m:Scope)(_:s=.FunctionDef n a (.If v b1 b2 p::R) d r t l u b z):IsF (fun x=>.FunctionDef n a (.If x.v x.b x.c p::x.R) d r t m u b z):=.mk
noncomputable def scC(m:Scope)(_:s=.ClassDef n d kw B ts t l u b sa z):IsC (fun x=>.ClassDef n d kw x ts t m u b sa z):=.mk
noncomputable def shC(_:s=.ClassDef n d kw B ts t l u b sa z):IsC (fun x=>.ClassDef n d kw x ts t l u b sa z):=.mk
noncomputable def shE(_:s=.Expr e p):IsS (.Expr e p):=.mk
noncomputable def shA(_:s=.Assign ts v p):IsS (.Assign ts v p):=.mk
noncomputable def shI{m:Option Str}{al:List Alias}{lv:Option Int}(_:s=.ImportFrom m al lv p):IsS (.ImportFrom m al lv p):=.mk
noncomputable def scP{P:Program}(m:Scope){c1:Bool}{c2:Str}{c3:List (Str×Const)}{c4:List (Str×Bool×Module)}{c5 c7:List Parse}{c6:List Str}{c8:Given}(_:P=⟨⟨B,l,c1,c2,c3⟩,c4,c5,c6,c7,c8⟩):IsP (fun x=>⟨⟨x,m,c1,c2,c3⟩,c4,c5,c6,c7,c8⟩):=.mk
noncomputable def sn1{α:Type}{x0:α}{w:List α}(_:w=[x0]):IsN [x0]:=.mk
noncomputable def sn2{α:Type}{x0 x1:α}{w:List α}(_:w=[x0,x1]):IsN [x0,x1]:=.mk
noncomputable def sn3{α:Type}{x0 x1 x2:α}{w:List α}(_:w=[x0,x1,x2]):IsN [x0,x1,x2]:=.mk
noncomputable def sn4{α:Type}{x0 x1 x2 x3:α}{w:List α}(_:w=[x0,x1,x2,x3]):IsN [x0,x1,x2,x3]:=.mk
noncomputable def sn5{α:Type}{x0 x1 x2 x3 x4:α}{w:List α}(_:w=[x0,x1,x2,x3,x4]):IsN [x0,x1,x2,x3,x4]:=.mk
noncomputable def sn6{α:Type}{x0 x1 x2 x3 x4 x5:α}{w:List α}(_:w=[x0,x1,x2,x3,x4,x5]):IsN [x0,x1,x2,x3,x4,x5]:=.mk
noncomputable def sn7{α:Type}{x0 x1 x2 x3 x4 x5 x6:α}{w:List α}(_:w=[x0,x1,x2,x3,x4,x5,x6]):IsN [x0,x1,x2,x3,x4,x5,x6]:=.mk
end
noncomputable def kT:Stmt->Scope
 | .FunctionDef _ _ _ _ _ _ s _ _ _=>s
 | .ClassDef _ _ _ _ _ _ s _ _ _ _=>s
 |_=>default
noncomputable def bdOf:Stmt->Bd
 | .FunctionDef _ _ (.Expr (.Constant (.str D) _ _) _::R) _ _ _ _ _ _ _=>⟨D,R,[],default,none,[],[]⟩
 | .FunctionDef _ _ (.Assign ts v _::R) _ _ _ _ _ _ _=>⟨⟨#[]⟩,R,ts,v,none,[],[]⟩
 | .FunctionDef _ _ (.If v b c _::R) _ _ _ _ _ _ _=>⟨⟨#[]⟩,R,[],v,none,b,c⟩
 | .FunctionDef _ _ (.While v b c _::R) _ _ _ _ _ _ _=>⟨⟨#[]⟩,R,[],v,none,b,c⟩
 | .FunctionDef _ _ (.Return o _::R) _ _ _ _ _ _ _=>⟨⟨#[]⟩,R,[],default,o,[],[]⟩
 | .FunctionDef _ _ (.Raise o _ _::R) _ _ _ _ _ _ _=>⟨⟨#[]⟩,R,[],default,o,[],[]⟩
 | .FunctionDef _ _ (_::R) _ _ _ _ _ _ _=>⟨⟨#[]⟩,R,[],default,none,[],[]⟩
 |_=>⟨⟨#[]⟩,[],[],default,none,[],[]⟩
noncomputable def X0:XB:=fun i j=>bdOf (jL i j)
noncomputable def t0:Stmt:=wh (.mk:type_of% (shI (Eq.refl (jD 0))))
noncomputable def t1b:Bd->Stmt:=qc (.mk:type_of% (shWhile (Eq.refl (jD 1))))
noncomputable def t1(X:XB):Stmt:=t1b (X 1 0)
noncomputable def t2:Stmt:=wh (.mk:type_of% (shA (Eq.refl (jD 2))))
noncomputable def t3_0:Bd->Stmt:=qc (.mk:type_of% (ja1 (Eq.refl (jL 3 0))))
noncomputable def t3_1:Bd->Stmt:=qc (.mk:type_of% (shIf (Eq.refl (jL 3 1))))
noncomputable def t3_2:Bd->Stmt:=qc (.mk:type_of% (shRai (Eq.refl (jL 3 2))))
noncomputable def t3_3:Bd->Stmt:=qc (.mk:type_of% (shRai (Eq.refl (jL 3 3))))
noncomputable def t3c:List Stmt->Stmt:=getC (.mk:type_of% (shC (Eq.refl (jD 3))))
noncomputable def t3(X:XB):Stmt:=t3c [t3_0 (X 3 0),t3_1 (X 3 1),t3_2 (X 3 2),t3_3 (X 3 3)]
noncomputable def t4_0:Stmt:=wh (.mk:type_of% (shE (Eq.refl (jL 4 0))))
noncomputable def t4_1:Stmt:=wh (.mk:type_of% (shA (Eq.refl (jL 4 1))))
noncomputable def t4_2:Stmt:=wh (.mk:type_of% (shA (Eq.refl (jL 4 2))))
noncomputable def t4_3:Stmt:=wh (.mk:type_of% (shA (Eq.refl (jL 4 3))))
noncomputable def t4_4:Bd->Stmt:=qc (.mk:type_of% (vj (Eq.refl (jL 4 4))))
noncomputable def jaw:Bd->Stmt:=qc (.mk:type_of% (vj (Eq.refl (jL 4 5))))
noncomputable def t4_6:Bd->Stmt:=qc (.mk:type_of% (vj (Eq.refl (jL 4 6))))
noncomputable def t4_7:Stmt:=wh (.mk:type_of% (shA (Eq.refl (jL 4 7))))
noncomputable def t4_8:Bd->Stmt:=qc (.mk:type_of% (vj (Eq.refl (jL 4 8))))
noncomputable def t4_9:Bd->Stmt:=qc (.mk:type_of% (shEx (Eq.refl (jL 4 9))))
noncomputable def X4:Bd->Stmt:=qc (.mk:type_of% (vj (Eq.refl (jL 4 10))))
noncomputable def t4_11:Stmt:=wh (.mk:type_of% (shA (Eq.refl (jL 4 11))))
noncomputable def t4_12:Stmt:=wh (.mk:type_of% (shA (Eq.refl (jL 4 12))))
noncomputable def t4_13:Stmt:=wh (.mk:type_of% (shA (Eq.refl (jL 4 13))))
noncomputable def t4_14:Stmt:=wh (.mk:type_of% (shA (Eq.refl (jL 4 14))))
noncomputable def c4n0:List (Str×NameKind):=kE (.mk:type_of% (sn7 (Eq.refl (List.take 7 (List.drop 0 (kT (jD 4)).names)))))
noncomputable def c4n1:List (Str×NameKind):=kE (.mk:type_of% (sn7 (Eq.refl (List.take 7 (List.drop 7 (kT (jD 4)).names)))))
noncomputable def c4n2:List (Str×NameKind):=kE (.mk:type_of% (sn3 (Eq.refl (List.take 3 (List.drop 14 (kT (jD 4)).names)))))
noncomputable def c4:Scope:=⟨.class,c4n0++(c4n1++c4n2),false,false,[]⟩
noncomputable def t4c:List Stmt->Stmt:=getC (.mk:type_of% (scC c4 (Eq.refl (jD 4))))
noncomputable def t4(X:XB):Stmt:=t4c [t4_0,t4_1,t4_2,t4_3,t4_4 (X 4 4),jaw (X 4 5),t4_6 (X 4 6),t4_7,t4_8 (X 4 8),t4_9 (X 4 9),X4 (X 4 10),t4_11,t4_12,t4_13,t4_14]
noncomputable def t5b:Bd->Stmt:=qc (.mk:type_of% (shIf (Eq.refl (jD 5))))
noncomputable def t5(X:XB):Stmt:=t5b (X 5 0)
noncomputable def t6_0:Stmt:=wh (.mk:type_of% (shE (Eq.refl (jL 6 0))))
noncomputable def t6_1:Bd->Stmt:=qc (.mk:type_of% (vj (Eq.refl (jL 6 1))))
noncomputable def t6_2:Bd->Stmt:=qc (.mk:type_of% (vj (Eq.refl (jL 6 2))))
noncomputable def t6_3:Bd->Stmt:=qc (.mk:type_of% (vj (Eq.refl (jL 6 3))))
noncomputable def t6_4:Bd->Stmt:=qc (.mk:type_of% (vj (Eq.refl (jL 6 4))))
noncomputable def c65n0:List (Str×NameKind):=kE (.mk:type_of% (sn7 (Eq.refl (List.take 7 (List.drop 0 (kT (jL 6 5)).names)))))
noncomputable def c65n1:List (Str×NameKind):=kE (.mk:type_of% (sn7 (Eq.refl (List.take 7 (List.drop 7 (kT (jL 6 5)).names)))))
noncomputable def c65n2:List (Str×NameKind):=kE (.mk:type_of% (sn1 (Eq.refl (List.take 1 (List.drop 14 (kT (jL 6 5)).names)))))
noncomputable def c65:Scope:=⟨.function,c65n0++(c65n1++c65n2),false,false,[]⟩
noncomputable def t6_5:Bd->Stmt:=qc (.mk:type_of% (UX c65 (Eq.refl (jL 6 5))))
noncomputable def c66n0:List (Str×NameKind):=kE (.mk:type_of% (sn7 (Eq.refl (List.take 7 (List.drop 0 (kT (jL 6 6)).names)))))
noncomputable def c66n1:List (Str×NameKind):=kE (.mk:type_of% (sn7 (Eq.refl (List.take 7 (List.drop 7 (kT (jL 6 6)).names)))))
noncomputable def c66n2:List (Str×NameKind):=kE (.mk:type_of% (sn7 (Eq.refl (List.take 7 (List.drop 14 (kT (jL 6 6)).names)))))
noncomputable def c66n3:List (Str×NameKind):=kE (.mk:type_of% (sn1 (Eq.refl (List.take 1 (List.drop 21 (kT (jL 6 6)).names)))))
noncomputable def c66:Scope:=⟨.function,c66n0++(c66n1++(c66n2++c66n3)),false,false,[]⟩
noncomputable def t6_6:Bd->Stmt:=qc (.mk:type_of% (ja2 c66 (Eq.refl (jL 6 6))))
noncomputable def c67n0:List (Str×NameKind):=kE (.mk:type_of% (sn7 (Eq.refl (List.take 7 (List.drop 0 (kT (jL 6 7)).names)))))
noncomputable def c67n1:List (Str×NameKind):=kE (.mk:type_of% (sn7 (Eq.refl (List.take 7 (List.drop 7 (kT (jL 6 7)).names)))))
noncomputable def c67n2:List (Str×NameKind):=kE (.mk:type_of% (sn7 (Eq.refl (List.take 7 (List.drop 14 (kT (jL 6 7)).names)))))
noncomputable def c67n3:List (Str×NameKind):=kE (.mk:type_of% (sn3 (Eq.refl (List.take 3 (List.drop 21 (kT (jL 6 7)).names)))))
noncomputable def c67:Scope:=⟨.function,c67n0++(c67n1++(c67n2++c67n3)),false,false,[]⟩
noncomputable def t6_7:Bd->Stmt:=qc (.mk:type_of% (ja2 c67 (Eq.refl (jL 6 7))))
noncomputable def t6_8:Bd->Stmt:=qc (.mk:type_of% (shEx (Eq.refl (jL 6 8))))
noncomputable def t6_9:Bd->Stmt:=qc (.mk:type_of% (shEx (Eq.refl (jL 6 9))))
noncomputable def X3:Bd->Stmt:=qc (.mk:type_of% (vj (Eq.refl (jL 6 10))))
noncomputable def X2:Bd->Stmt:=qc (.mk:type_of% (vj (Eq.refl (jL 6 11))))
noncomputable def X1:Bd->Stmt:=qc (.mk:type_of% (vj (Eq.refl (jL 6 12))))
noncomputable def c6n0:List (Str×NameKind):=kE (.mk:type_of% (sn7 (Eq.refl (List.take 7 (List.drop 0 (kT (jD 6)).names)))))
noncomputable def c6n1:List (Str×NameKind):=kE (.mk:type_of% (sn5 (Eq.refl (List.take 5 (List.drop 7 (kT (jD 6)).names)))))
noncomputable def c6:Scope:=⟨.class,c6n0++c6n1,false,false,[]⟩
noncomputable def t6c:List Stmt->Stmt:=getC (.mk:type_of% (scC c6 (Eq.refl (jD 6))))
noncomputable def t6(X:XB):Stmt:=t6c [t6_0,t6_1 (X 6 1),t6_2 (X 6 2),t6_3 (X 6 3),t6_4 (X 6 4),t6_5 (X 6 5),t6_6 (X 6 6),t6_7 (X 6 7),t6_8 (X 6 8),t6_9 (X 6 9),X3 (X 6 10),X2 (X 6 11),X1 (X 6 12)]
noncomputable def t7:Stmt:=wh (.mk:type_of% (shA (Eq.refl (jD 7))))
noncomputable def c8n0:List (Str×NameKind):=kE (.mk:type_of% (sn7 (Eq.refl (List.take 7 (List.drop 0 (kT (jD 8)).names)))))
noncomputable def c8n1:List (Str×NameKind):=kE (.mk:type_of% (sn7 (Eq.refl (List.take 7 (List.drop 7 (kT (jD 8)).names)))))
noncomputable def c8n2:List (Str×NameKind):=kE (.mk:type_of% (sn7 (Eq.refl (List.take 7 (List.drop 14 (kT (jD 8)).names)))))
noncomputable def c8n3:List (Str×NameKind):=kE (.mk:type_of% (sn4 (Eq.refl (List.take 4 (List.drop 21 (kT (jD 8)).names)))))
noncomputable def c8m0:List (Str×Const):=kE (.mk:type_of% (sn7 (Eq.refl (List.take 7 (List.drop 0 (kT (jD 8)).more)))))
noncomputable def c8m1:List (Str×Const):=kE (.mk:type_of% (sn7 (Eq.refl (List.take 7 (List.drop 7 (kT (jD 8)).more)))))
noncomputable def c8m2:List (Str×Const):=kE (.mk:type_of% (sn1 (Eq.refl (List.take 1 (List.drop 14 (kT (jD 8)).more)))))
noncomputable def c8:Scope:=⟨.function,c8n0++(c8n1++(c8n2++c8n3)),false,false,c8m0++(c8m1++c8m2)⟩
noncomputable def t8b:Bd->Stmt:=qc (.mk:type_of% (scIf c8 (Eq.refl (jD 8))))
noncomputable def t8(X:XB):Stmt:=t8b (X 8 0)
noncomputable def t9:Stmt:=wh (.mk:type_of% (shA (Eq.refl (jD 9))))
noncomputable def c10n0:List (Str×NameKind):=kE (.mk:type_of% (sn7 (Eq.refl (List.take 7 (List.drop 0 (kT (jD 10)).names)))))
noncomputable def c10n1:List (Str×NameKind):=kE (.mk:type_of% (sn3 (Eq.refl (List.take 3 (List.drop 7 (kT (jD 10)).names)))))
noncomputable def c10m0:List (Str×Const):=kE (.mk:type_of% (sn7 (Eq.refl (List.take 7 (List.drop 0 (kT (jD 10)).more)))))
noncomputable def c10m1:List (Str×Const):=kE (.mk:type_of% (sn1 (Eq.refl (List.take 1 (List.drop 7 (kT (jD 10)).more)))))
noncomputable def c10:Scope:=⟨.function,c10n0++c10n1,false,false,c10m0++c10m1⟩
noncomputable def t10b:Bd->Stmt:=qc (.mk:type_of% (ja2 c10 (Eq.refl (jD 10))))
noncomputable def t10(X:XB):Stmt:=t10b (X 10 0)
noncomputable def t11:Stmt:=wh (.mk:type_of% (shA (Eq.refl (jD 11))))
noncomputable def t12b:Bd->Stmt:=qc (.mk:type_of% (vj (Eq.refl (jD 12))))
noncomputable def t12(X:XB):Stmt:=t12b (X 12 0)
noncomputable def t13b:Bd->Stmt:=qc (.mk:type_of% (vj (Eq.refl (jD 13))))
noncomputable def t13(X:XB):Stmt:=t13b (X 13 0)
noncomputable def t14:Stmt:=wh (.mk:type_of% (shA (Eq.refl (jD 14))))
noncomputable def t15b:Bd->Stmt:=qc (.mk:type_of% (vj (Eq.refl (jD 15))))
noncomputable def t15(X:XB):Stmt:=t15b (X 15 0)
noncomputable def t16:Stmt:=wh (.mk:type_of% (shA (Eq.refl (jD 16))))
noncomputable def t17b:Bd->Stmt:=qc (.mk:type_of% (ja1 (Eq.refl (jD 17))))
noncomputable def t17(X:XB):Stmt:=t17b (X 17 0)
noncomputable def t18b:Bd->Stmt:=qc (.mk:type_of% (ja1 (Eq.refl (jD 18))))
noncomputable def t18(X:XB):Stmt:=t18b (X 18 0)
noncomputable def t19:Stmt:=wh (.mk:type_of% (shA (Eq.refl (jD 19))))
noncomputable def t20b:Bd->Stmt:=qc (.mk:type_of% (shRet (Eq.refl (jD 20))))
noncomputable def t20(X:XB):Stmt:=t20b (X 20 0)
noncomputable def c21n0:List (Str×NameKind):=kE (.mk:type_of% (sn7 (Eq.refl (List.take 7 (List.drop 0 (kT (jD 21)).names)))))
noncomputable def c21n1:List (Str×NameKind):=kE (.mk:type_of% (sn7 (Eq.refl (List.take 7 (List.drop 7 (kT (jD 21)).names)))))
noncomputable def c21:Scope:=⟨.function,c21n0++c21n1,false,false,[]⟩
noncomputable def t21b:Bd->Stmt:=qc (.mk:type_of% (UX c21 (Eq.refl (jD 21))))
noncomputable def t21(X:XB):Stmt:=t21b (X 21 0)
noncomputable def c22n0:List (Str×NameKind):=kE (.mk:type_of% (sn7 (Eq.refl (List.take 7 (List.drop 0 (kT (jD 22)).names)))))
noncomputable def c22n1:List (Str×NameKind):=kE (.mk:type_of% (sn2 (Eq.refl (List.take 2 (List.drop 7 (kT (jD 22)).names)))))
noncomputable def c22m0:List (Str×Const):=kE (.mk:type_of% (sn7 (Eq.refl (List.take 7 (List.drop 0 (kT (jD 22)).more)))))
noncomputable def c22:Scope:=⟨.function,c22n0++c22n1,false,false,c22m0⟩
noncomputable def t22b:Bd->Stmt:=qc (.mk:type_of% (UX c22 (Eq.refl (jD 22))))
noncomputable def t22(X:XB):Stmt:=t22b (X 22 0)
noncomputable def c23n0:List (Str×NameKind):=kE (.mk:type_of% (sn7 (Eq.refl (List.take 7 (List.drop 0 (kT (jD 23)).names)))))
noncomputable def c23n1:List (Str×NameKind):=kE (.mk:type_of% (sn7 (Eq.refl (List.take 7 (List.drop 7 (kT (jD 23)).names)))))
noncomputable def c23n2:List (Str×NameKind):=kE (.mk:type_of% (sn3 (Eq.refl (List.take 3 (List.drop 14 (kT (jD 23)).names)))))
noncomputable def c23:Scope:=⟨.function,c23n0++(c23n1++c23n2),false,false,[]⟩
noncomputable def t23b:Bd->Stmt:=qc (.mk:type_of% (UX c23 (Eq.refl (jD 23))))
noncomputable def t23(X:XB):Stmt:=t23b (X 23 0)
noncomputable def c24n0:List (Str×NameKind):=kE (.mk:type_of% (sn7 (Eq.refl (List.take 7 (List.drop 0 (kT (jD 24)).names)))))
noncomputable def c24n1:List (Str×NameKind):=kE (.mk:type_of% (sn7 (Eq.refl (List.take 7 (List.drop 7 (kT (jD 24)).names)))))
noncomputable def c24n2:List (Str×NameKind):=kE (.mk:type_of% (sn6 (Eq.refl (List.take 6 (List.drop 14 (kT (jD 24)).names)))))
noncomputable def c24m0:List (Str×Const):=kE (.mk:type_of% (sn7 (Eq.refl (List.take 7 (List.drop 0 (kT (jD 24)).more)))))
noncomputable def c24m1:List (Str×Const):=kE (.mk:type_of% (sn7 (Eq.refl (List.take 7 (List.drop 7 (kT (jD 24)).more)))))
noncomputable def c24m2:List (Str×Const):=kE (.mk:type_of% (sn5 (Eq.refl (List.take 5 (List.drop 14 (kT (jD 24)).more)))))
noncomputable def c24:Scope:=⟨.function,c24n0++(c24n1++c24n2),false,false,c24m0++(c24m1++c24m2)⟩
noncomputable def t24b:Bd->Stmt:=qc (.mk:type_of% (UX c24 (Eq.refl (jD 24))))
noncomputable def t24(X:XB):Stmt:=t24b (X 24 0)
noncomputable def c0n0:List (Str×NameKind):=kE (.mk:type_of% (sn7 (Eq.refl (List.take 7 (List.drop 0 (PySem.Challenge.pw_kl0399_01.main.scope).names)))))
noncomputable def c0n1:List (Str×NameKind):=kE (.mk:type_of% (sn7 (Eq.refl (List.take 7 (List.drop 7 (PySem.Challenge.pw_kl0399_01.main.scope).names)))))
noncomputable def c0n2:List (Str×NameKind):=kE (.mk:type_of% (sn7 (Eq.refl (List.take 7 (List.drop 14 (PySem.Challenge.pw_kl0399_01.main.scope).names)))))
noncomputable def c0n3:List (Str×NameKind):=kE (.mk:type_of% (sn2 (Eq.refl (List.take 2 (List.drop 21 (PySem.Challenge.pw_kl0399_01.main.scope).names)))))
noncomputable def c0:Scope:=⟨.module,c0n0++(c0n1++(c0n2++c0n3)),false,false,[]⟩
noncomputable def pwB:List Stmt->Program:=getP (.mk:type_of% (scP c0 (Eq.refl PySem.Challenge.pw_kl0399_01)))
noncomputable def tl1(X:XB):List Stmt:=[t0,t1 X,t2,t3 X,t4 X,t5 X]
noncomputable def tl2(X:XB):List Stmt:=[t6 X,t7,t8 X,t9,t10 X,t11]
noncomputable def tl3(X:XB):List Stmt:=[t12 X,t13 X,t14,t15 X,t16,t17 X]
noncomputable def tl4(X:XB):List Stmt:=[t18 X,t19,t20 X,t21 X,t22 X,t23 X,t24 X]
noncomputable def pwT(X:XB):Program:=pwB (tl1 X++(tl2 X++(tl3 X++tl4 X)))
theorem Ua:pwT X0=PySem.Challenge.pw_kl0399_01:=by kernel_rfl!
noncomputable def docB:List Stmt->Str
 | .Expr (.Constant (.str s) _ _) _::_=>s
 |_=>⟨#[]⟩
noncomputable def wa:Stmt->Str
 | .FunctionDef _ _ b _ _ _ _ _ _ _=>docB b
 |_=>⟨#[]⟩
noncomputable def docC:Stmt->Str
 | .ClassDef _ _ _ b _ _ _ _ _ _ _=>docB b
 |_=>⟨#[]⟩
noncomputable def fd(st:Stmt)(qual:Str)(globals:Addr)(closure:List (Str×Addr))(dV kV doc pm:Value)(ann:Option Addr)(code ct:Value)(blt:Addr):FuncData:=
 match st with
 | .FunctionDef name params body _ _ _ scope _ _ _=>{name:=name,qualname:=qual,params:=params,body:=.stmts body,scope:=scope,globals:=globals,closure:=closure,defaults:=dV,kwdefaults:=kV,doc:=doc,pyModule:=pm,annotations:=ann,code:=code,closureTuple:=ct,builtins:=blt}
 |_=>default
noncomputable def n0:Str:=⟨⟨[95,95,110,97,109,101,95,95]⟩⟩
noncomputable def n1:Str:=⟨⟨[98,117,105,108,116,105,110,115]⟩⟩
noncomputable def n2:Str:=⟨⟨[95,95,100,111,99,95,95]⟩⟩
noncomputable def n3:Str:=⟨⟨[95,95,112,97,99,107,97,103,101,95,95]⟩⟩
noncomputable def n4:Str:=⟨⟨[95,95,108,111,97,100,101,114,95,95]⟩⟩
noncomputable def n5:Str:=⟨⟨[95,95,115,112,101,99,95,95]⟩⟩
noncomputable def jbw:Str:=⟨⟨[95,95,109,97,105,110,95,95]⟩⟩
noncomputable def Zt:Str:=⟨⟨[95,104,101,97,112,113]⟩⟩
noncomputable def n173:Str:=⟨⟨[95,95,97,110,110,111,116,97,116,105,111,110,115,95,95]⟩⟩
noncomputable def n174:Str:=⟨⟨[95,95,98,117,105,108,116,105,110,115,95,95]⟩⟩
noncomputable def n175:Str:=⟨⟨[95,95,102,105,108,101,95,95]⟩⟩
noncomputable def jI:Str:=⟨⟨[47,99,108,97,105,109,47,99,117,116,46,112,121]⟩⟩
noncomputable def n177:Str:=⟨⟨[95,95,99,97,99,104,101,100,95,95]⟩⟩
noncomputable def n178:Str:=⟨⟨[104,101,97,112,105,102,121,95,104,101,97,112,113]⟩⟩
noncomputable def n179:Str:=⟨⟨[104,101,97,112,114,101,112,108,97,99,101,95,104,101,97,112,113]⟩⟩
noncomputable def n180:Str:=⟨⟨[60,109,111,100,117,108,101,62]⟩⟩
noncomputable def Ul:Str:=⟨⟨[104,101,97,112,105,102,121]⟩⟩
noncomputable def Uk:Str:=⟨⟨[104,101,97,112,114,101,112,108,97,99,101]⟩⟩
noncomputable def Vc:Str:=⟨⟨[]⟩⟩
noncomputable def n184:Str:=⟨⟨[104,101,97,112,112,117,115,104]⟩⟩
noncomputable def n185:Str:=⟨⟨[104,101,97,112,112,117,115,104,112,111,112]⟩⟩
noncomputable def Vb:Str:=⟨⟨[104,101,97,112,112,111,112]⟩⟩
noncomputable def n187:Str:=⟨⟨[95,104,101,97,112,112,111,112,95,109,97,120]⟩⟩
noncomputable def n188:Str:=⟨⟨[95,104,101,97,112,105,102,121,95,109,97,120]⟩⟩
noncomputable def n189:Str:=⟨⟨[95,104,101,97,112,114,101,112,108,97,99,101,95,109,97,120]⟩⟩
noncomputable def n190:Str:=⟨⟨[47,110,105,120,47,115,116,111,114,101,47,119,106,49,102,53,54,113,107,121,52,112,109,106,99,55,108,48,114,54,98,54,108,55,119,104,110,110,119,55,104,112,54,45,112,121,116,104,111,110,51,45,51,46,49,51,46,49,53,47,108,105,98,47,112,121,116,104,111,110,51,46,49,51,47,108,105,98,45,100,121,110,108,111,97,100,47,95,104,101,97,112,113,46,99,112,121,116,104,111,110,45,51,49,51,45,120,56,54,95,54,52,45,108,105,110,117,120,45,103,110,117,46,115,111]⟩⟩
noncomputable def n191:Str:=⟨⟨[95,95,97,98,111,117,116,95,95]⟩⟩
noncomputable def jbv:Str:=⟨⟨[110,97,109,101]⟩⟩
noncomputable def n193:Str:=⟨⟨[112,97,116,104]⟩⟩
noncomputable def Ke:Str:=⟨⟨[95,95,109,111,100,117,108,101,95,95]⟩⟩
noncomputable def n195:Str:=⟨⟨[95,102,114,111,122,101,110,95,105,109,112,111,114,116,108,105,98,95,101,120,116,101,114,110,97,108]⟩⟩
noncomputable def K9:Str:=⟨⟨[95,95,102,105,114,115,116,108,105,110,101,110,111,95,95]⟩⟩
noncomputable def n197:Str:=⟨⟨[105,115,95,112,97,99,107,97,103,101]⟩⟩
noncomputable def n198:Str:=⟨⟨[99,114,101,97,116,101,95,109,111,100,117,108,101]⟩⟩
noncomputable def n199:Str:=⟨⟨[101,120,101,99,95,109,111,100,117,108,101]⟩⟩
noncomputable def n200:Str:=⟨⟨[108,111,97,100,95,109,111,100,117,108,101]⟩⟩
noncomputable def K8:Str:=⟨⟨[95,95,115,116,97,116,105,99,95,97,116,116,114,105,98,117,116,101,115,95,95]⟩⟩
noncomputable def K6:Str:=⟨⟨[95,95,100,105,99,116,95,95]⟩⟩
noncomputable def K4:Str:=⟨⟨[95,95,119,101,97,107,114,101,102,95,95]⟩⟩
noncomputable def n204:Str:=⟨⟨[95,76,111,97,100,101,114,66,97,115,105,99,115]⟩⟩
noncomputable def Uj:Str:=⟨⟨[95,95,105,110,105,116,95,95]⟩⟩
noncomputable def n210:Str:=⟨⟨[95,95,101,113,95,95]⟩⟩
noncomputable def n211:Str:=⟨⟨[95,95,104,97,115,104,95,95]⟩⟩
noncomputable def n212:Str:=⟨⟨[103,101,116,95,102,105,108,101,110,97,109,101]⟩⟩
noncomputable def n215:Str:=⟨⟨[70,105,108,101,76,111,97,100,101,114]⟩⟩
noncomputable def n218:Str:=⟨⟨[69,120,116,101,110,115,105,111,110,70,105,108,101,76,111,97,100,101,114]⟩⟩
noncomputable def n219:Str:=⟨⟨[108,111,97,100,101,114]⟩⟩
noncomputable def n220:Str:=⟨⟨[111,114,105,103,105,110]⟩⟩
noncomputable def n221:Str:=⟨⟨[108,111,97,100,101,114,95,115,116,97,116,101]⟩⟩
noncomputable def n222:Str:=⟨⟨[115,117,98,109,111,100,117,108,101,95,115,101,97,114,99,104,95,108,111,99,97,116,105,111,110,115]⟩⟩
noncomputable def n223:Str:=⟨⟨[95,117,110,105,110,105,116,105,97,108,105,122,101,100,95,115,117,98,109,111,100,117,108,101,115]⟩⟩
noncomputable def n224:Str:=⟨⟨[95,115,101,116,95,102,105,108,101,97,116,116,114]⟩⟩
noncomputable def n225:Str:=⟨⟨[95,99,97,99,104,101,100]⟩⟩
noncomputable def n228:Str:=⟨⟨[95,95,114,101,112,114,95,95]⟩⟩
noncomputable def n230:Str:=⟨⟨[112,97,114,101,110,116]⟩⟩
noncomputable def n232:Str:=⟨⟨[77,111,100,117,108,101,83,112,101,99]⟩⟩
noncomputable def Zs:Str:=⟨⟨[108,97,119,95,107,108,48,51,57,57,95,48,49]⟩⟩
noncomputable def Zr:Str:=⟨⟨[95,119,97,108,108]⟩⟩
noncomputable def Ui:Str:=⟨⟨[95,116,117,112,108,101,103,101,116,116,101,114]⟩⟩
noncomputable def Uh:Str:=⟨⟨[77,97,116,99,104]⟩⟩
noncomputable def Zq:Str:=⟨⟨[95,99,97,108,99,117,108,97,116,101,95,114,97,116,105,111]⟩⟩
noncomputable def Ug:Str:=⟨⟨[83,101,113,117,101,110,99,101,77,97,116,99,104,101,114]⟩⟩
noncomputable def Zp:Str:=⟨⟨[110,108,97,114,103,101,115,116]⟩⟩
noncomputable def Zo:Str:=⟨⟨[103,101,116,95,99,108,111,115,101,95,109,97,116,99,104,101,115]⟩⟩
noncomputable def n242:Str:=⟨⟨[104,101,97,112,114,101,112,108,97,99,101,95,104,101,97,112,113,50]⟩⟩
noncomputable def n243:Str:=⟨⟨[104,101,97,112,105,102,121,95,104,101,97,112,113,50]⟩⟩
noncomputable def Zn:Str:=⟨⟨[95,115,105,102,116,100,111,119,110]⟩⟩
noncomputable def Zm:Str:=⟨⟨[95,115,105,102,116,117,112]⟩⟩
noncomputable def Zl:Str:=⟨⟨[95,108,97,119,95,119,111,114,100]⟩⟩
noncomputable def Zk:Str:=⟨⟨[95,108,97,119,95,107,101,112,116]⟩⟩
noncomputable def Zj:Str:=⟨⟨[95,108,97,119,95,112,111,105,110,116,115]⟩⟩
noncomputable def Zi:Str:=⟨⟨[95,108,97,119,95,116,111,108,100]⟩⟩
noncomputable def jbu:Str:=⟨⟨[108,97,119]⟩⟩
noncomputable def n251:Str:=⟨⟨[107]⟩⟩
noncomputable def qi:Str:=⟨⟨[99,112,121,51,49,51,46,100,105,102,102,108,105,98]⟩⟩
noncomputable def n253:Str:=⟨⟨[95,95,113,117,97,108,110,97,109,101,95,95]⟩⟩
noncomputable def n254:Str:=⟨⟨[95,95,103,101,116,95,95]⟩⟩
noncomputable def n255:Str:=⟨⟨[95,95,115,101,116,95,95]⟩⟩
noncomputable def n256:Str:=⟨⟨[95,95,100,101,108,101,116,101,95,95]⟩⟩
noncomputable def vl:Str:=⟨⟨[115,101,108,102]⟩⟩
noncomputable def Va:Str:=⟨⟨[105,110,100,101,120]⟩⟩
noncomputable def n259:Str:=⟨⟨[100,111,99]⟩⟩
noncomputable def n260:Str:=⟨⟨[95,116,117,112,108,101,103,101,116,116,101,114,46,95,95,105,110,105,116,95,95]⟩⟩
noncomputable def n261:Str:=⟨⟨[111,98,106]⟩⟩
noncomputable def n263:Str:=⟨⟨[95,116,117,112,108,101,103,101,116,116,101,114,46,95,95,103,101,116,95,95]⟩⟩
noncomputable def n265:Str:=⟨⟨[95,116,117,112,108,101,103,101,116,116,101,114,46,95,95,115,101,116,95,95]⟩⟩
noncomputable def n266:Str:=⟨⟨[95,116,117,112,108,101,103,101,116,116,101,114,46,95,95,100,101,108,101,116,101,95,95]⟩⟩
noncomputable def n267:Str:=⟨⟨[95,95,115,108,111,116,115,95,95]⟩⟩
noncomputable def n268:Str:=⟨⟨[95,102,105,101,108,100,115]⟩⟩
noncomputable def n269:Str:=⟨⟨[95,102,105,101,108,100,95,100,101,102,97,117,108,116,115]⟩⟩
noncomputable def n270:Str:=⟨⟨[95,95,110,101,119,95,95]⟩⟩
noncomputable def n271:Str:=⟨⟨[95,109,97,107,101]⟩⟩
noncomputable def n272:Str:=⟨⟨[95,114,101,112,108,97,99,101]⟩⟩
noncomputable def n273:Str:=⟨⟨[95,95,114,101,112,108,97,99,101,95,95]⟩⟩
noncomputable def n274:Str:=⟨⟨[95,97,115,100,105,99,116]⟩⟩
noncomputable def n275:Str:=⟨⟨[95,95,103,101,116,110,101,119,97,114,103,115,95,95]⟩⟩
noncomputable def n276:Str:=⟨⟨[95,95,109,97,116,99,104,95,97,114,103,115,95,95]⟩⟩
noncomputable def K0:Str:=⟨⟨[97]⟩⟩
noncomputable def Kd:Str:=⟨⟨[98]⟩⟩
noncomputable def Zh:Str:=⟨⟨[115,105,122,101]⟩⟩
noncomputable def n282:Str:=⟨⟨[77,97,116,99,104,46,95,95,110,101,119,95,95]⟩⟩
noncomputable def n285:Str:=⟨⟨[114,101,115,117,108,116]⟩⟩
noncomputable def n286:Str:=⟨⟨[77,97,116,99,104,46,95,109,97,107,101]⟩⟩
noncomputable def n287:Str:=⟨⟨[95,95,99,108,97,115,115,95,95]⟩⟩
noncomputable def n289:Str:=⟨⟨[77,97,116,99,104,46,95,114,101,112,108,97,99,101]⟩⟩
noncomputable def n290:Str:=⟨⟨[77,97,116,99,104,46,95,95,114,101,112,114,95,95]⟩⟩
noncomputable def n291:Str:=⟨⟨[77,97,116,99,104,46,95,97,115,100,105,99,116]⟩⟩
noncomputable def n292:Str:=⟨⟨[77,97,116,99,104,46,95,95,103,101,116,110,101,119,97,114,103,115,95,95]⟩⟩
noncomputable def n293:Str:=⟨⟨[65,108,105,97,115,32,102,111,114,32,102,105,101,108,100,32,110,117,109,98,101,114,32,48]⟩⟩
noncomputable def n294:Str:=⟨⟨[65,108,105,97,115,32,102,111,114,32,102,105,101,108,100,32,110,117,109,98,101,114,32,49]⟩⟩
noncomputable def n295:Str:=⟨⟨[65,108,105,97,115,32,102,111,114,32,102,105,101,108,100,32,110,117,109,98,101,114,32,50]⟩⟩
noncomputable def n296:Str:=⟨⟨[109,97,116,99,104,101,115]⟩⟩
noncomputable def n298:Str:=⟨⟨[115,101,116,95,115,101,113,115]⟩⟩
noncomputable def n299:Str:=⟨⟨[115,101,116,95,115,101,113,49]⟩⟩
noncomputable def n300:Str:=⟨⟨[115,101,116,95,115,101,113,50]⟩⟩
noncomputable def n301:Str:=⟨⟨[95,83,101,113,117,101,110,99,101,77,97,116,99,104,101,114,95,95,99,104,97,105,110,95,98]⟩⟩
noncomputable def n302:Str:=⟨⟨[102,105,110,100,95,108,111,110,103,101,115,116,95,109,97,116,99,104]⟩⟩
noncomputable def n303:Str:=⟨⟨[103,101,116,95,109,97,116,99,104,105,110,103,95,98,108,111,99,107,115]⟩⟩
noncomputable def n304:Str:=⟨⟨[103,101,116,95,111,112,99,111,100,101,115]⟩⟩
noncomputable def n305:Str:=⟨⟨[103,101,116,95,103,114,111,117,112,101,100,95,111,112,99,111,100,101,115]⟩⟩
noncomputable def n306:Str:=⟨⟨[114,97,116,105,111]⟩⟩
noncomputable def n307:Str:=⟨⟨[113,117,105,99,107,95,114,97,116,105,111]⟩⟩
noncomputable def n308:Str:=⟨⟨[114,101,97,108,95,113,117,105,99,107,95,114,97,116,105,111]⟩⟩
noncomputable def n309:Str:=⟨⟨[105,115,106,117,110,107]⟩⟩
noncomputable def n310:Str:=⟨⟨[97,117,116,111,106,117,110,107]⟩⟩
noncomputable def n311:Str:=⟨⟨[83,101,113,117,101,110,99,101,77,97,116,99,104,101,114,46,95,95,105,110,105,116,95,95]⟩⟩
noncomputable def n312:Str:=⟨⟨[83,101,113,117,101,110,99,101,77,97,116,99,104,101,114,46,115,101,116,95,115,101,113,115]⟩⟩
noncomputable def n313:Str:=⟨⟨[83,101,113,117,101,110,99,101,77,97,116,99,104,101,114,46,115,101,116,95,115,101,113,49]⟩⟩
noncomputable def n314:Str:=⟨⟨[83,101,113,117,101,110,99,101,77,97,116,99,104,101,114,46,115,101,116,95,115,101,113,50]⟩⟩
noncomputable def n315:Str:=⟨⟨[98,50,106]⟩⟩
noncomputable def jbt:Str:=⟨⟨[105]⟩⟩
noncomputable def n317:Str:=⟨⟨[101,108,116]⟩⟩
noncomputable def n321:Str:=⟨⟨[110]⟩⟩
noncomputable def n324:Str:=⟨⟨[83,101,113,117,101,110,99,101,77,97,116,99,104,101,114,46,95,95,99,104,97,105,110,95,98]⟩⟩
noncomputable def n326:Str:=⟨⟨[97,108,111]⟩⟩
noncomputable def n327:Str:=⟨⟨[97,104,105]⟩⟩
noncomputable def n328:Str:=⟨⟨[98,108,111]⟩⟩
noncomputable def n329:Str:=⟨⟨[98,104,105]⟩⟩
noncomputable def n338:Str:=⟨⟨[106]⟩⟩
noncomputable def n339:Str:=⟨⟨[83,101,113,117,101,110,99,101,77,97,116,99,104,101,114,46,102,105,110,100,95,108,111,110,103,101,115,116,95,109,97,116,99,104]⟩⟩
noncomputable def n340:Str:=⟨⟨[108,97]⟩⟩
noncomputable def n341:Str:=⟨⟨[108,98]⟩⟩
noncomputable def n343:Str:=⟨⟨[109,97,116,99,104,105,110,103,95,98,108,111,99,107,115]⟩⟩
noncomputable def n344:Str:=⟨⟨[120]⟩⟩
noncomputable def n352:Str:=⟨⟨[83,101,113,117,101,110,99,101,77,97,116,99,104,101,114,46,103,101,116,95,109,97,116,99,104,105,110,103,95,98,108,111,99,107,115]⟩⟩
noncomputable def n353:Str:=⟨⟨[83,101,113,117,101,110,99,101,77,97,116,99,104,101,114,46,103,101,116,95,111,112,99,111,100,101,115]⟩⟩
noncomputable def n354:Str:=⟨⟨[83,101,113,117,101,110,99,101,77,97,116,99,104,101,114,46,103,101,116,95,103,114,111,117,112,101,100,95,111,112,99,111,100,101,115]⟩⟩
noncomputable def n355:Str:=⟨⟨[83,101,113,117,101,110,99,101,77,97,116,99,104,101,114,46,114,97,116,105,111]⟩⟩
noncomputable def n356:Str:=⟨⟨[102,117,108,108,98,99,111,117,110,116]⟩⟩
noncomputable def n360:Str:=⟨⟨[83,101,113,117,101,110,99,101,77,97,116,99,104,101,114,46,113,117,105,99,107,95,114,97,116,105,111]⟩⟩
noncomputable def n361:Str:=⟨⟨[83,101,113,117,101,110,99,101,77,97,116,99,104,101,114,46,114,101,97,108,95,113,117,105,99,107,95,114,97,116,105,111]⟩⟩
noncomputable def jbs:Str:=⟨⟨[104,101,97,112]⟩⟩
noncomputable def n368:Str:=⟨⟨[114,101,116,117,114,110,105,116,101,109]⟩⟩
noncomputable def jbr:Str:=⟨⟨[99,112,121,51,49,51,46,104,101,97,112,113]⟩⟩
noncomputable def n371:Str:=⟨⟨[115,116,97,114,116,112,111,115]⟩⟩
noncomputable def n372:Str:=⟨⟨[112,111,115]⟩⟩
noncomputable def n373:Str:=⟨⟨[110,101,119,105,116,101,109]⟩⟩
noncomputable def n379:Str:=⟨⟨[103,111,97,108]⟩⟩
noncomputable def L49:String:=PySem.W.SL.s591115383303110208x11
noncomputable def L51:String:=PySem.W.SL.s14018661285674007319x4
noncomputable def L58:String:=PySem.W.SL.s9222952809800978799x4
noncomputable def L60:String:=PySem.W.SL.s2742458400755230247x6
noncomputable def L65:String:=PySem.W.SL.s16656946322747308186x12
noncomputable def L67:String:=PySem.W.SL.s4290257624100764138x5
noncomputable def L68:String:=PySem.W.SL.s2766695959194262286x5
noncomputable def L69:String:=PySem.W.SL.s17162191345867700912x4
noncomputable def L86:String:=PySem.W.SL.s10852414792293593619x7
noncomputable def L144:String:=PySem.W.SL.s7097527257260152453x26
noncomputable def L145:String:=PySem.W.SL.s9263121217426465444x14
noncomputable def L146:String:=PySem.W.SL.s261454370922247064x18
noncomputable def L147:String:=PySem.W.SL.s6658869562736209489x6
noncomputable def kY:String:=PySem.W.SL.s5856160107412720595x4
noncomputable def VD:String:=PySem.W.SL.s658472552662922059x5
noncomputable def L150:String:=PySem.W.SL.s1401719397831815689x15
noncomputable def L151:String:=PySem.W.SL.s3253261563445288831x18
noncomputable def L152:String:=PySem.W.SL.s348165108972342858x14
noncomputable def L153:String:=PySem.W.SL.s10974238022732182726x19
noncomputable def L154:String:=PySem.W.SL.s18185691447467314571x19
noncomputable def L155:String:=PySem.W.SL.s11355973235755591776x23
noncomputable def Os:String:=PySem.W.SL.s14755015743595814543x17
noncomputable def jcO:String:=PySem.W.SL.s6511155373996960695x17
noncomputable def jcN:String:=PySem.W.SL.s12411053484034534018x21
noncomputable def jcM:String:=PySem.W.SL.s10220274742760427390x26
noncomputable def qd:String:=PySem.W.SL.s7174869446012820540x8
noncomputable def L161:String:=PySem.W.SL.s11030030927630378310x26
noncomputable def L163:String:=PySem.W.SL.s11443829558043349243x14
noncomputable def L164:String:=PySem.W.SL.s4860613602091757760x24
noncomputable abbrev vn:Value:=Value.none
noncomputable abbrev k(P:Params)(x:Str)(t:Tok)(v:Value):DictEntry:=⟨PyData.keyHash P x,.str x t,v⟩
noncomputable abbrev N(o:Obj)(l r:BT):BT:=.node o l r
noncomputable abbrev E:BT:=.nil
noncomputable def e0l0(P:Params):List DictEntry:=[k P n0 1 (.str n1 160),k P n2 2 (.builtin "builtins.__doc__:str#opaque"),k P n3 3 (.builtin "builtins.__package__:str#opaque"),k P n4 4 (.builtin "builtins.__loader__:shared#opaque"),k P n5 5 (.builtin PySem.W.SL.s11665532747177232413x24),k P ⟨⟨[95,95,98,117,105,108,100,95,99,108,97,115,115,95,95]⟩⟩ 6 (.builtin PySem.W.SL.s15183661809925369436x15),k P ⟨⟨[95,95,105,109,112,111,114,116,95,95]⟩⟩ 7 (.builtin PySem.W.SL.s13915890719876406383x10),k P ⟨⟨[97,98,115]⟩⟩ 8 (.builtin PySem.W.SL.s13459172003223722735x3),k P ⟨⟨[97,108,108]⟩⟩ 9 (.builtin PySem.W.SL.s10557405761357834076x3),k P ⟨⟨[97,110,121]⟩⟩ 10 (.builtin PySem.W.SL.s4233737765568776869x3),k P ⟨⟨[97,115,99,105,105]⟩⟩ 11 (.builtin PySem.W.SL.s2508922471967985374x5),k P ⟨⟨[98,105,110]⟩⟩ 12 (.builtin PySem.W.SL.s15574269061696679450x3),k P ⟨⟨[98,114,101,97,107,112,111,105,110,116]⟩⟩ 13 (.builtin PySem.W.SL.s6016482663378992977x10),k P ⟨⟨[99,97,108,108,97,98,108,101]⟩⟩ 14 (.builtin PySem.W.SL.s5596568736180474577x8),k P ⟨⟨[99,104,114]⟩⟩ 15 (.builtin PySem.W.SL.s2839554839881490554x3),k P ⟨⟨[99,111,109,112,105,108,101]⟩⟩ 16 (.builtin PySem.W.SL.s725004073602090463x7),k P ⟨⟨[100,101,108,97,116,116,114]⟩⟩ 17 (.builtin PySem.W.SL.s9436932552931045734x7),k P ⟨⟨[100,105,114]⟩⟩ 18 (.builtin PySem.W.SL.s2754603736356183583x3),k P ⟨⟨[100,105,118,109,111,100]⟩⟩ 19 (.builtin PySem.W.SL.s15185746759980889043x6),k P ⟨⟨[101,118,97,108]⟩⟩ 20 (.builtin PySem.W.SL.s8192189862530294059x4)]
noncomputable def e0l1(P:Params):List DictEntry:=[k P ⟨⟨[101,120,101,99]⟩⟩ 21 (.builtin PySem.W.SL.s7038307821325472102x4),k P ⟨⟨[102,111,114,109,97,116]⟩⟩ 22 (.builtin PySem.W.SL.s5662562618415449548x6),k P ⟨⟨[103,101,116,97,116,116,114]⟩⟩ 23 (.builtin PySem.W.SL.s15281542589158584767x7),k P ⟨⟨[103,108,111,98,97,108,115]⟩⟩ 24 (.builtin PySem.W.SL.s17651547275483570877x7),k P ⟨⟨[104,97,115,97,116,116,114]⟩⟩ 25 (.builtin PySem.W.SL.s4036449017235975746x7),k P ⟨⟨[104,97,115,104]⟩⟩ 26 (.builtin PySem.W.SL.s8879979712987360175x4),k P ⟨⟨[104,101,120]⟩⟩ 27 (.builtin PySem.W.SL.s1801250619170735830x3),k P ⟨⟨[105,100]⟩⟩ 28 (.builtin PySem.W.SL.s17659931425627118568x2),k P ⟨⟨[105,110,112,117,116]⟩⟩ 29 (.builtin PySem.W.SL.s6063217899685152688x5),k P ⟨⟨[105,115,105,110,115,116,97,110,99,101]⟩⟩ 30 (.builtin PySem.W.SL.s8008927332132565319x10),k P ⟨⟨[105,115,115,117,98,99,108,97,115,115]⟩⟩ 31 (.builtin PySem.W.SL.s3544116645089599534x10),k P ⟨⟨[105,116,101,114]⟩⟩ 32 (.builtin PySem.W.SL.s13761710972054866084x4),k P ⟨⟨[97,105,116,101,114]⟩⟩ 33 (.builtin PySem.W.SL.s12896375587409280029x5),k P ⟨⟨[108,101,110]⟩⟩ 34 (.builtin PySem.W.SL.s13014049009108672802x3),k P ⟨⟨[108,111,99,97,108,115]⟩⟩ 35 (.builtin PySem.W.SL.s13935586738268321596x6),k P ⟨⟨[109,97,120]⟩⟩ 36 (.builtin PySem.W.SL.s8200498257699607233x3),k P ⟨⟨[109,105,110]⟩⟩ 37 (.builtin PySem.W.SL.s14114244577727609259x3),k P ⟨⟨[110,101,120,116]⟩⟩ 38 (.builtin PySem.W.SL.s1499430450269397089x4),k P ⟨⟨[97,110,101,120,116]⟩⟩ 39 (.builtin PySem.W.SL.s8755793994789770505x5),k P ⟨⟨[111,99,116]⟩⟩ 40 (.builtin PySem.W.SL.s15725212667919936108x3)]
noncomputable def e0l2(P:Params):List DictEntry:=[k P ⟨⟨[111,114,100]⟩⟩ 41 (.builtin PySem.W.SL.s15791221867095933363x3),k P ⟨⟨[112,111,119]⟩⟩ 42 (.builtin PySem.W.SL.s81309575031448614x3),k P ⟨⟨[112,114,105,110,116]⟩⟩ 43 (.builtin PySem.W.SL.s8069831620301644142x5),k P ⟨⟨[114,101,112,114]⟩⟩ 44 (.builtin PySem.W.SL.s10061844253413749634x4),k P ⟨⟨[114,111,117,110,100]⟩⟩ 45 (.builtin PySem.W.SL.s9496514870978017513x5),k P ⟨⟨[115,101,116,97,116,116,114]⟩⟩ 46 (.builtin PySem.W.SL.s8899691144933366716x7),k P ⟨⟨[115,111,114,116,101,100]⟩⟩ 47 (.builtin PySem.W.SL.s15201008993051130160x6),k P ⟨⟨[115,117,109]⟩⟩ 48 (.builtin PySem.W.SL.s741896355592496720x3),k P ⟨⟨[118,97,114,115]⟩⟩ 49 (.builtin PySem.W.SL.s17925004256654032244x4),k P ⟨⟨[78,111,110,101]⟩⟩ 50 vn,k P ⟨⟨[69,108,108,105,112,115,105,115]⟩⟩ 51 Value.ellipsis,k P ⟨⟨[78,111,116,73,109,112,108,101,109,101,110,116,101,100]⟩⟩ 52 Value.notImplemented,k P ⟨⟨[70,97,108,115,101]⟩⟩ 53 (.bool false),k P ⟨⟨[84,114,117,101]⟩⟩ 54 (.bool true),k P ⟨⟨[98,111,111,108]⟩⟩ 55 (.type PySem.W.SL.s11695548795398191787x4),k P ⟨⟨[109,101,109,111,114,121,118,105,101,119]⟩⟩ 56 (.type PySem.W.SL.s4156966113859768872x10),k P ⟨⟨[98,121,116,101,97,114,114,97,121]⟩⟩ 57 (.type PySem.W.SL.s9501651726347032510x9),k P ⟨⟨[98,121,116,101,115]⟩⟩ 58 (.type PySem.W.SL.s15722918466584999320x5),k P ⟨⟨[99,108,97,115,115,109,101,116,104,111,100]⟩⟩ 59 (.type L49),k P ⟨⟨[99,111,109,112,108,101,120]⟩⟩ 60 (.type PySem.W.SL.s15721156781594690315x7)]
noncomputable def e0l3(P:Params):List DictEntry:=[k P ⟨⟨[100,105,99,116]⟩⟩ 61 (.type L51),k P ⟨⟨[101,110,117,109,101,114,97,116,101]⟩⟩ 62 (.type PySem.W.SL.s14340494229221121180x9),k P ⟨⟨[102,105,108,116,101,114]⟩⟩ 63 (.type PySem.W.SL.s13429844117177748173x6),k P ⟨⟨[102,108,111,97,116]⟩⟩ 64 (.type PySem.W.SL.s16463266125957815391x5),k P ⟨⟨[102,114,111,122,101,110,115,101,116]⟩⟩ 65 (.type PySem.W.SL.s4922535414793169389x9),k P ⟨⟨[112,114,111,112,101,114,116,121]⟩⟩ 66 (.type PySem.W.SL.s8101838861749082086x8),k P ⟨⟨[105,110,116]⟩⟩ 67 (.type PySem.W.SL.s7066276694103001551x3),k P ⟨⟨[108,105,115,116]⟩⟩ 68 (.type L58),k P ⟨⟨[109,97,112]⟩⟩ 69 (.type PySem.W.SL.s462964344163437139x3),k P ⟨⟨[111,98,106,101,99,116]⟩⟩ 70 (.type L60),k P ⟨⟨[114,97,110,103,101]⟩⟩ 71 (.type PySem.W.SL.s1438033511350832697x5),k P ⟨⟨[114,101,118,101,114,115,101,100]⟩⟩ 72 (.type PySem.W.SL.s14365286008749172514x8),k P ⟨⟨[115,101,116]⟩⟩ 73 (.type PySem.W.SL.s3642769012341782148x3),k P ⟨⟨[115,108,105,99,101]⟩⟩ 74 (.type PySem.W.SL.s4674234679698826739x5),k P ⟨⟨[115,116,97,116,105,99,109,101,116,104,111,100]⟩⟩ 75 (.type L65),k P ⟨⟨[115,116,114]⟩⟩ 76 (.type PySem.W.SL.s10796804682411823810x3),k P ⟨⟨[115,117,112,101,114]⟩⟩ 77 (.type L67),k P ⟨⟨[116,117,112,108,101]⟩⟩ 78 (.type L68),k P ⟨⟨[116,121,112,101]⟩⟩ 79 (.type L69),k P ⟨⟨[122,105,112]⟩⟩ 80 (.type PySem.W.SL.s14339709457334898076x3)]
noncomputable def e0l4(P:Params):List DictEntry:=[k P ⟨⟨[95,95,100,101,98,117,103,95,95]⟩⟩ 81 (.bool true),k P ⟨⟨[66,97,115,101,69,120,99,101,112,116,105,111,110]⟩⟩ 82 (.type PySem.W.SL.s4278001404047624695x13),k P ⟨⟨[66,97,115,101,69,120,99,101,112,116,105,111,110,71,114,111,117,112]⟩⟩ 83 (.type PySem.W.SL.s6585700554429387442x18),k P ⟨⟨[69,120,99,101,112,116,105,111,110]⟩⟩ 84 (.type PySem.W.SL.s5946037652744460706x9),k P ⟨⟨[71,101,110,101,114,97,116,111,114,69,120,105,116]⟩⟩ 85 (.type PySem.W.SL.s7410770068591931388x13),k P ⟨⟨[75,101,121,98,111,97,114,100,73,110,116,101,114,114,117,112,116]⟩⟩ 86 (.type PySem.W.SL.s11817881795495490833x17),k P ⟨⟨[83,121,115,116,101,109,69,120,105,116]⟩⟩ 87 (.type PySem.W.SL.s15679963881808890155x10),k P ⟨⟨[65,114,105,116,104,109,101,116,105,99,69,114,114,111,114]⟩⟩ 88 (.type PySem.W.SL.s3871700062485845797x15),k P ⟨⟨[65,115,115,101,114,116,105,111,110,69,114,114,111,114]⟩⟩ 89 (.type PySem.W.SL.s7689518266570723881x14),k P ⟨⟨[65,116,116,114,105,98,117,116,101,69,114,114,111,114]⟩⟩ 90 (.type PySem.W.SL.s9001593270443806431x14),k P ⟨⟨[66,117,102,102,101,114,69,114,114,111,114]⟩⟩ 91 (.type PySem.W.SL.s6882542574934516792x11),k P ⟨⟨[69,79,70,69,114,114,111,114]⟩⟩ 92 (.type PySem.W.SL.s14403400214490484960x8),k P ⟨⟨[73,109,112,111,114,116,69,114,114,111,114]⟩⟩ 93 (.type PySem.W.SL.s14457978657717015782x11),k P ⟨⟨[76,111,111,107,117,112,69,114,114,111,114]⟩⟩ 94 (.type PySem.W.SL.s1753610191782819921x11),k P ⟨⟨[77,101,109,111,114,121,69,114,114,111,114]⟩⟩ 95 (.type PySem.W.SL.s14119380538032626715x11),k P ⟨⟨[78,97,109,101,69,114,114,111,114]⟩⟩ 96 (.type PySem.W.SL.s11437920000406562045x9),k P ⟨⟨[79,83,69,114,114,111,114]⟩⟩ 97 (.type L86),k P ⟨⟨[82,101,102,101,114,101,110,99,101,69,114,114,111,114]⟩⟩ 98 (.type PySem.W.SL.s14816307405966870543x14),k P ⟨⟨[82,117,110,116,105,109,101,69,114,114,111,114]⟩⟩ 99 (.type PySem.W.SL.s8682627914449686677x12),k P ⟨⟨[83,116,111,112,65,115,121,110,99,73,116,101,114,97,116,105,111,110]⟩⟩ 100 (.type PySem.W.SL.s4428170145600203450x18)]
noncomputable def e0l5(P:Params):List DictEntry:=[k P ⟨⟨[83,116,111,112,73,116,101,114,97,116,105,111,110]⟩⟩ 101 (.type PySem.W.SL.s5991306692159431302x13),k P ⟨⟨[83,121,110,116,97,120,69,114,114,111,114]⟩⟩ 102 (.type PySem.W.SL.s16067994140765818257x11),k P ⟨⟨[83,121,115,116,101,109,69,114,114,111,114]⟩⟩ 103 (.type PySem.W.SL.s2327743974964600596x11),k P ⟨⟨[84,121,112,101,69,114,114,111,114]⟩⟩ 104 (.type PySem.W.SL.s2804747833354056582x9),k P ⟨⟨[86,97,108,117,101,69,114,114,111,114]⟩⟩ 105 (.type PySem.W.SL.s6070975301684473832x10),k P ⟨⟨[87,97,114,110,105,110,103]⟩⟩ 106 (.type PySem.W.SL.s14270485950484850486x7),k P ⟨⟨[70,108,111,97,116,105,110,103,80,111,105,110,116,69,114,114,111,114]⟩⟩ 107 (.type PySem.W.SL.s12041534306414923332x18),k P ⟨⟨[79,118,101,114,102,108,111,119,69,114,114,111,114]⟩⟩ 108 (.type PySem.W.SL.s2531307568338490285x13),k P ⟨⟨[90,101,114,111,68,105,118,105,115,105,111,110,69,114,114,111,114]⟩⟩ 109 (.type PySem.W.SL.s631175304937289666x17),k P ⟨⟨[66,121,116,101,115,87,97,114,110,105,110,103]⟩⟩ 110 (.type PySem.W.SL.s5144983644357021410x12),k P ⟨⟨[68,101,112,114,101,99,97,116,105,111,110,87,97,114,110,105,110,103]⟩⟩ 111 (.type PySem.W.SL.s18039099521571816885x18),k P ⟨⟨[69,110,99,111,100,105,110,103,87,97,114,110,105,110,103]⟩⟩ 112 (.type PySem.W.SL.s6011586214260557989x15),k P ⟨⟨[70,117,116,117,114,101,87,97,114,110,105,110,103]⟩⟩ 113 (.type PySem.W.SL.s5430567037509283100x13),k P ⟨⟨[73,109,112,111,114,116,87,97,114,110,105,110,103]⟩⟩ 114 (.type PySem.W.SL.s8117915138073963741x13),k P ⟨⟨[80,101,110,100,105,110,103,68,101,112,114,101,99,97,116,105,111,110,87,97,114,110,105,110,103]⟩⟩ 115 (.type PySem.W.SL.s3423317712779056401x25),k P ⟨⟨[82,101,115,111,117,114,99,101,87,97,114,110,105,110,103]⟩⟩ 116 (.type PySem.W.SL.s2007317383269046180x15),k P ⟨⟨[82,117,110,116,105,109,101,87,97,114,110,105,110,103]⟩⟩ 117 (.type PySem.W.SL.s17481586968713580700x14),k P ⟨⟨[83,121,110,116,97,120,87,97,114,110,105,110,103]⟩⟩ 118 (.type PySem.W.SL.s2450899226349176912x13),k P ⟨⟨[85,110,105,99,111,100,101,87,97,114,110,105,110,103]⟩⟩ 119 (.type PySem.W.SL.s16626165730633575011x14),k P ⟨⟨[85,115,101,114,87,97,114,110,105,110,103]⟩⟩ 120 (.type PySem.W.SL.s14288496050688921416x11)]
noncomputable def e0l6(P:Params):List DictEntry:=[k P ⟨⟨[66,108,111,99,107,105,110,103,73,79,69,114,114,111,114]⟩⟩ 121 (.type PySem.W.SL.s5735081916595925998x15),k P ⟨⟨[67,104,105,108,100,80,114,111,99,101,115,115,69,114,114,111,114]⟩⟩ 122 (.type PySem.W.SL.s3865607918536308442x17),k P ⟨⟨[67,111,110,110,101,99,116,105,111,110,69,114,114,111,114]⟩⟩ 123 (.type PySem.W.SL.s13337502604062700212x15),k P ⟨⟨[70,105,108,101,69,120,105,115,116,115,69,114,114,111,114]⟩⟩ 124 (.type PySem.W.SL.s13114017843053701147x15),k P ⟨⟨[70,105,108,101,78,111,116,70,111,117,110,100,69,114,114,111,114]⟩⟩ 125 (.type PySem.W.SL.s17467278006356818441x17),k P ⟨⟨[73,110,116,101,114,114,117,112,116,101,100,69,114,114,111,114]⟩⟩ 126 (.type PySem.W.SL.s17722149559621369488x16),k P ⟨⟨[73,115,65,68,105,114,101,99,116,111,114,121,69,114,114,111,114]⟩⟩ 127 (.type PySem.W.SL.s7855274175708717672x17),k P ⟨⟨[78,111,116,65,68,105,114,101,99,116,111,114,121,69,114,114,111,114]⟩⟩ 128 (.type PySem.W.SL.s13351283678309829046x18),k P ⟨⟨[80,101,114,109,105,115,115,105,111,110,69,114,114,111,114]⟩⟩ 129 (.type PySem.W.SL.s6668348653404991179x15),k P ⟨⟨[80,114,111,99,101,115,115,76,111,111,107,117,112,69,114,114,111,114]⟩⟩ 130 (.type PySem.W.SL.s12913350958174193794x18),k P ⟨⟨[84,105,109,101,111,117,116,69,114,114,111,114]⟩⟩ 131 (.type PySem.W.SL.s16115879512475548326x12),k P ⟨⟨[73,110,100,101,110,116,97,116,105,111,110,69,114,114,111,114]⟩⟩ 132 (.type PySem.W.SL.s15920661018069861047x16),k P ⟨⟨[95,73,110,99,111,109,112,108,101,116,101,73,110,112,117,116,69,114,114,111,114]⟩⟩ 133 (.type PySem.W.SL.s10779130036587390575x21),k P ⟨⟨[73,110,100,101,120,69,114,114,111,114]⟩⟩ 134 (.type PySem.W.SL.s7801419657504700863x10),k P ⟨⟨[75,101,121,69,114,114,111,114]⟩⟩ 135 (.type PySem.W.SL.s1688129525768580628x8),k P ⟨⟨[77,111,100,117,108,101,78,111,116,70,111,117,110,100,69,114,114,111,114]⟩⟩ 136 (.type PySem.W.SL.s1031832959479892071x19),k P ⟨⟨[78,111,116,73,109,112,108,101,109,101,110,116,101,100,69,114,114,111,114]⟩⟩ 137 (.type PySem.W.SL.s8991790508128307865x19),k P ⟨⟨[80,121,116,104,111,110,70,105,110,97,108,105,122,97,116,105,111,110,69,114,114,111,114]⟩⟩ 138 (.type PySem.W.SL.s14539662485746970245x23),k P ⟨⟨[82,101,99,117,114,115,105,111,110,69,114,114,111,114]⟩⟩ 139 (.type PySem.W.SL.s11643622729373238714x14),k P ⟨⟨[85,110,98,111,117,110,100,76,111,99,97,108,69,114,114,111,114]⟩⟩ 140 (.type PySem.W.SL.s3386828779285465597x17)]
noncomputable def e0l7(P:Params):List DictEntry:=[k P ⟨⟨[85,110,105,99,111,100,101,69,114,114,111,114]⟩⟩ 141 (.type PySem.W.SL.s13042696260734638735x12),k P ⟨⟨[66,114,111,107,101,110,80,105,112,101,69,114,114,111,114]⟩⟩ 142 (.type PySem.W.SL.s18239426817015966623x15),k P ⟨⟨[67,111,110,110,101,99,116,105,111,110,65,98,111,114,116,101,100,69,114,114,111,114]⟩⟩ 143 (.type PySem.W.SL.s1270395311379034370x22),k P ⟨⟨[67,111,110,110,101,99,116,105,111,110,82,101,102,117,115,101,100,69,114,114,111,114]⟩⟩ 144 (.type PySem.W.SL.s10696252587037064777x22),k P ⟨⟨[67,111,110,110,101,99,116,105,111,110,82,101,115,101,116,69,114,114,111,114]⟩⟩ 145 (.type PySem.W.SL.s7852717498200857586x20),k P ⟨⟨[84,97,98,69,114,114,111,114]⟩⟩ 146 (.type PySem.W.SL.s6377248116197321094x8),k P ⟨⟨[85,110,105,99,111,100,101,68,101,99,111,100,101,69,114,114,111,114]⟩⟩ 147 (.type PySem.W.SL.s3834378056692298002x18),k P ⟨⟨[85,110,105,99,111,100,101,69,110,99,111,100,101,69,114,114,111,114]⟩⟩ 148 (.type PySem.W.SL.s17586630440231065808x18),k P ⟨⟨[85,110,105,99,111,100,101,84,114,97,110,115,108,97,116,101,69,114,114,111,114]⟩⟩ 149 (.type PySem.W.SL.s15234114252648025395x21),k P ⟨⟨[69,120,99,101,112,116,105,111,110,71,114,111,117,112]⟩⟩ 150 (.type PySem.W.SL.s8496462677383758984x14),k P ⟨⟨[69,110,118,105,114,111,110,109,101,110,116,69,114,114,111,114]⟩⟩ 151 (.type L86),k P ⟨⟨[73,79,69,114,114,111,114]⟩⟩ 152 (.type L86),k P ⟨⟨[111,112,101,110]⟩⟩ 153 (.builtin PySem.W.SL.s16789243406116112673x4),k P ⟨⟨[113,117,105,116]⟩⟩ 154 (.builtin PySem.W.SL.s14400166428656793546x20),k P ⟨⟨[101,120,105,116]⟩⟩ 155 (.builtin PySem.W.SL.s5857708277339239366x20),k P ⟨⟨[99,111,112,121,114,105,103,104,116]⟩⟩ 156 (.builtin "builtins.copyright#opaque"),k P ⟨⟨[99,114,101,100,105,116,115]⟩⟩ 157 (.builtin "builtins.credits#opaque"),k P ⟨⟨[108,105,99,101,110,115,101]⟩⟩ 158 (.builtin "builtins.license#opaque"),k P ⟨⟨[104,101,108,112]⟩⟩ 159 (.builtin PySem.W.SL.s7804999707787243718x20)]
noncomputable def e0(P:Params):Obj:=⟨(.type L51),none,(.dict ((e0l0 P)++(e0l1 P)++(e0l2 P)++(e0l3 P)++(e0l4 P)++(e0l5 P)++(e0l6 P)++(e0l7 P)).toArray 159),#[]⟩
noncomputable def e1(P:Params):Obj:=⟨(.type L51),none,(.dict #[k P n1 162 (.ref 4),k P jbw 163 (.ref 5),k P Zt 285 (.ref 13)] 3),#[]⟩
noncomputable def e2(P:Params):Obj:=⟨vn,none,(.dict #[k P ⟨⟨[105,109,112,111,114,116,46,108,111,97,100,101,100,46,95,104,101,97,112,113]⟩⟩ 186 (.bool true),k P ⟨⟨[99,108,97,115,115,46,95,102,114,111,122,101,110,95,105,109,112,111,114,116,108,105,98,95,101,120,116,101,114,110,97,108,46,95,76,111,97,100,101,114,66,97,115,105,99,115]⟩⟩ 191 (.ref 16),k P ⟨⟨[119,97,116,99,104,101,100,46,105,109,112,111,114,116]⟩⟩ 207 (.ref 20),k P ⟨⟨[99,108,97,115,115,46,95,102,114,111,122,101,110,95,105,109,112,111,114,116,108,105,98,95,101,120,116,101,114,110,97,108,46,70,105,108,101,76,111,97,100,101,114]⟩⟩ 208 (.ref 22),k P ⟨⟨[99,108,97,115,115,46,95,102,114,111,122,101,110,95,105,109,112,111,114,116,108,105,98,95,101,120,116,101,114,110,97,108,46,69,120,116,101,110,115,105,111,110,70,105,108,101,76,111,97,100,101,114]⟩⟩ 229 (.ref 27),k P ⟨⟨[99,108,97,115,115,46,95,102,114,111,122,101,110,95,105,109,112,111,114,116,108,105,98,46,77,111,100,117,108,101,83,112,101,99]⟩⟩ 257 (.ref 33),k P ⟨⟨[115,121,115,46,109,111,100,117,108,101,115,46,98,111,111,107,101,100,45,101,112,111,99,104]⟩⟩ 286 (.int 3 0),k P ⟨⟨[105,109,112,111,114,116,46,108,97,116,101,114,45,108,97,105,100,46,95,104,101,97,112,113]⟩⟩ 304 (.bool true),k P ⟨⟨[119,97,116,99,104,101,100,46,108,105,98,114,97,114,121]⟩⟩ 306 (.ref 38),k P ⟨⟨[119,97,116,99,104,101,100,46,108,105,98,114,97,114,121,45,111,98,106,101,99,116,115]⟩⟩ 0 (.str ⟨⟨[13]⟩⟩ 0)] 10),#[]⟩
noncomputable def e3(P:Params):Obj:=⟨(.type L51),none,(.dict #[k P n0 165 (.str jbw 164),k P n2 166 vn,k P n3 167 vn,k P n4 168 (.builtin L144),k P n5 169 vn,k P n173 170 (.ref 6),k P n174 171 (.ref 4),k P n175 173 (.str jI 172),k P n177 174 vn,k P n178 312 (.builtin L145),k P n179 315 (.builtin L146)] 11),#[]⟩
noncomputable def e4(P:Params):Obj:=⟨(.type L147),(some 0),.plain,#[]⟩
noncomputable def e5(P:Params):Obj:=⟨(.type L147),(some 3),.plain,#[]⟩
noncomputable def e6(P:Params):Obj:=⟨(.type L51),none,(.dict #[] 0),#[]⟩
noncomputable def e7(P:Params):Obj:=⟨(.type L68),none,(.seq #[] 0),#[]⟩
noncomputable def e8(P:Params):Obj:=⟨vn,none,(.fields #[]),#[]⟩
noncomputable def e9(P:Params):Obj:=⟨(.type kY),none,(.fields #[(.str n180 176),(.str n180 177),(.str jI 178),(.int 1 0),(.int 0 0),(.int 0 0),(.int 0 0),(.int 0 0),(.ref 7),(.bool false),(.int 175 0),(.ref 8),vn,vn,vn,vn,(.int 179 0),(.int 1 0),(.str jI 180)]),#[]⟩
noncomputable def e10(P:Params):Obj:=⟨(.type VD),none,.plain,#[some (.ref 9),some (.ref 3),some (.ref 3),none,some (.str jbw 164),none,some (.ref 0)]⟩
noncomputable def e11(P:Params):Obj:=⟨(.type L68),none,(.seq #[(.str Ul 182),(.str Uk 183)] 0),#[]⟩
noncomputable def e13(P:Params):Obj:=⟨(.type L147),(some 12),.plain,#[]⟩
noncomputable def e14(P:Params):Obj:=⟨(.type L51),none,(.dict #[k P jbv 189 (.str Zt 188),k P n193 190 (.str n190 187)] 2),#[]⟩
noncomputable def e15(P:Params):Obj:=⟨(.type L51),none,(.dict #[k P Ke 194 (.str n195 192),k P K9 195 (.int 1001 193),k P n2 196 (.builtin "_frozen_importlib_external._LoaderBasics.__doc__:str#opaque"),k P n197 197 (.builtin "_frozen_importlib_external._LoaderBasics.is_package#opaque"),k P n198 198 (.builtin "_frozen_importlib_external._LoaderBasics.create_module#opaque"),k P n199 199 (.builtin "_frozen_importlib_external._LoaderBasics.exec_module#opaque"),k P n200 200 (.builtin "_frozen_importlib_external._LoaderBasics.load_module#opaque"),k P K8 201 (.ref 17),k P K6 203 (.ref 18),k P K4 205 (.ref 19)] 10),#[]⟩
noncomputable def e16(P:Params):Obj:=⟨(.type L69),none,(.cls ⟨n204,[(.type L60)],[(.ref 16),(.type L60)],15,n204,true,[],[(.ref 27)],false,none,false⟩),#[]⟩
noncomputable def e18(P:Params):Obj:=⟨(.type Os),none,(.fields #[(.str K6 202),(.ref 16),(.builtin jcO),(.builtin jcN)]),#[]⟩
noncomputable def e19(P:Params):Obj:=⟨(.type Os),none,(.fields #[(.str K4 204),(.ref 16),(.builtin jcM),vn]),#[]⟩
noncomputable def e20(P:Params):Obj:=⟨vn,none,(.seq #[(.int 15 0),(.str ⟨⟨[6,194,10,95,95,109,111,100,117,108,101,95,95,6,192,26,95,102,114,111,122,101,110,95,105,109,112,111,114,116,108,105,98,95,101,120,116,101,114,110,97,108,6,195,15,95,95,102,105,114,115,116,108,105,110,101,110,111,95,95,4,193,0,1001,6,196,7,95,95,100,111,99,95,95,9,59,95,102,114,111,122,101,110,95,105,109,112,111,114,116,108,105,98,95,101,120,116,101,114,110,97,108,46,95,76,111,97,100,101,114,66,97,115,105,99,115,46,95,95,100,111,99,95,95,58,115,116,114,35,111,112,97,113,117,101,6,197,10,105,115,95,112,97,99,107,97,103,101,9,58,95,102,114,111,122,101,110,95,105,109,112,111,114,116,108,105,98,95,101,120,116,101,114,110,97,108,46,95,76,111,97,100,101,114,66,97,115,105,99,115,46,105,115,95,112,97,99,107,97,103,101,35,111,112,97,113,117,101,6,198,13,99,114,101,97,116,101,95,109,111,100,117,108,101,9,61,95,102,114,111,122,101,110,95,105,109,112,111,114,116,108,105,98,95,101,120,116,101,114,110,97,108,46,95,76,111,97,100,101,114,66,97,115,105,99,115,46,99,114,101,97,116,101,95,109,111,100,117,108,101,35,111,112,97,113,117,101,6,199,11,101,120,101,99,95,109,111,100,117,108,101,9,59,95,102,114,111,122,101,110,95,105,109,112,111,114,116,108,105,98,95,101,120,116,101,114,110,97,108,46,95,76,111,97,100,101,114,66,97,115,105,99,115,46,101,120,101,99,95,109,111,100,117,108,101,35,111,112,97,113,117,101,6,200,11,108,111,97,100,95,109,111,100,117,108,101,9,59,95,102,114,111,122,101,110,95,105,109,112,111,114,116,108,105,98,95,101,120,116,101,114,110,97,108,46,95,76,111,97,100,101,114,66,97,115,105,99,115,46,108,111,97,100,95,109,111,100,117,108,101,35,111,112,97,113,117,101,6,201,21,95,95,115,116,97,116,105,99,95,97,116,116,114,105,98,117,116,101,115,95,95,4,0,0,17,6,203,8,95,95,100,105,99,116,95,95,4,0,0,18,6,205,11,95,95,119,101,97,107,114,101,102,95,95,4,0,0,19]⟩⟩ 0),(.bool true),(.bool true),(.str Vc 206),(.int 21 0),(.str ⟨⟨[6,213,10,95,95,109,111,100,117,108,101,95,95,6,209,26,95,102,114,111,122,101,110,95,105,109,112,111,114,116,108,105,98,95,101,120,116,101,114,110,97,108,6,214,15,95,95,102,105,114,115,116,108,105,110,101,110,111,95,95,4,210,0,1176,6,215,7,95,95,100,111,99,95,95,9,56,95,102,114,111,122,101,110,95,105,109,112,111,114,116,108,105,98,95,101,120,116,101,114,110,97,108,46,70,105,108,101,76,111,97,100,101,114,46,95,95,100,111,99,95,95,58,115,116,114,35,111,112,97,113,117,101,6,216,8,95,95,105,110,105,116,95,95,9,53,95,102,114,111,122,101,110,95,105,109,112,111,114,116,108,105,98,95,101,120,116,101,114,110,97,108,46,70,105,108,101,76,111,97,100,101,114,46,95,95,105,110,105,116,95,95,35,111,112,97,113,117,101,6,217,6,95,95,101,113,95,95,9,51,95,102,114,111,122,101,110,95,105,109,112,111,114,116,108,105,98,95,101,120,116,101,114,110,97,108,46,70,105,108,101,76,111,97,100,101,114,46,95,95,101,113,95,95,35,111,112,97,113,117,101,6,218,8,95,95,104,97,115,104,95,95,9,53,95,102,114,111,122,101,110,95,105,109,112,111,114,116,108,105,98,95,101,120,116,101,114,110,97,108,46,70,105,108,101,76,111,97,100,101,114,46,95,95,104,97,115,104,95,95,35,111,112,97,113,117,101,6,219,11,108,111,97,100,95,109,111,100,117,108,101,9,56,95,102,114,111,122,101,110,95,105,109,112,111,114,116,108,105,98,95,101,120,116,101,114,110,97,108,46,70,105,108,101,76,111,97,100,101,114,46,108,111,97,100,95,109,111,100,117,108,101,35,111,112,97,113,117,101,6,220,12,103,101,116,95,102,105,108,101,110,97,109,101,9,57,95,102,114,111,122,101,110,95,105,109,112,111,114,116,108,105,98,95,101,120,116,101,114,110,97,108,46,70,105,108,101,76,111,97,100,101,114,46,103,101,116,95,102,105,108,101,110,97,109,101,35,111,112,97,113,117,101,6,221,8,103,101,116,95,100,97,116,97,9,53,95,102,114,111,122,101,110,95,105,109,112,111,114,116,108,105,98,95,101,120,116,101,114,110,97,108,46,70,105,108,101,76,111,97,100,101,114,46,103,101,116,95,100,97,116,97,35,111,112,97,113,117,101,6,222,19,103,101,116,95,114,101,115,111,117,114,99,101,95,114,101,97,100,101,114,9,64,95,102,114,111,122,101,110,95,105,109,112,111,114,116,108,105,98,95,101,120,116,101,114,110,97,108,46,70,105,108,101,76,111,97,100,101,114,46,103,101,116,95,114,101,115,111,117,114,99,101,95,114,101,97,100,101,114,35,111,112,97,113,117,101,6,223,21,95,95,115,116,97,116,105,99,95,97,116,116,114,105,98,117,116,101,115,95,95,4,0,0,23,6,225,8,95,95,100,105,99,116,95,95,4,0,0,24,6,227,11,95,95,119,101,97,107,114,101,102,95,95,4,0,0,25]⟩⟩ 0),(.bool true),(.bool true),(.str Vc 228),(.int 26 0),(.str ⟨⟨[6,234,10,95,95,109,111,100,117,108,101,95,95,6,230,26,95,102,114,111,122,101,110,95,105,109,112,111,114,116,108,105,98,95,101,120,116,101,114,110,97,108,6,235,15,95,95,102,105,114,115,116,108,105,110,101,110,111,95,95,4,231,0,1296,6,236,7,95,95,100,111,99,95,95,9,65,95,102,114,111,122,101,110,95,105,109,112,111,114,116,108,105,98,95,101,120,116,101,114,110,97,108,46,69,120,116,101,110,115,105,111,110,70,105,108,101,76,111,97,100,101,114,46,95,95,100,111,99,95,95,58,115,116,114,35,111,112,97,113,117,101,6,237,8,95,95,105,110,105,116,95,95,9,62,95,102,114,111,122,101,110,95,105,109,112,111,114,116,108,105,98,95,101,120,116,101,114,110,97,108,46,69,120,116,101,110,115,105,111,110,70,105,108,101,76,111,97,100,101,114,46,95,95,105,110,105,116,95,95,35,111,112,97,113,117,101,6,238,6,95,95,101,113,95,95,9,60,95,102,114,111,122,101,110,95,105,109,112,111,114,116,108,105,98,95,101,120,116,101,114,110,97,108,46,69,120,116,101,110,115,105,111,110,70,105,108,101,76,111,97,100,101,114,46,95,95,101,113,95,95,35,111,112,97,113,117,101,6,239,8,95,95,104,97,115,104,95,95,9,62,95,102,114,111,122,101,110,95,105,109,112,111,114,116,108,105,98,95,101,120,116,101,114,110,97,108,46,69,120,116,101,110,115,105,111,110,70,105,108,101,76,111,97,100,101,114,46,95,95,104,97,115,104,95,95,35,111,112,97,113,117,101,6,240,13,99,114,101,97,116,101,95,109,111,100,117,108,101,9,67,95,102,114,111,122,101,110,95,105,109,112,111,114,116,108,105,98,95,101,120,116,101,114,110,97,108,46,69,120,116,101,110,115,105,111,110,70,105,108,101,76,111,97,100,101,114,46,99,114,101,97,116,101,95,109,111,100,117,108,101,35,111,112,97,113,117,101,6,241,11,101,120,101,99,95,109,111,100,117,108,101,9,65,95,102,114,111,122,101,110,95,105,109,112,111,114,116,108,105,98,95,101,120,116,101,114,110,97,108,46,69,120,116,101,110,115,105,111,110,70,105,108,101,76,111,97,100,101,114,46,101,120,101,99,95,109,111,100,117,108,101,35,111,112,97,113,117,101,6,242,10,105,115,95,112,97,99,107,97,103,101,9,64,95,102,114,111,122,101,110,95,105,109,112,111,114,116,108,105,98,95,101,120,116,101,114,110,97,108,46,69,120,116,101,110,115,105,111,110,70,105,108,101,76,111,97,100,101,114,46,105,115,95,112,97,99,107,97,103,101,35,111,112,97,113,117,101,6,243,8,103,101,116,95,99,111,100,101,9,62,95,102,114,111,122,101,110,95,105,109,112,111,114,116,108,105,98,95,101,120,116,101,114,110,97,108,46,69,120,116,101,110,115,105,111,110,70,105,108,101,76,111,97,100,101,114,46,103,101,116,95,99,111,100,101,35,111,112,97,113,117,101,6,244,10,103,101,116,95,115,111,117,114,99,101,9,64,95,102,114,111,122,101,110,95,105,109,112,111,114,116,108,105,98,95,101,120,116,101,114,110,97,108,46,69,120,116,101,110,115,105,111,110,70,105,108,101,76,111,97,100,101,114,46,103,101,116,95,115,111,117,114,99,101,35,111,112,97,113,117,101,6,245,12,103,101,116,95,102,105,108,101,110,97,109,101,9,66,95,102,114,111,122,101,110,95,105,109,112,111,114,116,108,105,98,95,101,120,116,101,114,110,97,108,46,69,120,116,101,110,115,105,111,110,70,105,108,101,76,111,97,100,101,114,46,103,101,116,95,102,105,108,101,110,97,109,101,35,111,112,97,113,117,101,6,246,21,95,95,115,116,97,116,105,99,95,97,116,116,114,105,98,117,116,101,115,95,95,4,0,0,28]⟩⟩ 0),(.bool true),(.bool true),(.str Vc 247),(.int 32 0),(.str ⟨⟨[6,268,10,95,95,109,111,100,117,108,101,95,95,6,258,17,95,102,114,111,122,101,110,95,105,109,112,111,114,116,108,105,98,6,269,15,95,95,102,105,114,115,116,108,105,110,101,110,111,95,95,4,259,0,562,6,270,7,95,95,100,111,99,95,95,9,47,95,102,114,111,122,101,110,95,105,109,112,111,114,116,108,105,98,46,77,111,100,117,108,101,83,112,101,99,46,95,95,100,111,99,95,95,58,115,116,114,35,111,112,97,113,117,101,6,271,8,95,95,105,110,105,116,95,95,9,44,95,102,114,111,122,101,110,95,105,109,112,111,114,116,108,105,98,46,77,111,100,117,108,101,83,112,101,99,46,95,95,105,110,105,116,95,95,35,111,112,97,113,117,101,6,272,8,95,95,114,101,112,114,95,95,9,44,95,102,114,111,122,101,110,95,105,109,112,111,114,116,108,105,98,46,77,111,100,117,108,101,83,112,101,99,46,95,95,114,101,112,114,95,95,35,111,112,97,113,117,101,6,273,6,95,95,101,113,95,95,9,42,95,102,114,111,122,101,110,95,105,109,112,111,114,116,108,105,98,46,77,111,100,117,108,101,83,112,101,99,46,95,95,101,113,95,95,35,111,112,97,113,117,101,6,274,6,99,97,99,104,101,100,9,42,95,102,114,111,122,101,110,95,105,109,112,111,114,116,108,105,98,46,77,111,100,117,108,101,83,112,101,99,46,99,97,99,104,101,100,35,111,112,97,113,117,101,6,275,6,112,97,114,101,110,116,9,42,95,102,114,111,122,101,110,95,105,109,112,111,114,116,108,105,98,46,77,111,100,117,108,101,83,112,101,99,46,112,97,114,101,110,116,35,111,112,97,113,117,101,6,276,12,104,97,115,95,108,111,99,97,116,105,111,110,9,48,95,102,114,111,122,101,110,95,105,109,112,111,114,116,108,105,98,46,77,111,100,117,108,101,83,112,101,99,46,104,97,115,95,108,111,99,97,116,105,111,110,35,111,112,97,113,117,101,6,277,21,95,95,115,116,97,116,105,99,95,97,116,116,114,105,98,117,116,101,115,95,95,4,0,0,34,6,279,8,95,95,100,105,99,116,95,95,4,0,0,35,6,281,11,95,95,119,101,97,107,114,101,102,95,95,4,0,0,36,6,282,8,95,95,104,97,115,104,95,95,0]⟩⟩ 0),(.bool true),(.bool true),(.str Vc 283)] 3),#[]⟩
noncomputable def e21(P:Params):Obj:=⟨(.type L51),none,(.dict #[k P Ke 213 (.str n195 209),k P K9 214 (.int 1176 210),k P n2 215 (.builtin "_frozen_importlib_external.FileLoader.__doc__:str#opaque"),k P Uj 216 (.builtin "_frozen_importlib_external.FileLoader.__init__#opaque"),k P n210 217 (.builtin "_frozen_importlib_external.FileLoader.__eq__#opaque"),k P n211 218 (.builtin "_frozen_importlib_external.FileLoader.__hash__#opaque"),k P n200 219 (.builtin "_frozen_importlib_external.FileLoader.load_module#opaque"),k P n212 220 (.builtin "_frozen_importlib_external.FileLoader.get_filename#opaque"),k P ⟨⟨[103,101,116,95,100,97,116,97]⟩⟩ 221 (.builtin "_frozen_importlib_external.FileLoader.get_data#opaque"),k P ⟨⟨[103,101,116,95,114,101,115,111,117,114,99,101,95,114,101,97,100,101,114]⟩⟩ 222 (.builtin "_frozen_importlib_external.FileLoader.get_resource_reader#opaque"),k P K8 223 (.ref 23),k P K6 225 (.ref 24),k P K4 227 (.ref 25)] 13),#[]⟩
noncomputable def e22(P:Params):Obj:=⟨(.type L69),none,(.cls ⟨n215,[(.type L60)],[(.ref 22),(.type L60)],21,n215,true,[],[(.ref 27)],false,none,false⟩),#[]⟩
noncomputable def e23(P:Params):Obj:=⟨(.type L68),none,(.seq #[(.str jbv 211),(.str n193 212)] 0),#[]⟩
noncomputable def e24(P:Params):Obj:=⟨(.type Os),none,(.fields #[(.str K6 224),(.ref 22),(.builtin jcO),(.builtin jcN)]),#[]⟩
noncomputable def e25(P:Params):Obj:=⟨(.type Os),none,(.fields #[(.str K4 226),(.ref 22),(.builtin jcM),vn]),#[]⟩
noncomputable def e26(P:Params):Obj:=⟨(.type L51),none,(.dict #[k P Ke 234 (.str n195 230),k P K9 235 (.int 1296 231),k P n2 236 (.builtin "_frozen_importlib_external.ExtensionFileLoader.__doc__:str#opaque"),k P Uj 237 (.builtin "_frozen_importlib_external.ExtensionFileLoader.__init__#opaque"),k P n210 238 (.builtin "_frozen_importlib_external.ExtensionFileLoader.__eq__#opaque"),k P n211 239 (.builtin "_frozen_importlib_external.ExtensionFileLoader.__hash__#opaque"),k P n198 240 (.builtin "_frozen_importlib_external.ExtensionFileLoader.create_module#opaque"),k P n199 241 (.builtin "_frozen_importlib_external.ExtensionFileLoader.exec_module#opaque"),k P n197 242 (.builtin "_frozen_importlib_external.ExtensionFileLoader.is_package#opaque"),k P ⟨⟨[103,101,116,95,99,111,100,101]⟩⟩ 243 (.builtin "_frozen_importlib_external.ExtensionFileLoader.get_code#opaque"),k P ⟨⟨[103,101,116,95,115,111,117,114,99,101]⟩⟩ 244 (.builtin "_frozen_importlib_external.ExtensionFileLoader.get_source#opaque"),k P n212 245 (.builtin "_frozen_importlib_external.ExtensionFileLoader.get_filename#opaque"),k P K8 246 (.ref 28)] 13),#[]⟩
noncomputable def e27(P:Params):Obj:=⟨(.type L69),none,(.cls ⟨n218,[(.ref 22),(.ref 16)],[(.ref 27),(.ref 22),(.ref 16),(.type L60)],26,n218,true,[],[],false,none,false⟩),#[]⟩
noncomputable def e28(P:Params):Obj:=⟨(.type L68),none,(.seq #[(.str jbv 232),(.str n193 233)] 0),#[]⟩
noncomputable def e29(P:Params):Obj:=⟨(.ref 27),(some 14),.plain,#[]⟩
noncomputable def e30(P:Params):Obj:=⟨(.type L58),none,(.seq #[] 0),#[]⟩
noncomputable def e31(P:Params):Obj:=⟨(.type L51),none,(.dict #[k P jbv 249 (.str Zt 248),k P n219 250 (.ref 29),k P n220 251 (.str n190 187),k P n221 252 vn,k P n222 253 vn,k P n223 254 (.ref 30),k P n224 255 (.bool true),k P n225 256 vn,k P ⟨⟨[95,105,110,105,116,105,97,108,105,122,105,110,103]⟩⟩ 284 (.bool false)] 9),#[]⟩
noncomputable def e32(P:Params):Obj:=⟨(.type L51),none,(.dict #[k P Ke 268 (.str ⟨⟨[95,102,114,111,122,101,110,95,105,109,112,111,114,116,108,105,98]⟩⟩ 258),k P K9 269 (.int 562 259),k P n2 270 (.builtin "_frozen_importlib.ModuleSpec.__doc__:str#opaque"),k P Uj 271 (.builtin "_frozen_importlib.ModuleSpec.__init__#opaque"),k P n228 272 (.builtin "_frozen_importlib.ModuleSpec.__repr__#opaque"),k P n210 273 (.builtin "_frozen_importlib.ModuleSpec.__eq__#opaque"),k P ⟨⟨[99,97,99,104,101,100]⟩⟩ 274 (.builtin "_frozen_importlib.ModuleSpec.cached#opaque"),k P n230 275 (.builtin "_frozen_importlib.ModuleSpec.parent#opaque"),k P ⟨⟨[104,97,115,95,108,111,99,97,116,105,111,110]⟩⟩ 276 (.builtin "_frozen_importlib.ModuleSpec.has_location#opaque"),k P K8 277 (.ref 34),k P K6 279 (.ref 35),k P K4 281 (.ref 36),k P n211 282 vn] 13),#[]⟩
noncomputable def e33(P:Params):Obj:=⟨(.type L69),none,(.cls ⟨n232,[(.type L60)],[(.ref 33),(.type L60)],32,n232,true,[],[],false,none,false⟩),#[]⟩
noncomputable def e34(P:Params):Obj:=⟨(.type L68),none,(.seq #[(.str n225 260),(.str n224 261),(.str n223 262),(.str n219 263),(.str n221 264),(.str jbv 265),(.str n220 266),(.str n222 267)] 0),#[]⟩
noncomputable def e35(P:Params):Obj:=⟨(.type Os),none,(.fields #[(.str K6 278),(.ref 33),(.builtin jcO),(.builtin jcN)]),#[]⟩
noncomputable def e36(P:Params):Obj:=⟨(.type Os),none,(.fields #[(.str K4 280),(.ref 33),(.builtin jcM),vn]),#[]⟩
noncomputable def e37(P:Params):Obj:=⟨(.ref 33),(some 31),.plain,#[]⟩
noncomputable def e38(P:Params):Obj:=⟨vn,none,(.seq #[(.int 12 0),(.str ⟨⟨[6,288,8,95,95,110,97,109,101,95,95,6,287,6,95,104,101,97,112,113,6,289,7,95,95,100,111,99,95,95,9,25,95,104,101,97,112,113,46,95,95,100,111,99,95,95,58,115,116,114,35,111,112,97,113,117,101,6,291,11,95,95,112,97,99,107,97,103,101,95,95,6,290,0,6,292,10,95,95,108,111,97,100,101,114,95,95,4,0,0,29,6,293,8,95,95,115,112,101,99,95,95,4,0,0,37,6,294,8,104,101,97,112,112,117,115,104,9,15,95,104,101,97,112,113,46,104,101,97,112,112,117,115,104,6,295,11,104,101,97,112,112,117,115,104,112,111,112,9,18,95,104,101,97,112,113,46,104,101,97,112,112,117,115,104,112,111,112,6,296,7,104,101,97,112,112,111,112,9,14,95,104,101,97,112,113,46,104,101,97,112,112,111,112,6,297,11,104,101,97,112,114,101,112,108,97,99,101,9,18,95,104,101,97,112,113,46,104,101,97,112,114,101,112,108,97,99,101,6,298,7,104,101,97,112,105,102,121,9,14,95,104,101,97,112,113,46,104,101,97,112,105,102,121,6,299,12,95,104,101,97,112,112,111,112,95,109,97,120,9,19,95,104,101,97,112,113,46,95,104,101,97,112,112,111,112,95,109,97,120,6,300,12,95,104,101,97,112,105,102,121,95,109,97,120,9,19,95,104,101,97,112,113,46,95,104,101,97,112,105,102,121,95,109,97,120,6,301,16,95,104,101,97,112,114,101,112,108,97,99,101,95,109,97,120,9,23,95,104,101,97,112,113,46,95,104,101,97,112,114,101,112,108,97,99,101,95,109,97,120,6,302,8,95,95,102,105,108,101,95,95,6,187,125,47,110,105,120,47,115,116,111,114,101,47,119,106,49,102,53,54,113,107,121,52,112,109,106,99,55,108,48,114,54,98,54,108,55,119,104,110,110,119,55,104,112,54,45,112,121,116,104,111,110,51,45,51,46,49,51,46,49,53,47,108,105,98,47,112,121,116,104,111,110,51,46,49,51,47,108,105,98,45,100,121,110,108,111,97,100,47,95,104,101,97,112,113,46,99,112,121,116,104,111,110,45,51,49,51,45,120,56,54,95,54,52,45,108,105,110,117,120,45,103,110,117,46,115,111,6,303,9,95,95,97,98,111,117,116,95,95,9,27,95,104,101,97,112,113,46,95,95,97,98,111,117,116,95,95,58,115,116,114,35,111,112,97,113,117,101]⟩⟩ 0),(.bool true),(.bool false),(.str Zt 305)] 0),#[]⟩
noncomputable def z12(P:Params):Obj:=⟨(.type L51),none,(.dict #[k P n0 288 (.str Zt 287),k P n2 289 (.builtin "off-the-table:_heapq.__doc__:shared#opaque"),k P n3 291 (.str Vc 290),k P n4 292 (.builtin "off-the-table:_heapq.__loader__:shared#opaque"),k P n5 293 (.builtin "off-the-table:_heapq.__spec__:shared#opaque"),k P n184 294 (.builtin L150),k P n185 295 (.builtin L151),k P Vb 296 (.builtin L152),k P Uk 297 (.builtin L146),k P Ul 298 (.builtin L145),k P n187 299 (.builtin L153),k P n188 300 (.builtin L154),k P n189 301 (.builtin L155),k P n175 302 (.str n190 187),k P n191 303 (.builtin "off-the-table:_heapq.__about__:shared#opaque")] 15),#[]⟩
noncomputable def a41(P:Params):Obj:=⟨(.type kY),none,(.fields #[(.str n180 317),(.str n180 318),(.str jI 319),(.int 1 0),(.int 0 0),(.int 0 0),(.int 0 0),(.int 0 0),(.ref 39),(.bool false),(.int 316 0),(.ref 40),vn,vn,vn,vn,(.int 320 0),(.int 1 0),(.str jI 321)]),#[]⟩
noncomputable def a42(P:Params):Obj:=⟨(.type VD),none,.plain,#[some (.ref 41),some (.ref 3),some (.ref 3),none,some (.str jbw 164),none,some (.ref 0)]⟩
noncomputable def f3(P:Params):Obj:=⟨(.type L51),none,(.dict #[k P n0 165 (.str Zs 798),k P n2 166 vn,k P n3 167 vn,k P n4 168 (.builtin L144),k P n5 169 vn,k P n173 170 (.ref 6),k P n174 171 (.ref 4),k P n175 173 (.str jI 172),k P n177 174 vn,k P n178 312 (.builtin L145),k P n179 315 (.builtin L146),k P Zr 328 (.ref 49),k P Ui 387 (.ref 88),k P Uh 515 (.ref 163),k P Zq 523 (.ref 173),k P Ug 719 (.ref 270),k P Zp 727 (.ref 280),k P Zo 738 (.ref 286),k P Vb 750 (.ref 293),k P Uk 760 (.ref 300),k P n242 761 (.ref 300),k P Ul 771 (.ref 307),k P n243 772 (.ref 307),k P Zn 784 (.ref 314),k P Zm 797 (.ref 321),k P Zl 805 (.ref 326),k P Zk 823 (.ref 333),k P Zj 829 (.ref 338),k P Zi 846 (.ref 345),k P jbu 852 (.ref 350)] 30),#[]⟩
noncomputable def f51(P:Params):Obj:=⟨(.type L161),none,(.fields #[(.builtin PySem.W.SL.s10062305145149207511x16),(.type L69)]),#[]⟩
noncomputable def f64(P:Params):Obj:=⟨(.type L68),none,(.seq #[vn] 0),#[]⟩
noncomputable def f109(P:Params):Obj:=⟨(.type kY),none,(.fields #[(.str n270 409),(.str n282 410),(.str jI 411),(.int 30 0),(.int 4 0),(.int 0 0),(.int 0 0),(.int 3 0),(.ref 104),(.bool true),(.int 316 0),(.ref 105),vn,(.ref 106),(.ref 107),(.ref 108),(.int 416 0),(.int 30 0),(.str jI 417)]),#[]⟩
noncomputable def f110(X:XB)(P:Params):Obj:=⟨(.type qd),none,(.func (fd (t4_4 (X 4 4)) n282 3 [] vn vn (.str (wa (t4_4 (X 4 4))) 418) (.str qi 329) none (.ref 109) vn 0)),#[]⟩
noncomputable def f116(P:Params):Obj:=⟨(.type kY),none,(.fields #[(.str n271 420),(.str n286 421),(.str jI 422),(.int 34 0),(.int 2 0),(.int 0 0),(.int 0 0),(.int 3 0),(.ref 111),(.bool true),(.int 316 0),(.ref 112),vn,(.ref 113),(.ref 114),(.ref 115),(.int 426 0),(.int 34 0),(.str jI 427)]),#[]⟩
noncomputable def f117(X:XB)(P:Params):Obj:=⟨(.type qd),none,(.func (fd (jaw (X 4 5)) n286 3 [] vn vn (.str (wa (jaw (X 4 5))) 428) (.str qi 329) (some 120) (.ref 116) vn 0)),#[]⟩
noncomputable def f119(P:Params):Obj:=⟨(.type L49),(some 118),(.fields #[(.ref 117),(.bool false)]),#[]⟩
noncomputable def f162(X:XB)(P:Params):Obj:=⟨(.type L51),none,(.dict #[k P Ke 395 (.str qi 329),k P K9 399 (.int 24 398),k P n2 401 (.str (docC (t4 X)) 400),k P n267 403 (.ref 101),k P n268 407 (.ref 102),k P n269 408 (.ref 103),k P n270 419 (.ref 164),k P n271 441 (.ref 119),k P n272 452 (.ref 128),k P n273 453 (.ref 128),k P n228 461 (.ref 135),k P n274 468 (.ref 142),k P n275 476 (.ref 149),k P n276 480 (.ref 150),k P K0 490 (.ref 152),k P Kd 500 (.ref 155),k P Zh 510 (.ref 158),k P K8 511 (.ref 160)] 2),#[]⟩
noncomputable def f163(P:Params):Obj:=⟨(.type L69),none,(.cls ⟨Uh,[(.type L68)],[(.ref 163),(.type L68),(.type L60)],162,Uh,false,[],[],false,none,false⟩),#[some (.ref 93),none,some (.str Uh 388),some (.str Uh 396),some vn,some (.bool false)]⟩
noncomputable def f164(P:Params):Obj:=⟨(.type L65),none,(.fields #[(.ref 110)]),#[]⟩
noncomputable def f172(P:Params):Obj:=⟨(.type kY),none,(.fields #[(.str Zq 516),(.str Zq 517),(.str jI 518),(.int 67 0),(.int 2 0),(.int 0 0),(.int 0 0),(.int 3 0),(.ref 167),(.bool true),(.int 316 0),(.ref 168),vn,(.ref 169),(.ref 170),(.ref 171),(.int 521 0),(.int 67 0),(.str jI 522)]),#[]⟩
noncomputable def f173(X:XB)(P:Params):Obj:=⟨(.type qd),none,(.func (fd (t5 X) Zq 3 [] vn vn vn (.str qi 329) none (.ref 172) vn 0)),#[]⟩
noncomputable def f181(P:Params):Obj:=⟨(.type L68),none,(.seq #[vn,(.str Vc 539),(.str Vc 540),(.bool true)] 0),#[]⟩
noncomputable def f187(P:Params):Obj:=⟨(.type kY),none,(.fields #[(.str Uj 541),(.str n311 542),(.str jI 543),(.int 146 0),(.int 5 0),(.int 0 0),(.int 0 0),(.int 3 0),(.ref 182),(.bool true),(.int 316 0),(.ref 183),vn,(.ref 184),(.ref 185),(.ref 186),(.int 549 0),(.int 146 0),(.str jI 550)]),#[]⟩
noncomputable def f188(X:XB)(P:Params):Obj:=⟨(.type qd),none,(.func (fd (t6_1 (X 6 1)) n311 3 [] (.ref 181) vn (.str (wa (t6_1 (X 6 1))) 551) (.str qi 329) none (.ref 187) vn 0)),#[]⟩
noncomputable def f194(P:Params):Obj:=⟨(.type kY),none,(.fields #[(.str n298 553),(.str n312 554),(.str jI 555),(.int 174 0),(.int 3 0),(.int 0 0),(.int 0 0),(.int 3 0),(.ref 189),(.bool true),(.int 316 0),(.ref 190),vn,(.ref 191),(.ref 192),(.ref 193),(.int 559 0),(.int 174 0),(.str jI 560)]),#[]⟩
noncomputable def f195(X:XB)(P:Params):Obj:=⟨(.type qd),none,(.func (fd (t6_2 (X 6 2)) n312 3 [] vn vn (.str (wa (t6_2 (X 6 2))) 561) (.str qi 329) none (.ref 194) vn 0)),#[]⟩
noncomputable def f201(P:Params):Obj:=⟨(.type kY),none,(.fields #[(.str n299 563),(.str n313 564),(.str jI 565),(.int 185 0),(.int 2 0),(.int 0 0),(.int 0 0),(.int 3 0),(.ref 196),(.bool true),(.int 316 0),(.ref 197),vn,(.ref 198),(.ref 199),(.ref 200),(.int 568 0),(.int 185 0),(.str jI 569)]),#[]⟩
noncomputable def f202(X:XB)(P:Params):Obj:=⟨(.type qd),none,(.func (fd (t6_3 (X 6 3)) n313 3 [] vn vn (.str (wa (t6_3 (X 6 3))) 570) (.str qi 329) none (.ref 201) vn 0)),#[]⟩
noncomputable def f208(P:Params):Obj:=⟨(.type kY),none,(.fields #[(.str n300 572),(.str n314 573),(.str jI 574),(.int 210 0),(.int 2 0),(.int 0 0),(.int 0 0),(.int 3 0),(.ref 203),(.bool true),(.int 316 0),(.ref 204),vn,(.ref 205),(.ref 206),(.ref 207),(.int 577 0),(.int 210 0),(.str jI 578)]),#[]⟩
noncomputable def f209(X:XB)(P:Params):Obj:=⟨(.type qd),none,(.func (fd (t6_4 (X 6 4)) n314 3 [] vn vn (.str (wa (t6_4 (X 6 4))) 579) (.str qi 329) none (.ref 208) vn 0)),#[]⟩
noncomputable def f215(P:Params):Obj:=⟨(.type kY),none,(.fields #[(.str ⟨⟨[95,95,99,104,97,105,110,95,98]⟩⟩ 581),(.str n324 582),(.str jI 583),(.int 237 0),(.int 1 0),(.int 0 0),(.int 0 0),(.int 3 0),(.ref 210),(.bool true),(.int 316 0),(.ref 211),vn,(.ref 212),(.ref 213),(.ref 214),(.int 596 0),(.int 237 0),(.str jI 597)]),#[]⟩
noncomputable def f216(X:XB)(P:Params):Obj:=⟨(.type qd),none,(.func (fd (t6_5 (X 6 5)) n324 3 [] vn vn vn (.str qi 329) none (.ref 215) vn 0)),#[]⟩
noncomputable def f217(P:Params):Obj:=⟨(.type L68),none,(.seq #[(.int 0 599),vn,(.int 0 600),vn] 0),#[]⟩
noncomputable def f223(P:Params):Obj:=⟨(.type kY),none,(.fields #[(.str n302 601),(.str n339 602),(.str jI 603),(.int 261 0),(.int 5 0),(.int 0 0),(.int 0 0),(.int 3 0),(.ref 218),(.bool true),(.int 316 0),(.ref 219),vn,(.ref 220),(.ref 221),(.ref 222),(.int 623 0),(.int 261 0),(.str jI 624)]),#[]⟩
noncomputable def f224(X:XB)(P:Params):Obj:=⟨(.type qd),none,(.func (fd (t6_6 (X 6 6)) n339 3 [] (.ref 217) vn (.str (wa (t6_6 (X 6 6))) 625) (.str qi 329) none (.ref 223) vn 0)),#[]⟩
noncomputable def f230(P:Params):Obj:=⟨(.type kY),none,(.fields #[(.str n303 627),(.str n352 628),(.str jI 629),(.int 336 0),(.int 1 0),(.int 0 0),(.int 0 0),(.int 3 0),(.ref 225),(.bool true),(.int 316 0),(.ref 226),vn,(.ref 227),(.ref 228),(.ref 229),(.int 650 0),(.int 336 0),(.str jI 651)]),#[]⟩
noncomputable def f231(X:XB)(P:Params):Obj:=⟨(.type qd),none,(.func (fd (t6_7 (X 6 7)) n352 3 [] vn vn (.str (wa (t6_7 (X 6 7))) 652) (.str qi 329) none (.ref 230) vn 0)),#[]⟩
noncomputable def f252(P:Params):Obj:=⟨(.type kY),none,(.fields #[(.str n306 670),(.str n355 671),(.str jI 672),(.int 390 0),(.int 1 0),(.int 0 0),(.int 0 0),(.int 3 0),(.ref 247),(.bool true),(.int 316 0),(.ref 248),vn,(.ref 249),(.ref 250),(.ref 251),(.int 675 0),(.int 390 0),(.str jI 676)]),#[]⟩
noncomputable def f253(X:XB)(P:Params):Obj:=⟨(.type qd),none,(.func (fd (X3 (X 6 10)) n355 3 [] vn vn (.str (wa (X3 (X 6 10))) 677) (.str qi 329) none (.ref 252) vn 0)),#[]⟩
noncomputable def f259(P:Params):Obj:=⟨(.type kY),none,(.fields #[(.str n307 679),(.str n360 680),(.str jI 681),(.int 414 0),(.int 1 0),(.int 0 0),(.int 0 0),(.int 3 0),(.ref 254),(.bool true),(.int 316 0),(.ref 255),vn,(.ref 256),(.ref 257),(.ref 258),(.int 689 0),(.int 414 0),(.str jI 690)]),#[]⟩
noncomputable def f260(X:XB)(P:Params):Obj:=⟨(.type qd),none,(.func (fd (X2 (X 6 11)) n360 3 [] vn vn (.str (wa (X2 (X 6 11))) 691) (.str qi 329) none (.ref 259) vn 0)),#[]⟩
noncomputable def f266(P:Params):Obj:=⟨(.type kY),none,(.fields #[(.str n308 693),(.str n361 694),(.str jI 695),(.int 437 0),(.int 1 0),(.int 0 0),(.int 0 0),(.int 3 0),(.ref 261),(.bool true),(.int 316 0),(.ref 262),vn,(.ref 263),(.ref 264),(.ref 265),(.int 699 0),(.int 437 0),(.str jI 700)]),#[]⟩
noncomputable def f267(X:XB)(P:Params):Obj:=⟨(.type qd),none,(.func (fd (X1 (X 6 12)) n361 3 [] vn vn (.str (wa (X1 (X 6 12))) 701) (.str qi 329) none (.ref 266) vn 0)),#[]⟩
noncomputable def f269(X:XB)(P:Params):Obj:=⟨(.type L51),none,(.dict #[k P Ke 531 (.str qi 329),k P K9 535 (.int 71 534),k P n2 537 (.str (docC (t6 X)) 536),k P Uj 552 (.ref 188),k P n298 562 (.ref 195),k P n299 571 (.ref 202),k P n300 580 (.ref 209),k P n301 598 (.ref 216),k P n302 626 (.ref 224),k P n303 653 (.ref 231),k P n304 660 (.ref 238),k P n305 669 (.ref 246),k P n306 678 (.ref 253),k P n307 692 (.ref 260),k P n308 702 (.ref 267),k P K8 713 (.ref 268),k P K6 715 (.ref 271),k P K4 717 (.ref 272)] 3),#[]⟩
noncomputable def f270(P:Params):Obj:=⟨(.type L69),none,(.cls ⟨Ug,[(.type L60)],[(.ref 270),(.type L60)],269,Ug,true,[],[],false,none,false⟩),#[none,none,some (.str Ug 524),some (.str Ug 532),some (.builtin L163),some (.bool true)]⟩
noncomputable def f279(P:Params):Obj:=⟨(.type kY),none,(.fields #[(.str Zp 722),(.str Zp 723),(.str jI 724),(.int 446 0),(.int 3 0),(.int 0 0),(.int 0 0),(.int 3 0),(.ref 276),(.bool true),(.int 316 0),(.ref 277),vn,vn,vn,(.ref 278),(.int 725 0),(.int 446 0),(.str jI 726)]),#[]⟩
noncomputable def f280(X:XB)(P:Params):Obj:=⟨(.type qd),none,(.func (fd (t8 X) Zp 3 [] (.ref 275) vn vn (.str ⟨⟨[104,101,97,112,113]⟩⟩ 720) none (.ref 279) vn 0)),#[]⟩
noncomputable def f281(P:Params):Obj:=⟨(.type L68),none,(.seq #[(.int 3 730),(.float 4603579539098121011 731)] 0),#[]⟩
noncomputable def f285(P:Params):Obj:=⟨(.type kY),none,(.fields #[(.str Zo 732),(.str Zo 733),(.str jI 734),(.int 492 0),(.int 4 0),(.int 0 0),(.int 0 0),(.int 3 0),(.ref 282),(.bool true),(.int 316 0),(.ref 283),vn,vn,vn,(.ref 284),(.int 735 0),(.int 492 0),(.str jI 736)]),#[]⟩
noncomputable def f286(X:XB)(P:Params):Obj:=⟨(.type qd),none,(.func (fd (t10 X) Zo 3 [] (.ref 281) vn (.str (wa (t10 X)) 737) (.str qi 728) none (.ref 285) vn 0)),#[]⟩
noncomputable def f292(P:Params):Obj:=⟨(.type kY),none,(.fields #[(.str Vb 741),(.str Vb 742),(.str jI 743),(.int 534 0),(.int 1 0),(.int 0 0),(.int 0 0),(.int 3 0),(.ref 287),(.bool true),(.int 316 0),(.ref 288),vn,(.ref 289),(.ref 290),(.ref 291),(.int 747 0),(.int 534 0),(.str jI 748)]),#[]⟩
noncomputable def f293(X:XB)(P:Params):Obj:=⟨(.type qd),none,(.func (fd (t12 X) Vb 3 [] vn vn (.str (wa (t12 X)) 749) (.str jbr 739) none (.ref 292) vn 0)),#[]⟩
noncomputable def f299(P:Params):Obj:=⟨(.type kY),none,(.fields #[(.str Uk 751),(.str Uk 752),(.str jI 753),(.int 543 0),(.int 2 0),(.int 0 0),(.int 0 0),(.int 3 0),(.ref 294),(.bool true),(.int 316 0),(.ref 295),vn,(.ref 296),(.ref 297),(.ref 298),(.int 757 0),(.int 543 0),(.str jI 758)]),#[]⟩
noncomputable def f300(X:XB)(P:Params):Obj:=⟨(.type qd),none,(.func (fd (t13 X) Uk 3 [] vn vn (.str (wa (t13 X)) 759) (.str jbr 739) none (.ref 299) vn 0)),#[]⟩
noncomputable def f306(P:Params):Obj:=⟨(.type kY),none,(.fields #[(.str Ul 762),(.str Ul 763),(.str jI 764),(.int 559 0),(.int 1 0),(.int 0 0),(.int 0 0),(.int 3 0),(.ref 301),(.bool true),(.int 316 0),(.ref 302),vn,(.ref 303),(.ref 304),(.ref 305),(.int 768 0),(.int 559 0),(.str jI 769)]),#[]⟩
noncomputable def f307(X:XB)(P:Params):Obj:=⟨(.type qd),none,(.func (fd (t15 X) Ul 3 [] vn vn (.str (wa (t15 X)) 770) (.str jbr 739) none (.ref 306) vn 0)),#[]⟩
noncomputable def f313(P:Params):Obj:=⟨(.type kY),none,(.fields #[(.str Zn 773),(.str Zn 774),(.str jI 775),(.int 565 0),(.int 3 0),(.int 0 0),(.int 0 0),(.int 3 0),(.ref 308),(.bool true),(.int 316 0),(.ref 309),vn,(.ref 310),(.ref 311),(.ref 312),(.int 782 0),(.int 565 0),(.str jI 783)]),#[]⟩
noncomputable def f314(X:XB)(P:Params):Obj:=⟨(.type qd),none,(.func (fd (t17 X) Zn 3 [] vn vn vn (.str jbr 739) none (.ref 313) vn 0)),#[]⟩
noncomputable def f320(P:Params):Obj:=⟨(.type kY),none,(.fields #[(.str Zm 785),(.str Zm 786),(.str jI 787),(.int 576 0),(.int 2 0),(.int 0 0),(.int 0 0),(.int 3 0),(.ref 315),(.bool true),(.int 316 0),(.ref 316),vn,(.ref 317),(.ref 318),(.ref 319),(.int 795 0),(.int 576 0),(.str jI 796)]),#[]⟩
noncomputable def f321(X:XB)(P:Params):Obj:=⟨(.type qd),none,(.func (fd (t18 X) Zm 3 [] vn vn vn (.str jbr 739) none (.ref 320) vn 0)),#[]⟩
noncomputable def f325(P:Params):Obj:=⟨(.type kY),none,(.fields #[(.str Zl 800),(.str Zl 801),(.str jI 802),(.int 591 0),(.int 1 0),(.int 0 0),(.int 0 0),(.int 3 0),(.ref 322),(.bool true),(.int 316 0),(.ref 323),vn,vn,vn,(.ref 324),(.int 803 0),(.int 591 0),(.str jI 804)]),#[]⟩
noncomputable def f326(X:XB)(P:Params):Obj:=⟨(.type qd),none,(.func (fd (t20 X) Zl 3 [] vn vn vn (.str Zs 798) none (.ref 325) vn 0)),#[]⟩
noncomputable def f332(P:Params):Obj:=⟨(.type kY),none,(.fields #[(.str Zk 806),(.str Zk 807),(.str jI 808),(.int 593 0),(.int 2 0),(.int 0 0),(.int 0 0),(.int 3 0),(.ref 327),(.bool true),(.int 316 0),(.ref 328),vn,(.ref 329),(.ref 330),(.ref 331),(.int 821 0),(.int 593 0),(.str jI 822)]),#[]⟩
noncomputable def f333(X:XB)(P:Params):Obj:=⟨(.type qd),none,(.func (fd (t21 X) Zk 3 [] vn vn vn (.str Zs 798) none (.ref 332) vn 0)),#[]⟩
noncomputable def f337(P:Params):Obj:=⟨(.type kY),none,(.fields #[(.str Zj 824),(.str Zj 825),(.str jI 826),(.int 609 0),(.int 2 0),(.int 0 0),(.int 0 0),(.int 3 0),(.ref 334),(.bool true),(.int 316 0),(.ref 335),vn,vn,vn,(.ref 336),(.int 827 0),(.int 609 0),(.str jI 828)]),#[]⟩
noncomputable def f338(X:XB)(P:Params):Obj:=⟨(.type qd),none,(.func (fd (t22 X) Zj 3 [] vn vn vn (.str Zs 798) none (.ref 337) vn 0)),#[]⟩
noncomputable def f344(P:Params):Obj:=⟨(.type kY),none,(.fields #[(.str Zi 830),(.str Zi 831),(.str jI 832),(.int 614 0),(.int 3 0),(.int 0 0),(.int 0 0),(.int 3 0),(.ref 339),(.bool true),(.int 316 0),(.ref 340),vn,(.ref 341),(.ref 342),(.ref 343),(.int 844 0),(.int 614 0),(.str jI 845)]),#[]⟩
noncomputable def f345(X:XB)(P:Params):Obj:=⟨(.type qd),none,(.func (fd (t23 X) Zi 3 [] vn vn vn (.str Zs 798) none (.ref 344) vn 0)),#[]⟩
noncomputable def f349(P:Params):Obj:=⟨(.type kY),none,(.fields #[(.str jbu 847),(.str jbu 848),(.str jI 849),(.int 632 0),(.int 1 0),(.int 0 0),(.int 0 0),(.int 3 0),(.ref 346),(.bool true),(.int 316 0),(.ref 347),vn,vn,vn,(.ref 348),(.int 850 0),(.int 632 0),(.str jI 851)]),#[]⟩
noncomputable def f350(X:XB)(P:Params):Obj:=⟨(.type qd),none,(.func (fd (t24 X) jbu 3 [] vn vn vn (.str Zs 798) none (.ref 349) vn 0)),#[]⟩
noncomputable def b0(P:Params):BT:=(N (e3 P) (N (e7 P) (N (e15 P) (N (e31 P) E E) E) (N (e23 P) E E)) (N (e11 P) (N (e19 P) (N (e35 P) E E) E) (N (e27 P) E E)))
noncomputable def b1(P:Params):BT:=(N (e5 P) (N (e9 P) (N (e7 P) (N (e33 P) E E) E) (N (e25 P) E E)) (N (e13 P) (N (e21 P) (N (e37 P) E E) E) (N (e29 P) E E)))
noncomputable def b2(P:Params):BT:=(N (e4 P) (N (e8 P) (N (e16 P) (N (e32 P) E E) E) (N (e24 P) E E)) (N (⟨(.type L51),none,(.dict #[k P n0 288 (.str Zt 287),k P n2 289 (.builtin "_heapq.__doc__:str#opaque"),k P n3 291 (.str Vc 290),k P n4 292 (.ref 29),k P n5 293 (.ref 37),k P n184 294 (.builtin L150),k P n185 295 (.builtin L151),k P Vb 296 (.builtin L152),k P Uk 297 (.builtin L146),k P Ul 298 (.builtin L145),k P n187 299 (.builtin L153),k P n188 300 (.builtin L154),k P n189 301 (.builtin L155),k P n175 302 (.str n190 187),k P n191 303 (.builtin "_heapq.__about__:str#opaque")] 15),#[]⟩) (N (e20 P) (N (e36 P) E E) E) (N (e28 P) E E)))
noncomputable def b3(P:Params):BT:=(N (e6 P) (N (e10 P) (N (e18 P) (N (e34 P) E E) E) (N (e26 P) E E)) (N (e14 P) (N (e22 P) (N (e38 P) E E) E) (N (e30 P) E E)))
noncomputable def eT(P:Params):BT:=(N (e0 P) (N (e1 P) (b0 P) (b1 P)) (N (e2 P) (b2 P) (b3 P)))
noncomputable def zT(P:Params):BT:=(N (e0 P) (N (e1 P) (b0 P) (b1 P)) (N (e2 P) (N (e4 P) (N (e8 P) (N (e16 P) (N (e32 P) E E) E) (N (e24 P) E E)) (N (z12 P) (N (e20 P) (N (e36 P) E E) E) (N (e28 P) E E))) (b3 P)))
noncomputable def aT(P:Params):BT:=(N (e0 P) (N (e1 P) (N (e3 P) (N (e7 P) (N (e15 P) (N (e31 P) E E) E) (N (e23 P) (N (e7 P) E E) E)) (N (e11 P) (N (e19 P) (N (e35 P) E E) E) (N (e27 P) E E))) (N (e5 P) (N (e9 P) (N (e7 P) (N (e33 P) E E) E) (N (e25 P) (N (a41 P) E E) E)) (N (e13 P) (N (e21 P) (N (e37 P) E E) E) (N (e29 P) E E)))) (N (e2 P) (N (e4 P) (N (e8 P) (N (e16 P) (N (e32 P) E E) E) (N (e24 P) (N (e8 P) E E) E)) (N (z12 P) (N (e20 P) (N (e36 P) E E) E) (N (e28 P) E E))) (N (e6 P) (N (e10 P) (N (e18 P) (N (e34 P) E E) E) (N (e26 P) (N (a42 P) E E) E)) (N (e14 P) (N (e22 P) (N (e38 P) E E) E) (N (e30 P) E E)))))
noncomputable def b13(X:XB)(P:Params):BT:=(N (e7 P) (N (e15 P) (N (e31 P) (N (⟨(.type qd),none,(.func (fd (t3_0 (X 3 0)) n260 3 [] vn vn vn (.str qi 329) none (.ref 62) vn 0)),#[]⟩) (N (⟨(.type kY),none,(.fields #[(.str n272 442),(.str n289 443),(.str jI 444),(.int 42 0),(.int 1 0),(.int 1 0),(.int 0 0),(.int 11 0),(.ref 122),(.bool true),(.int 316 0),(.ref 123),vn,(.ref 124),(.ref 125),(.ref 126),(.int 449 0),(.int 42 0),(.str jI 450)]),#[]⟩) (N (e8 P) E E) E) (N (⟨(.type L68),none,(.seq #[(.str vl 556),(.str K0 557),(.str Kd 558)] 0),#[]⟩) (N (⟨vn,none,(.func (fd (t18 X) Zm 0 [] vn vn vn vn none vn vn 0)),#[]⟩) E E) E)) (N (⟨(.type L51),none,(.dict #[k P Ke 395 (.str qi 329),k P n253 397 (.str Uh 396),k P K9 399 (.int 24 398),k P n2 401 (.str (docC (t4 X)) 400),k P n267 403 (.ref 101),k P n268 407 (.ref 102),k P n269 408 (.ref 103),k P n270 419 (.ref 110),k P n271 441 (.ref 119),k P n272 452 (.ref 128),k P n273 453 (.ref 128),k P n228 461 (.ref 135),k P n274 468 (.ref 142),k P n275 476 (.ref 149),k P n276 480 (.ref 150),k P K0 490 (.ref 152),k P Kd 500 (.ref 155),k P Zh 510 (.ref 158),k P K8 511 (.ref 160),k P ⟨⟨[95,95,99,108,97,115,115,99,101,108,108,95,95]⟩⟩ 512 (.ref 96)] 20),#[]⟩) (N (⟨(.type VD),none,(.dict #[k P vl 503 (.ref 158),k P Va 504 (.int 2 501),k P n259 505 (.str n295 502)] 3),#[]⟩) (N (e7 P) E E) E) (N (f223 P) E E))) (N (⟨vn,none,(.func (fd (t1 X) Zr 0 [] vn vn vn vn none vn vn 0)),#[]⟩) (N (e7 P) (N (e7 P) (N (⟨(.type Os),none,(.fields #[(.str K6 714),(.ref 270),(.builtin jcO),(.builtin jcN)]),#[]⟩) E E) E) (N (⟨vn,none,(.func (fd (t6_4 (X 6 4)) n314 0 [] vn vn vn vn none vn vn 0)),#[]⟩) (N (e8 P) E E) E)) (N (e7 P) (N (f51 P) (N (⟨(.type L68),none,(.seq #[(.str n344 765),(.str n321 766),(.str jbt 767)] 0),#[]⟩) E E) E) (N (⟨(.type L68),none,(.seq #[(.int 3 661)] 0),#[]⟩) E E)))) (N (e23 P) (N (e7 P) (N (⟨(.type qd),none,(.func (fd (t3_1 (X 3 1)) n263 3 [] (.ref 64) vn vn (.str qi 329) none (.ref 70) vn 0)),#[]⟩) (N (⟨(.type qd),none,(.func (fd (t4_8 (X 4 8)) n290 3 [] vn vn (.str (wa (t4_8 (X 4 8))) 460) (.str qi 329) none (.ref 134) vn 0)),#[]⟩) (N (⟨(.type L68),none,(.seq #[(.str vl 696),(.str n340 697),(.str n341 698)] 0),#[]⟩) E E) E) (N (e7 P) (N (e7 P) E E) E)) (N (e6 P) (N (e7 P) (N (e8 P) E E) E) (N (f231 X P) E E))) (N (⟨(.type kY),none,(.fields #[(.str Ui 333),(.str Ui 334),(.str jI 335),(.int 6 0),(.int 0 0),(.int 0 0),(.int 0 0),(.int 0 0),(.ref 53),(.bool false),(.int 316 0),(.ref 54),vn,vn,vn,vn,(.int 336 0),(.int 6 0),(.str jI 337)]),#[]⟩) (N (⟨(.type L51),none,(.dict #[k P Ke 338 (.str qi 329),k P K9 342 (.int 6 341),k P Uj 351 (.ref 63),k P n254 360 (.ref 71),k P n255 369 (.ref 78),k P n256 377 (.ref 85),k P K8 380 (.ref 86),k P K6 382 (.ref 89),k P K4 384 (.ref 90),k P n2 385 vn] 4),#[]⟩) (N (⟨(.type L51),none,(.dict #[k P Va 487 (.int 0 481),k P n2 489 (.str n293 482)] 2),#[]⟩) (N (f279 P) E E) E) (N (f215 P) (N (⟨vn,none,(.func (fd (t23 X) Zi 0 [] vn vn vn vn none vn vn 0)),#[]⟩) E E) E)) (N (f119 P) (N (e8 P) (N (e7 P) E E) E) (N (e7 P) E E)))))
noncomputable def b18(X:XB)(P:Params):BT:=(N (e11 P) (N (e19 P) (N (e35 P) (N (⟨(.type L68),none,(.seq #[(.str vl 355),(.str n261 356),(.str ⟨⟨[111,98,106,116,121,112,101]⟩⟩ 357)] 0),#[]⟩) (N (⟨(.type L68),none,(.seq #[(.str vl 457)] 0),#[]⟩) (N (f259 P) E E) E) (N (f195 X P) (N (e8 P) E E) E)) (N (⟨(.type kY),none,(.fields #[(.str Uh 390),(.str Uh 391),(.str jI 392),(.int 24 0),(.int 0 0),(.int 0 0),(.int 0 0),(.int 0 0),(.ref 97),(.bool false),(.int 316 0),(.ref 98),vn,vn,vn,vn,(.int 393 0),(.int 24 0),(.str jI 394)]),#[]⟩) (N (f163 P) (N (⟨vn,none,(.func (fd (t12 X) Vb 0 [] vn vn vn vn none vn vn 0)),#[]⟩) E E) E) (N (⟨(.type L68),none,(.seq #[(.str vl 630),(.str n340 631),(.str n341 632),(.str ⟨⟨[113,117,101,117,101]⟩⟩ 633),(.str n343 634),(.str n326 635),(.str n327 636),(.str n328 637),(.str n329 638),(.str jbt 639),(.str n338 640),(.str n251 641),(.str n344 642),(.str ⟨⟨[105,49]⟩⟩ 643),(.str ⟨⟨[106,49]⟩⟩ 644),(.str ⟨⟨[107,49]⟩⟩ 645),(.str ⟨⟨[110,111,110,95,97,100,106,97,99,101,110,116]⟩⟩ 646),(.str ⟨⟨[105,50]⟩⟩ 647),(.str ⟨⟨[106,50]⟩⟩ 648),(.str ⟨⟨[107,50]⟩⟩ 649)] 0),#[]⟩) E E))) (N (f51 P) (N (⟨vn,none,(.func (fd (t3_3 (X 3 3)) n266 0 [] vn vn vn vn none vn vn 0)),#[]⟩) (N (⟨vn,none,(.func (fd (X4 (X 4 10)) n292 0 [] vn vn vn vn none vn vn 0)),#[]⟩) (N (f64 P) E E) E) (N (e8 P) (N (e7 P) E E) E)) (N (⟨vn,none,(.func (fd (jaw (X 4 5)) n286 0 [] vn vn vn vn none vn vn 0)),#[]⟩) (N (⟨(.type kY),none,(.fields #[(.str Ug 526),(.str Ug 527),(.str jI 528),(.int 71 0),(.int 0 0),(.int 0 0),(.int 0 0),(.int 0 0),(.ref 177),(.bool false),(.int 316 0),(.ref 178),vn,vn,vn,vn,(.int 529 0),(.int 71 0),(.str jI 530)]),#[]⟩) (N (f307 X P) E E) E) (N (e7 P) E E)))) (N (e27 P) (N (e7 P) (N (e7 P) (N (e7 P) (N (f267 X P) E E) E) (N (e7 P) (N (⟨vn,none,(.func (fd (t21 X) Zk 0 [] vn vn vn vn none vn vn 0)),#[]⟩) E E) E)) (N (e7 P) (N (⟨vn,none,(.func (fd (t5 X) Zq 0 [] vn vn vn vn none vn vn 0)),#[]⟩) (N (f299 P) E E) E) (N (e7 P) E E))) (N (⟨(.type L68),none,(.seq #[(.str vl 346),(.str Va 347),(.str n259 348)] 0),#[]⟩) (N (⟨(.type L67),none,(.fields #[(.ref 88),(.ref 88),(.ref 88)]),#[]⟩) (N (⟨(.ref 88),(some 154),.plain,#[]⟩) (N (e8 P) E E) E) (N (e8 P) (N (e8 P) E E) E)) (N (e8 P) (N (f187 P) (N (e7 P) E E) E) (N (⟨vn,none,(.func (fd (X3 (X 6 10)) n355 0 [] vn vn vn vn none vn vn 0)),#[]⟩) E E)))))
noncomputable def b23(X:XB)(P:Params):BT:=(N (e9 P) (N (e7 P) (N (e33 P) (N (e7 P) (N (e7 P) (N (e7 P) E E) E) (N (⟨vn,none,(.func (fd (t6_2 (X 6 2)) n312 0 [] vn vn vn vn none vn vn 0)),#[]⟩) (N (f321 X P) E E) E)) (N (e7 P) (N (e30 P) (N (⟨(.type L68),none,(.seq #[(.str jbs 744),(.str ⟨⟨[108,97,115,116,101,108,116]⟩⟩ 745),(.str n368 746)] 0),#[]⟩) E E) E) (N (e7 P) E E))) (N (⟨(.type qd),none,(.func (fd (t1 X) Zr 3 [] vn vn vn (.str jbw 164) none (.ref 48) vn 0)),#[]⟩) (N (⟨(.type L68),none,(.seq #[(.str vl 373),(.str n261 374)] 0),#[]⟩) (N (⟨(.type L68),none,(.seq #[(.str vl 472)] 0),#[]⟩) (N (⟨(.type L67),none,(.fields #[(.ref 270),(.ref 270),(.ref 270)]),#[]⟩) E E) E) (N (f209 X P) (N (f337 P) E E) E)) (N (⟨(.type L68),none,(.seq #[(.str ⟨⟨[99,108,115]⟩⟩ 423),(.str ⟨⟨[105,116,101,114,97,98,108,101]⟩⟩ 424),(.str n285 425)] 0),#[]⟩) (N (e7 P) (N (⟨vn,none,(.func (fd (t15 X) Ul 0 [] vn vn vn vn none vn vn 0)),#[]⟩) E E) E) (N (e8 P) E E)))) (N (e25 P) (N (a41 P) (N (e8 P) (N (e8 P) (N (⟨vn,none,(.func (fd (X1 (X 6 12)) n361 0 [] vn vn vn vn none vn vn 0)),#[]⟩) E E) E) (N (f201 P) (N (⟨(.type L68),none,(.seq #[(.str ⟨⟨[119,111,114,100]⟩⟩ 809),(.str n379 810),(.str ⟨⟨[107,101,112,116]⟩⟩ 811),(.str ⟨⟨[103,97,112,115]⟩⟩ 812),(.str ⟨⟨[111,110,101]⟩⟩ 813),(.str ⟨⟨[116,119,111]⟩⟩ 814),(.str Zh 815),(.str ⟨⟨[112]⟩⟩ 816),(.str ⟨⟨[113]⟩⟩ 817),(.str jbt 818),(.str n338 819),(.str n251 820)] 0),#[]⟩) E E) E)) (N (e8 P) (N (⟨(.type L68),none,(.seq #[(.str n296 519),(.str ⟨⟨[108,101,110,103,116,104]⟩⟩ 520)] 0),#[]⟩) (N (e7 P) E E) E) (N (e8 P) E E))) (N (e7 P) (N (⟨(.type Os),none,(.fields #[(.str K6 381),(.ref 88),(.builtin jcO),(.builtin jcN)]),#[]⟩) (N (⟨(.type VD),none,(.dict #[k P vl 483 (.ref 152),k P Va 484 (.int 0 481),k P n259 485 (.str n293 482)] 3),#[]⟩) (N (f281 P) E E) E) (N (f217 P) (N (f345 X P) E E) E)) (N (⟨(.type L68),none,(.seq #[(.ref 96)] 0),#[]⟩) (N (e7 P) (N (f313 P) E E) E) (N (⟨(.type L68),none,(.seq #[(.str vl 673),(.str n296 674)] 0),#[]⟩) E E)))))
noncomputable def b28(X:XB)(P:Params):BT:=(N (e13 P) (N (e21 P) (N (e37 P) (N (⟨vn,none,(.func (fd (t3_1 (X 3 1)) n263 0 [] vn vn vn vn none vn vn 0)),#[]⟩) (N (⟨vn,none,(.func (fd (t4_8 (X 4 8)) n290 0 [] vn vn vn vn none vn vn 0)),#[]⟩) (N (e7 P) E E) E) (N (e8 P) (N (f325 P) E E) E)) (N (e7 P) (N (⟨(.type L67),none,(.fields #[(.ref 163),(.ref 163),(.ref 163)]),#[]⟩) (N (f293 X P) E E) E) (N (⟨vn,none,(.func (fd (t6_7 (X 6 7)) n352 0 [] vn vn vn vn none vn vn 0)),#[]⟩) E E))) (N (e7 P) (N (⟨(.type qd),none,(.func (fd (t3_3 (X 3 3)) n266 3 [] vn vn vn (.str qi 329) none (.ref 84) vn 0)),#[]⟩) (N (⟨(.type qd),none,(.func (fd (X4 (X 4 10)) n292 3 [] vn vn (.str (wa (X4 (X 4 10))) 475) (.str qi 329) none (.ref 148) vn 0)),#[]⟩) (N (e8 P) E E) E) (N (e7 P) (N (⟨(.type L68),none,(.seq #[(.str ⟨⟨[119,111,114,100,115]⟩⟩ 833),(.str n379 834),(.str ⟨⟨[119,105,115,104,101,100]⟩⟩ 835),(.str ⟨⟨[109,97,116,99,104,101,114]⟩⟩ 836),(.str jbs 837),(.str ⟨⟨[116,111,108,100]⟩⟩ 838),(.str ⟨⟨[97,115,107,101,100]⟩⟩ 839),(.str ⟨⟨[112,108,97,99,101]⟩⟩ 840),(.str ⟨⟨[108,101,115,115]⟩⟩ 841),(.str ⟨⟨[115,116,97,103,101]⟩⟩ 842),(.str ⟨⟨[115,104,97,114,101]⟩⟩ 843)] 0),#[]⟩) E E) E)) (N (f117 X P) (N (f181 P) (N (e8 P) E E) E) (N (⟨(.type kY),none,(.fields #[(.str n305 662),(.str n354 663),(.str jI 664),(.int 387 0),(.int 2 0),(.int 0 0),(.int 0 0),(.int 3 0),(.ref 240),(.bool true),(.int 316 0),(.ref 241),vn,(.ref 242),(.ref 243),(.ref 244),(.int 667 0),(.int 387 0),(.str jI 668)]),#[]⟩) E E)))) (N (e29 P) (N (⟨(.type L68),none,(.seq #[(.str n251 325)] 0),#[]⟩) (N (⟨(.type kY),none,(.fields #[(.str n255 361),(.str n265 362),(.str jI 363),(.int 19 0),(.int 3 0),(.int 0 0),(.int 0 0),(.int 3 0),(.ref 72),(.bool true),(.int 316 0),(.ref 73),vn,(.ref 74),(.ref 75),(.ref 76),(.int 367 0),(.int 19 0),(.str jI 368)]),#[]⟩) (N (⟨(.type kY),none,(.fields #[(.str n274 462),(.str n291 463),(.str jI 464),(.int 57 0),(.int 1 0),(.int 0 0),(.int 0 0),(.int 3 0),(.ref 136),(.bool true),(.int 316 0),(.ref 137),vn,(.ref 138),(.ref 139),(.ref 140),(.int 466 0),(.int 57 0),(.str jI 467)]),#[]⟩) (N (f269 X P) E E) E) (N (⟨(.type L68),none,(.seq #[(.str vl 575),(.str Kd 576)] 0),#[]⟩) (N (f333 X P) E E) E)) (N (f109 P) (N (f173 X P) (N (e7 P) E E) E) (N (⟨(.type kY),none,(.fields #[(.str n304 654),(.str n353 655),(.str jI 656),(.int 384 0),(.int 1 0),(.int 0 0),(.int 0 0),(.int 3 0),(.ref 232),(.bool true),(.int 316 0),(.ref 233),vn,(.ref 234),(.ref 235),(.ref 236),(.int 658 0),(.int 384 0),(.str jI 659)]),#[]⟩) E E))) (N (⟨vn,none,(.func (fd (t3_0 (X 3 0)) n260 0 [] vn vn vn vn none vn vn 0)),#[]⟩) (N (⟨(.type L68),none,(.seq #[(.type L68)] 0),#[]⟩) (N (⟨(.type L51),none,(.dict #[k P Va 507 (.int 2 501),k P n2 509 (.str n295 502)] 2),#[]⟩) (N (f285 P) E E) E) (N (e7 P) (N (f349 P) E E) E)) (N (e7 P) (N (e7 P) (N (⟨(.type L68),none,(.seq #[(.str jbs 788),(.str n372 789),(.str ⟨⟨[101,110,100,112,111,115]⟩⟩ 790),(.str n371 791),(.str n373 792),(.str ⟨⟨[99,104,105,108,100,112,111,115]⟩⟩ 793),(.str ⟨⟨[114,105,103,104,116,112,111,115]⟩⟩ 794)] 0),#[]⟩) E E) E) (N (f253 X P) E E)))))
noncomputable def b34(X:XB)(P:Params):BT:=(N (e8 P) (N (e16 P) (N (e32 P) (N (f64 P) (N (⟨(.type qd),none,(.func (fd (t4_6 (X 4 6)) n289 3 [(n287,96)] vn vn (.str (wa (t4_6 (X 4 6))) 451) (.str qi 329) none (.ref 127) (.ref 121) 0)),#[]⟩) (N (⟨(.type L68),none,(.seq #[(.str vl 682),(.str n356 683),(.str n317 684),(.str ⟨⟨[97,118,97,105,108]⟩⟩ 685),(.str ⟨⟨[97,118,97,105,108,104,97,115]⟩⟩ 686),(.str n296 687),(.str ⟨⟨[110,117,109,98]⟩⟩ 688)] 0),#[]⟩) E E) E) (N (e7 P) (N (f320 P) E E) E)) (N (⟨(.type PySem.W.SL.s15660640913423913556x4),none,(.cell (some (.ref 163))),#[]⟩) (N (e7 P) (N (e8 P) E E) E) (N (f224 X P) E E))) (N (⟨(.type kY),none,(.fields #[(.str Zr 322),(.str Zr 323),(.str jI 324),(.int 2 0),(.int 1 0),(.int 0 0),(.int 0 0),(.int 3 0),(.ref 43),(.bool true),(.int 316 0),(.ref 44),vn,(.ref 45),(.ref 46),(.ref 47),(.int 326 0),(.int 2 0),(.str jI 327)]),#[]⟩) (N (e8 P) (N (e8 P) (N (⟨(.type Os),none,(.fields #[(.str K4 716),(.ref 270),(.builtin jcM),vn]),#[]⟩) E E) E) (N (f208 P) (N (⟨vn,none,(.func (fd (t22 X) Zj 0 [] vn vn vn vn none vn vn 0)),#[]⟩) E E) E)) (N (e8 P) (N (⟨(.type L51),none,(.dict #[k P Ke 531 (.str qi 329),k P n253 533 (.str Ug 532),k P K9 535 (.int 71 534),k P n2 537 (.str (docC (t6 X)) 536),k P Uj 552 (.ref 188),k P n298 562 (.ref 195),k P n299 571 (.ref 202),k P n300 580 (.ref 209),k P n301 598 (.ref 216),k P n302 626 (.ref 224),k P n303 653 (.ref 231),k P n304 660 (.ref 238),k P n305 669 (.ref 246),k P n306 678 (.ref 253),k P n307 692 (.ref 260),k P n308 702 (.ref 267),k P K8 713 (.ref 268)] 17),#[]⟩) (N (e7 P) E E) E) (N (e7 P) E E)))) (N (e24 P) (N (⟨vn,none,(.fields #[(.int 2 0),(.int 0 0),(.ref 48),(.int 6 0),(.int 0 0),(.ref 55),(.int 24 0),(.int 0 0),(.ref 99),(.int 67 0),(.int 0 0),(.ref 172),(.int 71 0),(.int 0 0),(.ref 179),(.int 446 0),(.int 0 0),(.ref 279),(.int 492 0),(.int 0 0),(.ref 285),(.int 534 0),(.int 0 0),(.ref 292),(.int 543 0),(.int 0 0),(.ref 299),(.int 559 0),(.int 0 0),(.ref 306),(.int 565 0),(.int 0 0),(.ref 313),(.int 576 0),(.int 0 0),(.ref 320),(.int 591 0),(.int 0 0),(.ref 325),(.int 593 0),(.int 0 0),(.ref 332),(.int 609 0),(.int 0 0),(.ref 337),(.int 614 0),(.int 0 0),(.ref 344),(.int 632 0),(.int 0 0),(.ref 349)]),#[]⟩) (N (e7 P) (N (e7 P) (N (e7 P) E E) E) (N (⟨vn,none,(.func (fd (t6_3 (X 6 3)) n313 0 [] vn vn vn vn none vn vn 0)),#[]⟩) (N (e8 P) E E) E)) (N (e7 P) (N (e8 P) (N (⟨(.type L68),none,(.seq #[(.str jbs 754),(.str ⟨⟨[105,116,101,109]⟩⟩ 755),(.str n368 756)] 0),#[]⟩) E E) E) (N (e7 P) E E))) (N (⟨(.type VD),none,.plain,#[some (.ref 55),some (.ref 3),some (.ref 52),none,some (.str qi 329),none,some (.ref 0)]⟩) (N (⟨(.type L69),none,(.cls ⟨Ui,[(.type L60)],[(.ref 88),(.type L60)],87,Ui,true,[],[],false,none,false⟩),#[none,none,some (.str Ui 331),some (.str Ui 339),some (.builtin L163),some (.bool true)]⟩) (N (⟨(.ref 88),(some 151),.plain,#[]⟩) (N (f280 X P) E E) E) (N (f216 X P) (N (f344 P) E E) E)) (N (e6 P) (N (⟨(.type L68),none,(.seq #[(.str vl 544),(.str n309 545),(.str K0 546),(.str Kd 547),(.str n310 548)] 0),#[]⟩) (N (⟨vn,none,(.func (fd (t17 X) Zn 0 [] vn vn vn vn none vn vn 0)),#[]⟩) E E) E) (N (e8 P) E E)))))
noncomputable def b36(X:XB)(P:Params):BT:=(N (⟨(.type L51),none,(.dict #[k P Ke 338 (.str qi 329),k P n253 340 (.str Ui 339),k P K9 342 (.int 6 341),k P Uj 351 (.ref 63),k P n254 360 (.ref 71),k P n255 369 (.ref 78),k P n256 377 (.ref 85),k P K8 380 (.ref 86)] 8),#[]⟩) (N (⟨(.type kY),none,(.fields #[(.str n256 370),(.str n266 371),(.str jI 372),(.int 22 0),(.int 2 0),(.int 0 0),(.int 0 0),(.int 3 0),(.ref 79),(.bool true),(.int 316 0),(.ref 80),vn,(.ref 81),(.ref 82),(.ref 83),(.int 375 0),(.int 22 0),(.str jI 376)]),#[]⟩) (N (⟨(.type kY),none,(.fields #[(.str n275 469),(.str n292 470),(.str jI 471),(.int 60 0),(.int 1 0),(.int 0 0),(.int 0 0),(.int 3 0),(.ref 143),(.bool true),(.int 316 0),(.ref 144),vn,(.ref 145),(.ref 146),(.ref 147),(.int 473 0),(.int 60 0),(.str jI 474)]),#[]⟩) (N (e7 P) E E) E) (N (⟨(.type L68),none,(.seq #[(.str vl 584),(.str Kd 585),(.str n315 586),(.str jbt 587),(.str n317 588),(.str ⟨⟨[105,110,100,105,99,101,115]⟩⟩ 589),(.str ⟨⟨[106,117,110,107]⟩⟩ 590),(.str n309 591),(.str ⟨⟨[112,111,112,117,108,97,114]⟩⟩ 592),(.str n321 593),(.str ⟨⟨[110,116,101,115,116]⟩⟩ 594),(.str ⟨⟨[105,100,120,115]⟩⟩ 595)] 0),#[]⟩) (N (e8 P) E E) E)) (N (f116 P) (N (⟨(.type VD),none,.plain,#[some (.ref 179),some (.ref 3),some (.ref 176),none,some (.str qi 329),none,some (.ref 0)]⟩) (N (e7 P) E E) E) (N (⟨vn,none,(.func (fd (t6_9 (X 6 9)) n354 0 [] vn vn vn vn none vn vn 0)),#[]⟩) E E)))
noncomputable def b39(X:XB)(P:Params):BT:=(N (z12 P) (N (e20 P) (N (e36 P) (N (e7 P) (N (e7 P) (N (f260 X P) E E) E) (N (e7 P) (N (⟨vn,none,(.func (fd (t20 X) Zl 0 [] vn vn vn vn none vn vn 0)),#[]⟩) E E) E)) (N (⟨(.type VD),none,.plain,#[some (.ref 99),some (.ref 3),some (.ref 95),none,some (.str qi 329),none,some (.ref 0)]⟩) (N (f164 P) (N (f292 P) E E) E) (N (e7 P) E E))) (b36 X P)) (N (e28 P) (N (e8 P) (N (⟨vn,none,(.func (fd (t3_2 (X 3 2)) n265 0 [] vn vn vn vn none vn vn 0)),#[]⟩) (N (⟨vn,none,(.func (fd (t4_9 (X 4 9)) n291 0 [] vn vn vn vn none vn vn 0)),#[]⟩) (N (⟨(.type L68),none,(.seq #[(.str K0 703),(.str n310 704),(.str Kd 705),(.str n315 706),(.str ⟨⟨[98,106,117,110,107]⟩⟩ 707),(.str ⟨⟨[98,112,111,112,117,108,97,114]⟩⟩ 708),(.str n356 709),(.str n309 710),(.str n343 711),(.str ⟨⟨[111,112,99,111,100,101,115]⟩⟩ 712)] 0),#[]⟩) E E) E) (N (e8 P) (N (f332 P) E E) E)) (N (⟨vn,none,(.func (fd (t4_4 (X 4 4)) n282 0 [] vn vn vn vn none vn vn 0)),#[]⟩) (N (f172 P) (N (f300 X P) E E) E) (N (⟨vn,none,(.func (fd (t6_8 (X 6 8)) n353 0 [] vn vn vn vn none vn vn 0)),#[]⟩) E E))) (N (e7 P) (N (⟨(.type L161),none,(.fields #[(.builtin L164),(.ref 88)]),#[]⟩) (N (⟨(.type VD),none,(.dict #[k P vl 493 (.ref 155),k P Va 494 (.int 1 491),k P n259 495 (.str n294 492)] 3),#[]⟩) (N (⟨vn,none,(.func (fd (t10 X) Zo 0 [] vn vn vn vn none vn vn 0)),#[]⟩) E E) E) (N (⟨(.type L68),none,(.seq #[(.str vl 604),(.str n326 605),(.str n327 606),(.str n328 607),(.str n329 608),(.str K0 609),(.str Kd 610),(.str n315 611),(.str ⟨⟨[105,115,98,106,117,110,107]⟩⟩ 612),(.str ⟨⟨[98,101,115,116,105]⟩⟩ 613),(.str ⟨⟨[98,101,115,116,106]⟩⟩ 614),(.str ⟨⟨[98,101,115,116,115,105,122,101]⟩⟩ 615),(.str ⟨⟨[106,50,108,101,110]⟩⟩ 616),(.str ⟨⟨[110,111,116,104,105,110,103]⟩⟩ 617),(.str jbt 618),(.str ⟨⟨[106,50,108,101,110,103,101,116]⟩⟩ 619),(.str ⟨⟨[110,101,119,106,50,108,101,110]⟩⟩ 620),(.str n338 621),(.str n251 622)] 0),#[]⟩) (N (⟨vn,none,(.func (fd (t24 X) jbu 0 [] vn vn vn vn none vn vn 0)),#[]⟩) E E) E)) (N (⟨(.type L68),none,(.seq #[(.str vl 446),(.str ⟨⟨[107,119,100,115]⟩⟩ 447),(.str n285 448)] 0),#[]⟩) (N (f188 X P) (N (e8 P) E E) E) (N (f252 P) E E)))))
noncomputable def b44(X:XB)(P:Params):BT:=(N (e10 P) (N (e18 P) (N (e34 P) (N (e8 P) (N (e8 P) (N (⟨vn,none,(.func (fd (X2 (X 6 11)) n360 0 [] vn vn vn vn none vn vn 0)),#[]⟩) E E) E) (N (f194 P) (N (e7 P) E E) E)) (N (⟨vn,none,(.fields #[(.int 30 0),(.int 4 0),(.ref 109),(.int 35 0),(.int 4 0),(.ref 116),(.int 42 0),(.int 4 0),(.ref 127),(.int 53 0),(.int 4 0),(.ref 134),(.int 57 0),(.int 4 0),(.ref 141),(.int 60 0),(.int 4 0),(.ref 148)]),#[]⟩) (N (f162 X P) (N (e7 P) E E) E) (N (e8 P) E E))) (N (e7 P) (N (e7 P) (N (e7 P) (N (⟨(.type L161),none,(.fields #[(.builtin L164),(.ref 270)]),#[]⟩) E E) E) (N (e7 P) (N (f338 X P) E E) E)) (N (e7 P) (N (⟨vn,none,(.fields #[(.int 146 0),(.int 4 0),(.ref 187),(.int 174 0),(.int 4 0),(.ref 194),(.int 185 0),(.int 4 0),(.ref 201),(.int 210 0),(.int 4 0),(.ref 208),(.int 237 0),(.int 4 0),(.ref 215),(.int 261 0),(.int 4 0),(.ref 223),(.int 336 0),(.int 4 0),(.ref 230),(.int 384 0),(.int 4 0),(.ref 237),(.int 387 0),(.int 4 0),(.ref 245),(.int 390 0),(.int 4 0),(.ref 252),(.int 414 0),(.int 4 0),(.ref 259),(.int 437 0),(.int 4 0),(.ref 266)]),#[]⟩) (N (f306 P) E E) E) (N (⟨(.type L68),none,(.seq #[(.str vl 665),(.str n321 666)] 0),#[]⟩) E E)))) (N (e26 P) (N (a42 P) (N (⟨(.type L68),none,(.seq #[(.str vl 364),(.str n261 365),(.str ⟨⟨[118,97,108,117,101]⟩⟩ 366)] 0),#[]⟩) (N (⟨(.type L68),none,(.seq #[(.str vl 465)] 0),#[]⟩) (N (f266 P) E E) E) (N (f202 X P) (N (e7 P) E E) E)) (N (⟨(.type L68),none,(.seq #[(.str ⟨⟨[95,99,108,115]⟩⟩ 412),(.str K0 413),(.str Kd 414),(.str Zh 415)] 0),#[]⟩) (N (e7 P) (N (⟨vn,none,(.func (fd (t13 X) Uk 0 [] vn vn vn vn none vn vn 0)),#[]⟩) E E) E) (N (⟨(.type L68),none,(.seq #[(.str vl 657)] 0),#[]⟩) E E))) (N (e8 P) (N (⟨(.type Os),none,(.fields #[(.str K4 383),(.ref 88),(.builtin jcM),vn]),#[]⟩) (N (⟨(.type L51),none,(.dict #[k P Va 497 (.int 1 491),k P n2 499 (.str n294 492)] 2),#[]⟩) (N (e7 P) E E) E) (N (e7 P) (N (e7 P) E E) E)) (N (⟨(.type L68),none,(.seq #[(.str n287 445)] 0),#[]⟩) (N (⟨vn,none,(.func (fd (t6_1 (X 6 1)) n311 0 [] vn vn vn vn none vn vn 0)),#[]⟩) (N (f314 X P) E E) E) (N (e7 P) E E)))))
noncomputable def b49(X:XB)(P:Params):BT:=(N (e14 P) (N (e22 P) (N (e38 P) (N (⟨(.type kY),none,(.fields #[(.str n254 352),(.str n263 353),(.str jI 354),(.int 12 0),(.int 3 0),(.int 0 0),(.int 0 0),(.int 3 0),(.ref 65),(.bool true),(.int 316 0),(.ref 66),vn,(.ref 67),(.ref 68),(.ref 69),(.int 358 0),(.int 12 0),(.str jI 359)]),#[]⟩) (N (⟨(.type kY),none,(.fields #[(.str n228 454),(.str n290 455),(.str jI 456),(.int 53 0),(.int 1 0),(.int 0 0),(.int 0 0),(.int 3 0),(.ref 129),(.bool true),(.int 316 0),(.ref 130),vn,(.ref 131),(.ref 132),(.ref 133),(.int 458 0),(.int 53 0),(.str jI 459)]),#[]⟩) (N (e8 P) E E) E) (N (⟨(.type L68),none,(.seq #[(.str vl 566),(.str K0 567)] 0),#[]⟩) (N (f326 X P) E E) E)) (N (⟨(.type L68),none,(.seq #[(.str K0 404),(.str Kd 405),(.str Zh 406)] 0),#[]⟩) (N (⟨(.type L161),none,(.fields #[(.builtin L164),(.ref 163)]),#[]⟩) (N (e7 P) E E) E) (N (f230 P) E E))) (N (⟨vn,none,(.fields #[(.int 8 0),(.int 4 0),(.ref 62),(.int 12 0),(.int 4 0),(.ref 70),(.int 19 0),(.int 4 0),(.ref 77),(.int 22 0),(.int 4 0),(.ref 84)]),#[]⟩) (N (⟨(.type L68),none,(.seq #[(.str n2 378),(.str Va 379)] 0),#[]⟩) (N (⟨(.type L68),none,(.seq #[(.str K0 477),(.str Kd 478),(.str Zh 479)] 0),#[]⟩) (N (⟨vn,none,(.func (fd (t8 X) Zp 0 [] vn vn vn vn none vn vn 0)),#[]⟩) E E) E) (N (⟨vn,none,(.func (fd (t6_5 (X 6 5)) n324 0 [] vn vn vn vn none vn vn 0)),#[]⟩) (N (e7 P) E E) E)) (N (⟨(.type L51),none,(.dict #[k P Ke 430 (.str qi 329),k P n0 433 (.str n271 432),k P n253 436 (.str n286 435),k P n2 438 (.str (wa (jaw (X 4 5))) 428),k P n173 440 (.ref 120)] 5),#[]⟩) (N (e7 P) (N (⟨(.type L68),none,(.seq #[(.str jbs 776),(.str n371 777),(.str n372 778),(.str n373 779),(.str ⟨⟨[112,97,114,101,110,116,112,111,115]⟩⟩ 780),(.str n230 781)] 0),#[]⟩) E E) E) (N (⟨(.type qd),none,(.func (fd (t6_9 (X 6 9)) n354 3 [] (.ref 239) vn vn (.str qi 329) none (.ref 245) vn 0)),#[]⟩) E E)))) (N (e30 P) (N (e7 P) (N (⟨(.type qd),none,(.func (fd (t3_2 (X 3 2)) n265 3 [] vn vn vn (.str qi 329) none (.ref 77) vn 0)),#[]⟩) (N (⟨(.type qd),none,(.func (fd (t4_9 (X 4 9)) n291 3 [] vn vn vn (.str qi 329) none (.ref 141) vn 0)),#[]⟩) (N (f270 P) E E) E) (N (e7 P) (N (e7 P) E E) E)) (N (f110 X P) (N (e7 P) (N (e8 P) E E) E) (N (⟨(.type qd),none,(.func (fd (t6_8 (X 6 8)) n353 3 [] vn vn vn (.str qi 329) none (.ref 237) vn 0)),#[]⟩) E E))) (N (⟨(.type kY),none,(.fields #[(.str Uj 343),(.str n260 344),(.str jI 345),(.int 8 0),(.int 3 0),(.int 0 0),(.int 0 0),(.int 3 0),(.ref 57),(.bool true),(.int 316 0),(.ref 58),vn,(.ref 59),(.ref 60),(.ref 61),(.int 349 0),(.int 8 0),(.str jI 350)]),#[]⟩) (N (f51 P) (N (⟨(.ref 88),(some 157),.plain,#[]⟩) (N (f286 X P) E E) E) (N (⟨vn,none,(.func (fd (t6_6 (X 6 6)) n339 0 [] vn vn vn vn none vn vn 0)),#[]⟩) (N (f350 X P) E E) E)) (N (⟨vn,none,(.func (fd (t4_6 (X 4 6)) n289 0 [] vn vn vn vn none vn vn 0)),#[]⟩) (N (e8 P) (N (e7 P) E E) E) (N (e7 P) E E)))))
noncomputable def fT(X:XB)(P:Params):BT:=(N (e0 P) (N (e1 P) (N (f3 P) (b13 X P) (b18 X P)) (N (e5 P) (b23 X P) (b28 X P))) (N (e2 P) (N (e4 P) (b34 X P) (b39 X P)) (N (e6 P) (b44 X P) (b49 X P))))
noncomputable def AnyT:Type 1:=type_of% @Array.any.{0}
noncomputable def anyQ{α:Type}(as:Array α)(p:α->Bool)(start:Nat:=0)(stop:Nat:=as.size):Bool:=(as.toList.take stop|>.drop start).any p
theorem any_eq1{α:Type}(as:Array α)(p:α->Bool)(start stop:Nat):as.any p start stop=((as.toList.take stop).drop start).any p:=by
 rw[Bool.eq_iff_iff,Array.any_iff_exists,List.any_eq_true]
 constructor
 ·rintro ⟨i,h,h1,h2,h3⟩
  refine ⟨as[i],?_,h3⟩
  rw[List.mem_drop_iff_getElem]
  exact ⟨i-start,by simp;omega,by simp[Nat.add_sub_cancel' h1]⟩
 ·rintro ⟨x,hx,hp⟩
  rw[List.mem_drop_iff_getElem]at hx
  obtain ⟨j,hj,rfl⟩:=hx
  simp at hj hp
  exact ⟨start+j,by omega,by omega,by omega,by simpa using hp⟩
theorem any_eq: @Array.any.{0}= @anyQ:=by
 funext α as p start stop
 exact any_eq1 as p start stop
inductive IsB:Builtin->Type 1
 |mk (f:Builtin):IsB f
noncomputable def tnFS:(F:AnyT->Builtin)×IsB (F (@Array.any.{0})):=by
 refine ⟨?F,?h⟩
 case h=>
  have t:IsB Builtin.«type.__new__» :=IsB.mk _
  delta Builtin.«type.__new__»at t
  generalize (@Array.any.{0})=A at t⊢
  exact t
noncomputable def tnF:AnyT->Builtin:=tnFS.1
theorem tnF_eq:tnF (@Array.any.{0})=Builtin.«type.__new__» :=by kernel_rfl!
noncomputable def tnQ:Builtin:=tnF @anyQ
theorem tnQ_eq:Builtin.«type.__new__» =tnQ:=tnF_eq.symm.trans (congrArg tnF any_eq)
noncomputable def tbQ(id:String):Option Builtin:=if id= "type.__new__" then some tnQ else treeTable id
theorem tbQ_eq:treeTable=tbQ:=by
 funext id
 unfold tbQ
 split
 ·rename_i h;subst h
  exact (show treeTable "type.__new__" =some Builtin.«type.__new__» by kernel_rfl!).trans (congrArg some tnQ_eq)
 ·rfl
noncomputable abbrev pw:=PySem.Challenge.pw_kl0399_01
noncomputable def p00:Pos:=⟨0,0,0,0⟩
noncomputable def pF:Pos:=⟨632,0,647,71⟩
noncomputable def jcm(X:XB):Env:={scope:=(pwT X).main.scope,locals:=mainNs,globals:=mainNs,cells:=[],code:=.ref 41,frame:=some 42}
noncomputable def bM(X:XB):List Stmt:=behindTheImports (pwT X)
noncomputable def cM(X:XB):Code:=.body (bM X) (jcm X)
noncomputable def BM:List Frame:=[topFrame p00]
noncomputable def dr0:Drawn:={order:=0,schedule:=0,lifetime:=0,other:=0}
noncomputable def saT(X:XB)(w:World)(os:OsState):SharedT:=⟨aT w.params,43,{},#[],dr0,322,os⟩
noncomputable def sfT(X:XB)(w:World)(os:OsState):SharedT:=⟨fT X w.params,351,{},#[],dr0,853,os⟩
noncomputable def mainL(X:XB)(w:World)(os:OsState):Option (Flow×SharedT×Code×Pos):=segRunT tbQ (pwT X) w 39 (some (.ref 6)) 1 2531 (saT X w os) (piecesOf (bM X) (jcm X) (cM X) p00 BM)
noncomputable def mainR(X:XB)(w:World)(os:OsState):Option (Flow×SharedT×Code×Pos):=some (.next,sfT X w os,cM X,pF)
theorem e_l:mainL=mainL:=rfl
theorem e_r:mainR=mainR:=rfl
name_quick mainLq for Mine.Internal.mainL by Mine.Internal.e_l
name_quick mainRq for Mine.Internal.mainR by Mine.Internal.e_r
theorem main_eq(w:World)(os:OsState):mainL X0 w os=mainR X0 w os:=by
 rw[PySem.W.Fast.mainLq_eq,PySem.W.Fast.mainRq_eq]
 kernel_rfl!
noncomputable def Xn:Option Value:=some (.ref 6)
noncomputable def z0(w:World)(os:OsState):Shared:=⟨absHeap (zT w.params) 39 {},#[],dr0,316,os⟩
noncomputable def s1(X:XB)(w:World)(os:OsState):Shared:=⟨absHeap (fT X w.params) 351 {},#[],dr0,853,os⟩
noncomputable def sa(w:World)(os:OsState):Shared:=⟨absHeap (aT w.params) 43 {},#[],dr0,322,os⟩
noncomputable def opL(X:XB)(w:World):Option Shared:=importEnds treeTable (opening (pwT X)) w 1010 (start (opening (pwT X))).1 (start (opening (pwT X))).2
noncomputable def opR(X:XB)(w:World):Option Shared:=some ⟨absHeap (eT w.params) 39 {},#[],dr0,316,(start (opening (pwT X))).1.os⟩
noncomputable def feL(X:XB)(w:World):OsState->Option (Heap×Array GenState×Drawn×Nat):=fun os=>(fenceModules? (pwT X) ⟨absHeap (eT w.params) 39 {},#[],dr0,316,os⟩).map (fun s=>(s.heap,s.gens,s.drawn,s.toks))
noncomputable def feR(X:XB)(w:World):OsState->Option (Heap×Array GenState×Drawn×Nat):=fun _=>some (absHeap (zT w.params) 39 {},#[],dr0,316)
noncomputable def preL(X:XB)(w:World)(os:OsState):Option (Shared×Thread):=topGo treeTable (pwT X) w 39 Xn 12 (z0 w os) (topStub (pwT X))
noncomputable def preR(X:XB)(w:World)(os:OsState):Option (Shared×Thread):=some (sa w os,⟨denote treeTable (cM X),cM X,p00,BM⟩)
theorem e_opL:opL=opL:=rfl
theorem e_opR:opR=opR:=rfl
theorem e_feL:feL=feL:=rfl
theorem e_feR:feR=feR:=rfl
theorem e_preL:preL=preL:=rfl
theorem e_preR:preR=preR:=rfl
name_quick opLq for Mine.Internal.opL by Mine.Internal.e_opL
name_quick opRq for Mine.Internal.opR by Mine.Internal.e_opR
name_quick feLq for Mine.Internal.feL by Mine.Internal.e_feL
name_quick feRq for Mine.Internal.feR by Mine.Internal.e_feR
name_quick preLq for Mine.Internal.preL by Mine.Internal.e_preL
name_quick preRq for Mine.Internal.preR by Mine.Internal.e_preR
theorem fe_eq(w:World):feL X0 w=feR X0 w:=by
 rw[PySem.W.Fast.feLq_eq,PySem.W.Fast.feRq_eq]
 kernel_rfl!
theorem pre_eq(w:World)(os:OsState):preL X0 w os=preR X0 w os:=by
 rw[PySem.W.Fast.preLq_eq,PySem.W.Fast.preRq_eq]
 kernel_rfl!
theorem jcG(w:World)(os:OsState):segRun treeTable (pwT X0) w 39 Xn 1 1 (sa w os) (blockOf (bM X0) (jcm X0) (cM X0) p00 BM)=some (.next,sa w os,cM X0,p00):=by kernel_rfl!
theorem fin_eq(w:World)(os:OsState):topRun treeTable (pwT X0) w 39 Xn 2 (s1 X0 w os) ⟨doneF .next,cM X0,pF,BM⟩=some (s1 X0 w os):=by kernel_rfl!
theorem size_eq(w:World):((absHeap (zT w.params) 39 {}).isNs mainGlobals&&(#[]:Array GenState).size==0,(absHeap (zT w.params) 39 {}).objs.size,(absHeap (zT w.params) 39 {}).nsMap mainGlobals "__annotations__")=(true,39,Xn):=by kernel_rfl!
theorem op_eq(w:World):opL X0 w=opR X0 w:=by
 rw[PySem.W.Fast.opLq_eq,PySem.W.Fast.opRq_eq]
 kernel_rfl!
noncomputable def qT(X:XB):Program:=pwB [t0,t24 X]
noncomputable abbrev qV:Program:=qT X0
noncomputable def looseV:List Str:=[Zr,Ui,Uh,Zq,Ug,Zp,Zo,Vb,Uk,n242,Ul,n243,Zn,Zm,Zl,Zk,Zj,Zi]
noncomputable def XtT(X:XB)(s:Shared):Bool:=xlAt (qT X) [] s&&recOk [] s
noncomputable abbrev XtV(s:Shared):Bool:=XtT X0 s
noncomputable def lookA(X:XB)(w:World)(os:OsState):=(staticsOk (importedModules (pwT X).main.body) (absHeap (zT w.params) 39 {}) (absHeap (fT X w.params) 351 {})&&namesBound (pwT X) (absHeap (fT X w.params) 351 {})&&gensDone (s1 X w os)&&laidKept (absHeap (zT w.params) 39 {}) (absHeap (fT X w.params) 351 {}))
noncomputable def lookB(X:XB)(w:World)(os:OsState):=openSeen (qT X) looseV (importedModules (pwT X).main.body) (XtT X) true (s1 X w os)
noncomputable def lookC(X:XB)(_:World)(_:OsState):=openGood (qT X) looseV
theorem e_lookA:lookA=lookA:=rfl
theorem e_lookB:lookB=lookB:=rfl
theorem e_lookC:lookC=lookC:=rfl
name_quick lookAq for Mine.Internal.lookA by Mine.Internal.e_lookA
name_quick lookBq for Mine.Internal.lookB by Mine.Internal.e_lookB
name_quick lookCq for Mine.Internal.lookC by Mine.Internal.e_lookC
theorem jbI(w:World)(os:OsState):lookA X0 w os=true:=by
 rw[PySem.W.Fast.lookAq_eq]
 kernel_rfl!
theorem jbH(w:World)(os:OsState):lookB X0 w os=lookC X0 w os:=by
 rw[PySem.W.Fast.lookBq_eq,PySem.W.Fast.lookCq_eq]
 kernel_rfl!
theorem run_eq(w:World)(os:OsState):topRun treeTable pw w 39 Xn (12+(1+(2531+2))) (z0 w os) (topStub pw)=some (s1 X0 w os):=by
 rw[show pw=pwT X0 from Ua.symm]
 have hm:segRun treeTable (pwT X0) w 39 Xn 1 2531 (sa w os) (piecesOf (bM X0) (jcm X0) (cM X0) p00 BM)=some (.next,s1 X0 w os,cM X0,pF):=by
  rw[tbQ_eq]
  exact segRun_of (s:=saT X0 w os) (s':=sfT X0 w os) (main_eq w os)
 have k1:=piece_app (rest:=[]) hm (piece_nil (env:=jcm X0) (fin_eq w os))
 rw[List.append_nil]at k1
 have k2:=piece_block (jcG w os) k1
 exact go_top (pre_eq w os) k2
theorem open_eq:∀w:World,(fencedOpening treeTable pw w 5200).map (fun s=>(s.heap,s.gens,s.drawn,s.toks))=some (absHeap (zT w.params) 39 {},#[],dr0,316):=by
 rw[show pw=pwT X0 from Ua.symm]
 exact open_cut (He:=fun P=>absHeap (eT P) 39 {}) (H₀:=fun P=>absHeap (zT P) 39 {}) (M:=1010) op_eq (by rfl) fe_eq
def YPV(w:World)(h:Heap):Prop:=∀b o,(absHeap (fT X0 w.params) 351 {}).get? b=some o->h.get? b=some o
theorem jaW:(defOf qV (Str.ofString "law")).isSome=true:=by decide+kernel
noncomputable def UC:DefRec:=((defOf qV (Str.ofString "law")).get jaW).1
noncomputable def YfT(s:Shared):Heap×Nat:=(s.heap,s.toks)
noncomputable def YaT(w:World):Heap×Nat:=(absHeap (fT X0 w.params) 351 {},853)
theorem leftT:LeftO pw qV looseV XtV YfT YaT 5200 true:=
 LeftO.of_pieces (H₀:=fun P=>absHeap (zT P) 39 {}) (H₁:=fun P=>absHeap (fT X0 P) 351 {}) (m₀:=39) (ann:=Xn) open_eq size_eq (M:=12+(1+(2531+2))) run_eq (by rfl)
  (fun w=>by
   funext os
   have h1:=jbI w os
   have h2:=jbH w os
   unfold lookA at h1
   unfold lookB lookC at h2
   rw[Ua]at h1 h2
   exact Prod.ext h1 (Prod.ext h2 rfl))
inductive IsLw(f:Program->OpenLaw):Type|mk:IsLw f
noncomputable def getLw{f:Program->OpenLaw}(_:IsLw f):Program->OpenLaw:=f
noncomputable def shL{L:OpenLaw}{p:Program}{n:Str}{ab:List Str}{ft:Nat}{mo:Option Nat}{bo:Option Nat}{wr:Bool}(_:L=⟨p,n,ab,ft,mo,bo,wr⟩):IsLw (fun p=>⟨p,n,ab,ft,mo,bo,wr⟩):=.mk
noncomputable def rwB:Program->OpenLaw:=getLw (.mk:type_of% (shL (Eq.refl PySem.Challenge.rw_kl0399_01)))
noncomputable def saidT(X:XB):Bool:=OpenLaw.wellSaid (rwB (pwT X))
theorem e_said:saidT=saidT:=rfl
name_quick saidTq for Mine.Internal.saidT by Mine.Internal.e_said
theorem said_eq:saidT X0=true:=by
 rw[PySem.W.Fast.saidTq_eq]
 kernel_rfl!
theorem rw_eq:rwB (pwT X0)=PySem.Challenge.rw_kl0399_01:=by rw[Ua];rfl
theorem jb3(hc:PySem.Challenge.rw_kl0399_01.row.Holds):PySem.Challenge.rw_kl0399_01.Holds:=
 holds_law (by have h:=said_eq;unfold saidT at h;rw[rw_eq]at h;exact h) fun _=>hc
abbrev rwR:RowW:=PySem.Challenge.rw_kl0399_01.row.toRowW
def WalkT:Prop:=∀(w:World) (sw0 sw1:Shared) (mg mb:Str->Option Value),Ground qV looseV rwR.records (XL qV []) w sw0 mg mb sw1.heap->YPV w sw1.heap->853≤sw1.toks->∀(a:Addr) (o:Obj) (pm cd doc dV kV:Value),sw1.heap.get? a=some o->
 o.data=.func {docDef UC.name UC.params UC.body UC.scope pm cd doc with defaults:=dV,kwdefaults:=kV}->sw1.heap.CodeRec cd UC.name->Dflts mg sw1.heap UC.params [] dV kV->mg UC.name=some (.ref a)->sw1.gens= #[]->
 ∀(args:List WData) (vals:List Value) (as:List Addr),rwR.claim.pre args=true->WData.layableAll args=true->ReadsAllW rwR.records (classAt sw0.heap) sw1.heap vals args as->WellAll w.params sw1.heap vals args->(∀a∈as,(a==sysModules)=false)->Laid rwR.records w sw0 sw1 args vals as->
  wpAny (model rwR.prog w) callerA (PySem.call (.ref a) vals) (fun v s'=>GoodWG rwR.claim (classAt sw0.heap) (ExcName.means sw0.heap) args sw1 (.ok (.ret v)) s')
   (fun e s'=>GoodWG rwR.claim (classAt sw0.heap) (ExcName.means sw0.heap) args sw1 (.error e) s') sw1
theorem YI:defOf qV (Str.ofString "law")=some (UC,[]):=by kernel_rfl!
theorem ZA(hk1:PySem.Challenge.rw_kl0399_01.row.wellSaid=true)(hc:WalkT):PySem.Challenge.rw_kl0399_01.row.Holds:=by
 have hw:rwR.promised:=by w_witness2
 have fr:frees rwR=true:=by decide+kernel
 have ch:chainsOk qV=true:=by decide+kernel
 have hb:rwR.prog.bare:=⟨rfl,rfl,rfl,rfl,rfl,by decide+kernel⟩
 obtain ⟨hsame,hu,ha,hap,hm⟩:=frees_parts fr
 have hX:∀s,XtV s=true->XL qV [] (s.heap.nsMap mainGlobals) s.heap∧RecFacts rwR.records s.heap:=fun s e=>⟨xl_of s (Bool.and_eq_true_iff.mp e).1,recFacts_of (Bool.and_eq_true_iff.mp e).2⟩
 refine ⟨hk1,hw,⟨hb,by decide+kernel,by rfl⟩,hw.witness,fun w=>⟨(leftT.behind (XP:=fun mg h=>XL qV [] mg h∧RecFacts rwR.records h) hX ch w).1,fun s' hs'=> ?_⟩⟩
 obtain ⟨tw0,hf,hg0,s,hT,hz,hgens,hg,G0,y⟩:=(leftT.behind (XP:=fun mg h=>XL qV [] mg h∧RecFacts rwR.records h) hX ch w).2 s' hs'
 have ys:s.heap=absHeap (fT X0 w.params) 351 {}:=congrArg Prod.fst y
 have yt:s.toks=853:=congrArg Prod.snd y
 have B0:Ground qV looseV [] (XL qV []) w s (s.heap.nsMap mainGlobals) (s.heap.nsMap builtinsNs) s.heap:=⟨G0.T,G0.B,G0.D,G0.TE,G0.TD,G0.W,G0.X.1,G0.cls,G0.has,G0.apart,G0.once,G0.K⟩
 have RF:=G0.X.2
 have none:s.gens= #[]:=Array.eq_empty_of_size_eq_zero (beq_iff_eq.mp hgens)
 have B1:Ground qV looseV rwR.records (XL qV []) w s _ _ s.heap:=RF.ground B0
 refine ⟨tw0,hf,hg0,s,hT,fun n hn=> ?_,RF.1,RF.2.1,?_⟩
 ·have e:n=PySem.Challenge.rw_kl0399_01.row.name:=by
   split at hn
   ·exact List.mem_singleton.mp hn
   ·cases hn
  rw[e]
  exact pinned_of_view hg B0 YI (by rfl) (by rfl)
 refine ClaimW.callFrom_of_specG (c:=rwR.claim) hz none fun args hpre hlay ord hord=> ?_
 obtain ⟨⟨vs,sw1⟩,laid⟩:=Option.isSome_iff_exists.mp (layAllW_isSome (P:=w.params) (ord:=ord) B1.has args rwR.args s (pre_splitW hpre).1)
 have gr:=layAllW_grows _ _ _ laid
 obtain ⟨as,rd,inn,old⟩:=reads_layAllW hord _ _ _ laid hlay sw1.heap (fun _ _ e=>e)
 have al:=gr.alike
 have L:Laid rwR.records w s sw1 args vs as:=⟨⟨ord,hord,laid⟩,rd,inn,old,gr.keeps,al.1.trans none,al.2.2.1⟩
 have B2:=B1.keeps XL.keeps gr.keeps
 obtain ⟨a,o,pm,cd,doc,dV,kV,h1,h2,h3,h4,h5⟩:=B2.fn YI
 have y2:YPV w sw1.heap:=fun b u e=>gr.keeps b u (by rw[ys];exact e)
 have y3:853≤sw1.toks:=by
  have:=gr.toks
  rw[yt]at this;exact this
 have low:=B1.low
 have W:=hc w s sw1 _ _ B2 y2 y3 a o pm cd doc dV kV h2 h3 h4 h5 h1 L.gens args vs as hpre hlay L.reads L.well (L.low B1.low) L
 have id:=ident_freeW hu ha hap
 have wi:rwR.claim.within=[]:=rfl
 refine ⟨vs,sw1,laid,wpAny_bind (wpAny_nsGet B2.T.g ?_)⟩
 rw[show s.heap.nsMap mainGlobals PySem.Challenge.rw_kl0399_01.row.name=some (.ref a)from h1]
 refine wpAny_bind (wpAny_mono W (fun v s' g=>wpAny_pure ⟨_,rfl,?_⟩) fun e s' g=> ?_)
 ·have z:=g.laid (c:=rwR.claim) hsame wi id L
  exact ⟨z.1,z.2.1,z.2.2,fun q=>nomatch q⟩
 ·have z:=g.laid (c:=rwR.claim) hsame wi id L
  exact ⟨z.1,z.2.1,z.2.2,fun q=>nomatch q⟩
end
section
open PySem PySem.W PyProof.Rows PySem.Calls PySem.SeqAt
set_option maxHeartbeats 8000000
theorem yA{α β:Type}{f g:α->β}{l:List α}(e:l.map f=l.map g):∀p∈l,f p=g p:=List.map_inj_left.mp e
theorem V6{a:Addr}{o:Obj}{l:Frag}(e:l.lookup a=some o):(a,o)∈l:=mem_of_lookupK e
noncomputable def KW:Params->Frag:=fun P=>[(0,e0 P),(1,e1 P),(4,e4 P),(2,e2 P),(3,f3 P),(109,f109 P),(110,f110 X0 P),(116,f116 P),(117,f117 X0 P),(119,f119 P),(162,f162 X0 P),(163,f163 P),(164,f164 P),(172,f172 P),(173,f173 X0 P),(181,f181 P),(187,f187 P),(188,f188 X0 P),(194,f194 P),(195,f195 X0 P),(201,f201 P),(202,f202 X0 P),(208,f208 P),(209,f209 X0 P),(215,f215 P),(216,f216 X0 P),(217,f217 P),(223,f223 P),(224,f224 X0 P),(230,f230 P),(231,f231 X0 P),(252,f252 P),(253,f253 X0 P),(259,f259 P),(260,f260 X0 P),(266,f266 P),(267,f267 X0 P),(269,f269 X0 P),(270,f270 P),(275,f64 P),(279,f279 P),(280,f280 X0 P),(281,f281 P),(285,f285 P),(286,f286 X0 P),(292,f292 P),(293,f293 X0 P),(299,f299 P),(300,f300 X0 P),(306,f306 P),(307,f307 X0 P),(313,f313 P),(314,f314 X0 P),(320,f320 P),(321,f321 X0 P),(325,f325 P),(326,f326 X0 P),(332,f332 P),(333,f333 X0 P),(337,f337 P),(338,f338 X0 P),(344,f344 P),(345,f345 X0 P),(349,f349 P),(350,f350 X0 P)]
theorem KW_at(P:Params):(KW P).map (fun p=>(fT X0 P).get p.1)=(KW P).map (fun p=>some p.2):=by kernel_rfl!
theorem jcP(P:Params):(KW P).map (fun p=>alive p.2)=(KW P).map (fun p=>some p.2):=by kernel_rfl!
theorem KW_lt(P:Params):((KW P).map (·.1)).all (fun a=>decide (a<351))=true:=by kernel_rfl!
theorem YQ{w:World}{h:Heap}(y:YPV w h):(KW w.params).In h:=fun a o e=>by
 have hm:=V6 e
 refine y a o ?_
 have h1:(fT X0 w.params).get a=some o:=yA (KW_at w.params) _ hm
 have h2:alive o=some o:=yA (jcP w.params) _ hm
 have h3:a<351:=of_decide_eq_true (List.all_eq_true.mp (KW_lt w.params) a (List.mem_map_of_mem (f:=(·.1)) hm))
 rw[abs_get h3 h1,h2]
noncomputable def KX(P:Params)(x:Addr×Obj):Frag:=KW P++[x]
theorem kw_shr(P:Params)(x:Addr×Obj):nsIn (KX P x) cStatics sharingNotToldKey=some none:=by kernel_rfl
theorem kw_mods(P:Params)(x:Addr×Obj):((KX P x).lookup sysModules).isSome=true:=by kernel_rfl
theorem kw_pg(P:Params)(x:Addr×Obj)(n:Str):plainGet (KX P x) SMA n=true:=by kernel_rfl
theorem kw_hd(P:Params)(x:Addr×Obj):hasDictIn (KX P x) SMA=true:=by kernel_rfl
theorem kw_po(P:Params)(x:Addr×Obj):plainOver (KX P x) SMA=true:=by kernel_rfl
theorem kw_sa(P:Params)(x:Addr×Obj):findIn (KX P x) (.ref SMA) (Str.ofString "__setattr__")=some (some (.builtin "object.__setattr__")):=by kernel_rfl
theorem kw_fnn(P:Params)(x:Addr×Obj):FN.map (fun n=>findIn (KX P x) (.ref SMA) n)=FN.map fun _=>some none:=by kernel_rfl
theorem kw_fns(P:Params)(x:Addr×Obj):FNS.all (fun a=>keepIn (KX P x) (.ref a))=true:=by kernel_rfl
theorem kw_mts(P:Params)(x:Addr×Obj):MTS.map (fun p=>findIn (KX P x) (.ref SMA) p.1)=MTS.map fun p=>some (some (.ref p.2)):=by kernel_rfl
theorem kw_isf(P:Params)(x:Addr×Obj):MTS.all (fun p=>isFn (KX P x) (.ref p.2))=true:=by kernel_rfl
theorem kw_mks(P:Params)(x:Addr×Obj):makesIn (KX P x) SMA=true:=by kernel_rfl
theorem kw_deq(P:Params)(x:Addr×Obj):mroIn (KX P x) jn (.type "collections.deque")=some false:=by kernel_rfl
theorem kw_nmk(P:Params)(x:Addr×Obj):findCls (KX P x) (.ref jn) (.type "type") (Str.ofString "_make")=some (.get (.builtin "classmethod.__get__") (.ref 119) .none (.ref jn)):=by kernel_rfl
theorem kw_cmf(P:Params)(x:Addr×Obj):recIn (KX P x) 119 "classmethod" =some [.ref 117,.bool false]:=by kernel_rfl
theorem kw_bfor(prog:Program)(P Q:Params)(x:Addr×Obj):peek (KX P x) ⟨prog,Q⟩ (builtinsFor 3 0)=some builtinsNs:=by kernel_rfl
theorem Yp{α β:Type}{f g:α->β}{l:List α}(e:l.map f=l.map g):∀a∈l,f a=g a:=yA e
noncomputable def CW(prog:Program)(w:World)(x:Addr×Obj)(L:List AV)(hl:∃vs n,(KX w.params x).lookup x.1=some {cls:=.type "list",data:=.seq vs n}∧∀g,VRs g L vs.toList)(nl:∀h,(KX w.params x).In h->h.NoLimit):Cx where
 prog:=prog
 w:=w
 K:=KX w.params x
 nol:=nl
 shr:=kw_shr _ _
 mods:=fun e=>by have:=kw_mods w.params x;rw[e]at this;cases this
 sm:=⟨kw_pg _ _,kw_hd _ _,kw_po _ _,kw_sa _ _,Yp (kw_fnn _ _)⟩
 fns:=fun a ha=>List.all_eq_true.mp (kw_fns _ _) a ha
 mts:=fun p hp=>⟨Yp (kw_mts _ _) p hp,List.all_eq_true.mp (kw_isf _ _) p hp⟩
 tk0:=fun t=>if t=539∨t=540 then some (.s (Str.ofString ""))else none
 ro:=fun a=>if a=x.1 then some L else none
 roK:=fun a l e=>by
  by_cases q:a=x.1
  ·rw[if_pos q]at e;cases e;rw[q];exact hl
  ·rw[if_neg q]at e;cases e
noncomputable def zD(o:Obj):FuncData:=by cases o.data<;>first|assumption|exact default
noncomputable def FNP(P:Params):List ((Addr×Stmt×Value)×Obj):=FNL.zip [f173 X0 P,f280 X0 P,f286 X0 P,f293 X0 P,f300 X0 P,f307 X0 P,f314 X0 P,f321 X0 P,f326 X0 P,f333 X0 P,f338 X0 P,f345 X0 P,f350 X0 P,f110 X0 P,f117 X0 P,f188 X0 P,f195 X0 P,f202 X0 P,f209 X0 P,f216 X0 P,f224 X0 P,f231 X0 P,f253 X0 P,f260 X0 P,f267 X0 P]
theorem kw_fnp(P:Params)(x:Addr×Obj):(FNP P).map (fun q=>((KX P x).lookup q.1.1,q.2.data,(zD q.2).body,(zD q.2).scope,(zD q.2).params,(zD q.2).defaults,(zD q.2).kwdefaults,(zD q.2).globals,(zD q.2).builtins,(zD q.2).closure,codeIn (KX P x) (zD q.2).code (zD q.2).qualname,(zD q.2).code))=
  (FNP P).map fun q=>(some q.2,.func (zD q.2),.stmts (jR q.1.2.1),qw q.1.2.1,k6 q.1.2.1,q.1.2.2,.none,3,0,[],true,.ref (q.1.1-1)):=by kernel_rfl
theorem kw_fs(prog:Program)(w:World)(x:Addr×Obj)(L hl nl)(p)(hp:p∈FNL):jcT (CW prog w x L hl nl) p.1 p.2.1 p.2.2:=by
 obtain ⟨q,hq,rfl⟩:=List.mem_map.mp (show p∈(FNP w.params).map (·.1)from hp)
 have e:=yA (kw_fnp w.params x) q hq
 simp only[Prod.mk.injEq]at e
 exact ⟨_,_,e⟩
theorem kw_fi0(P:Params)(x:Addr×Obj):findIn (KX P x) (.ref jn) (Str.ofString "__iter__")=some (some (.builtin "tuple.__iter__")):=by kernel_rfl
theorem kw_fi1(P:Params)(x:Addr×Obj):findIn (KX P x) (.ref jn) (Str.ofString "__getitem__")=some (some (.builtin "tuple.__getitem__")):=by kernel_rfl
theorem kw_fi2(P:Params)(x:Addr×Obj):findIn (KX P x) (.ref jn) (Str.ofString "__len__")=some (some (.builtin "tuple.__len__")):=by kernel_rfl
theorem kw_fi3(P:Params)(x:Addr×Obj):findIn (KX P x) (.ref jn) (Str.ofString "__lt__")=some (some (.builtin "tuple.__lt__")):=by kernel_rfl
theorem kw_fi(P:Params)(x:Addr×Obj):∀p∈KP,findIn (KX P x) (.ref jn) p.1=some (some (.builtin p.2)):=fun p hp=>by
 unfold KP at hp
 rcases List.mem_cons.mp hp with rfl|hp
 ·exact kw_fi0 P x
 rcases List.mem_cons.mp hp with rfl|hp
 ·exact kw_fi1 P x
 rcases List.mem_cons.mp hp with rfl|hp
 ·exact kw_fi2 P x
 rw[List.mem_singleton.mp hp]
 exact kw_fi3 P x
theorem kw_chk(prog:Program)(P Q:Params)(x:Addr×Obj)(it:Value):peek (KX P x) ⟨prog,Q⟩ (checkBuiltinCall "tuple.__new__" ⟨[.ref jn,it],[]⟩)=some ():=by kernel_rfl
theorem kw_typ(prog:Program)(P Q:Params)(x:Addr×Obj):peek (KX P x) ⟨prog,Q⟩ (isType (.ref jn))=some true:=by kernel_rfl
theorem kw_sub(prog:Program)(P Q:Params)(x:Addr×Obj):peek (KX P x) ⟨prog,Q⟩ (isSubtype (.ref jn) (.type "tuple"))=some true:=by kernel_rfl
theorem kw_here(prog:Program)(P Q:Params)(x:Addr×Obj):peek (KX P x) ⟨prog,Q⟩ (Bind.madeHere "tuple.__new__" (.ref jn))=some ():=by kernel_rfl
theorem kw_init(prog:Program)(P Q:Params)(x:Addr×Obj):peek (KX P x) ⟨prog,Q⟩ (typeLookup (.ref jn) "__init__")=some (some (.builtin "object.__init__")):=by kernel_rfl
theorem kw_mro(prog:Program)(P Q:Params)(x:Addr×Obj):peek (KX P x) ⟨prog,Q⟩ (mroOf (.ref jn))=some [.ref jn,.type "tuple",.type "object"]:=by kernel_rfl
theorem kw_call(P:Params)(x:Addr×Obj):specialIn (KX P x) (.ref jn) (Str.ofString "__call__")=some (some (.builtin "type.__call__")):=by kernel_rfl
theorem kw_typI(P:Params)(x:Addr×Obj):instIn (KX P x) (.ref jn) (.type "type")=some true:=by kernel_rfl
theorem kw_made(prog:Program)(P Q:Params)(x:Addr×Obj):peek (KX P x) ⟨prog,Q⟩ (Bind.madeBy (.ref jn))=some none:=by kernel_rfl
theorem kw_rd(P:Params)(x:Addr×Obj):readsIn (KX P x) jn (.type "type")=true:=by kernel_rfl
theorem kw_nw(P:Params)(x:Addr×Obj):findCls (KX P x) (.ref jn) (.type "type") (Str.ofString "__new__")=some (.get (.builtin "staticmethod.__get__") (.ref 164) .none (.ref jn)):=by kernel_rfl
theorem kw_smf(P:Params)(x:Addr×Obj):recIn (KX P x) 164 "staticmethod" =some [.ref 110]:=by kernel_rfl
theorem kw_self(prog:Program)(P Q:Params)(x:Addr×Obj):peek (KX P x) ⟨prog,Q⟩ (isSubtype (.ref jn) (.ref jn))=some true:=by kernel_rfl
theorem kw_top(prog:Program)(P Q:Params)(x:Addr×Obj):peek (KX P x) ⟨prog,Q⟩ (isSubtype (.ref jn) (.type "object"))=some true:=by kernel_rfl
theorem kw_del(prog:Program)(P Q:Params)(x:Addr×Obj):peek (KX P x) ⟨prog,Q⟩ (classHasDel jn)=some false:=by kernel_rfl
theorem kw_mat(P:Params)(x:Addr×Obj):kX (KX P x)where
 chk _ _ _ X:=.of_peek X (kw_chk ..)
 typ _ _ X:=.of_peek X (kw_typ ..)
 sub _ _ X:=.of_peek X (kw_sub ..)
 here _ _ X:=.of_peek X (kw_here ..)
 init _ _ X:=.of_peek X (kw_init ..)
 cls:=⟨_,_,_,_,rfl⟩
 mro _ _ X:=.of_peek X (kw_mro ..)
 call:=kw_call P x
 typI:=kw_typI P x
 made _ _ X:=.of_peek X (kw_made ..)
 rd:=kw_rd P x
 nw:=kw_nw P x
 smf:=kw_smf P x
 self _ _ X:=.of_peek X (kw_self ..)
 top _ _ X:=.of_peek X (kw_top ..)
 fi:=kw_fi P x
 del _ _ X:=.of_peek X (kw_del ..)
theorem kw_l275(P:Params)(x:Addr×Obj):(KX P x).lookup 275=some (f64 P):=by kernel_rfl
theorem kw_l217(P:Params)(x:Addr×Obj):(KX P x).lookup 217=some (f217 P):=by kernel_rfl
theorem kw_l281(P:Params)(x:Addr×Obj):(KX P x).lookup 281=some (f281 P):=by kernel_rfl
theorem kw_l181(P:Params)(x:Addr×Obj):(KX P x).lookup 181=some (f181 P):=by kernel_rfl
theorem kw_l252(P:Params)(x:Addr×Obj):(KX P x).lookup 252=some (f252 P):=by kernel_rfl
noncomputable def valA:AV->Value
 | .bi b=>.builtin b.id
 | .ty u=>.type u
 | .ref a=>.ref a
 |_=>.none
theorem kw_gln(P:Params)(x:Addr×Obj):GTA.map (fun p=>w9 (KX P x) 3 0 p.1)=GTA.map fun p=>some (valA p.2):=by kernel_rfl
theorem valA_ok:GTA.all (fun p=>valA p.2 !=.none)=true:=by kernel_rfl
theorem valA_vr(g:Gh)(x:AV)(h:(valA x !=.none)=true):VR g x (valA x):=by
 cases x with
 |bi=>rfl
 |ty=>rfl
 |ref=>rfl
 |_=>exact absurd h (of_decide_eq_true rfl)
theorem kw_pc(prog:Program)(w:World)(x:Addr×Obj)(L hl nl):PC (CW prog w x L hl nl)where
 gl p hp:=⟨_,yA (kw_gln w.params x) p hp,fun g=>valA_vr g _ (List.all_eq_true.mp valA_ok p hp)⟩
 mat:=kw_mat _ _
 mks:=kw_mks _ _
 deq:=kw_deq _ _
 nmk:=kw_nmk _ _
 cmf:=kw_cmf _ _
 bfor _ _ X:=.of_peek X (kw_bfor ..)
 fs p hp:=kw_fs _ _ _ _ _ _ p hp
 d275:=⟨_,_,kw_l275 _ _,rfl⟩
 d217:=⟨_,_,_,_,kw_l217 _ _,rfl⟩
 d281:=⟨_,_,_,_,_,kw_l281 _ _,rfl⟩
 d181:=⟨_,_,539,540,kw_l181 _ _,rfl,by decide,by decide,rfl,rfl⟩
 c252:=⟨_,_,_,_,_,_,_,_,_,kw_l252 _ _,rfl,rfl,rfl,rfl,rfl,rfl,rfl⟩
theorem Zv{sw0 sw1:Shared}{w:World}{xs:List WData}{sa:Addr}{as:List Addr}(L:Laid rwR.records w sw0 sw1 [.list xs] [.ref sa] as):∃vs:List Value,sw1.heap.get? sa=some {cls:=.type "list",data:=.seq vs.toArray}:=by
 obtain ⟨ord,_,hl⟩:=L.laid
 obtain ⟨a,q,h1,h2,e⟩:=layAllW_cons hl
 simp only[layAllW,Option.some.injEq]at h2
 subst h2
 obtain ⟨r,h3,rfl⟩:=layW_list h1
 injection e with e1 e2
 injection e1 with e1 _
 injection e1 with e1
 subst e2
 subst e1
 exact ⟨r.1,Heap.get?_push_size _ rfl⟩
theorem Yv{g:Gh}:∀{vs:List Value} {xs:List Int},IntsAre vs xs->VRs g (xs.map .int) vs
 |_,_,.nil=>rfl
 |_,_,.cons _ _ h=>.cons kQ (Yv h)
theorem jbO(P:Params):(KW P).lookup 248=none:=by kernel_rfl
theorem Yt(P:Params)(x:Addr×Obj):nsOkIn (KX P x) cStatics=true:=by kernel_rfl
theorem kw_lim2(P:Params)(x:Addr×Obj):nsIn (KX P x) cStatics (Str.ofString "sys.recursionlimit")=some none:=by kernel_rfl
theorem kw_o248(P:Params):(fT X0 P).get 248=some (e8 P):=by kernel_rfl!
theorem kw_o252(P:Params):(KW P).lookup 252=some (f252 P):=by kernel_rfl
theorem kw_law(P:Params):nsIn (KW P) mainGlobals (Str.ofString "law")=some (some (.ref 350)):=by kernel_rfl
theorem jbM:UC.name=Str.ofString "law" :=by kernel_rfl
theorem Kh{a:Addr}{o:Obj}{x:Addr×Obj}{K:Frag}(e:(K++[x]).lookup a=some o):K.lookup a=some o∨(a=x.1∧o=x.2):=by
 rw[List.lookup_append,Option.or_eq_some_iff]at e
 rcases e with e|⟨_,e⟩
 ·exact .inl e
 ·obtain ⟨b,y⟩:=x
  rw[List.lookup_cons]at e
  split at e
  ·rename_i h;cases e;exact .inr ⟨beq_iff_eq.mp h,rfl⟩
  ·cases e
theorem jbN{w:World}{sw1:Shared}{sa:Addr}{xs:List Int}{vs:List Value}{R:Result->Shared->Prop}(Y:YPV w sw1.heap)(htk:853≤sw1.toks)(hl:sw1.heap.get? sa=some {cls:=.type "list",data:=.seq vs.toArray})(hI:IntsAre vs xs)(hx:xs.length≤63)(hg:sw1.gens= #[])
  (hR:∀s',OldK sw1.heap s'.heap->s'.os=sw1.os->AllBare s'.gens->R (.ok (.ret (.bool true))) s'):codeAny (model rwR.prog w) callerA (.call (.ref 350) ⟨[.ref sa],[]⟩) R sw1:=by
 have h248:sw1.heap.get? 248=some (e8 w.params):=Y 248 _ (abs_get (by decide) (kw_o248 _))
 have hin:(KX w.params (sa,{cls:=.type "list",data:=.seq vs.toArray})).In sw1.heap:=fun a o e=>by
  rcases Kh e with h|⟨rfl,rfl⟩
  ·exact YQ Y a o h
  ·exact hl
 have hlk:(KX w.params (sa,{cls:=.type "list",data:=.seq vs.toArray})).lookup sa=some {cls:=.type "list",data:=.seq vs.toArray}:=by
  unfold KX
  rw[List.lookup_append]
  cases e:(KW w.params).lookup sa with
  |none=>rw[Option.none_or,List.lookup_cons,beq_self_eq_true]
  |some o=>rw[Option.some_or,←YQ Y _ _ e];exact hl
 let C:Cx:=CW rwR.prog w (sa,{cls:=.type "list",data:=.seq vs.toArray}) (xs.map .int) ⟨vs.toArray,0,hlk,fun g=>Yv hI⟩ (fun h X=>⟨_,.of_isNs (isNs_of_in X (Yt _ _)),nsMap_none_of_in X (Yt _ _) (kw_lim2 _ _)⟩)
 let Z:Sig:=fun a=>if a=248 then some (.tab 411 22)else none
 have hC:C.K.lookup 248=none:=by
  cases e:C.K.lookup 248 with
  |none=>rfl
  |some o=>
   have:=hin _ _ e
   rcases Kh e with h|⟨rfl,rfl⟩
   ·rw[jbO]at h;cases h
   ·rw[h248]at this;cases this
 have HR:qa C Z ⟨sw1.heap,C.tk0⟩:=by
  refine ⟨hin,fun a o e=> ?_,fun a d=> ?_,.refl _⟩
  ·by_cases q:a=248
   ·subst q
    cases e
    exact ⟨#[],h248,.inl rfl⟩
   ·rw[show Z a=none from if_neg q]at e;cases e
  ·by_cases q:a=248
   ·subst q;exact hC
   ·exact absurd (show Z a=none from if_neg q) d
 have tk:TOk ⟨sw1,C.tk0⟩:=⟨Nat.lt_of_lt_of_le (by decide) htk,fun t ht=>if_neg (by
  have h2:853≤t:=Nat.le_trans htk ht
  rintro (rfl|rfl)<;>exact absurd h2 (by decide))⟩
 refine spec350 (C:=C) (lv:=0) (Z:=Z) (sa:=sa) (Ψ:=fun av o=>av=.bool true∧o 248=some (.tab 411 22)) (kw_pc ..) (Nat.le_trans hx (by decide)) (if_pos rfl) (if_pos rfl) (fun o e=>⟨rfl,e⟩) callerA ⟨sw1,C.tk0⟩ _ _ R rfl (by decide) (by decide) HR tk rfl (.cons qD rfl) ?_
 rintro av Z' cv z' ⟨rfl,e⟩ H' S tk' v
 subst v
 refine hR z'.s ?_ S.os (S.gens (.of_eq hg))
 obtain ⟨ps,hp,hps⟩:=H'.obj _ _ e
 have kp:∀b o,b≠248->sw1.heap.get? b=some o->z'.s.heap.get? b=some o:=fun b o hb ho=>S.kp b o (fun d=>d (if_neg hb)) ho
 refine ⟨fun b o ho=> ?_,fun b o ho=> ?_⟩
 ·by_cases q:b=248
  ·subst q
   rw[h248]at ho;cases ho
   exact .inr (.inl ⟨⟨252,_,_,YQ Y _ _ (kw_o252 _),rfl,rfl,rfl⟩,rfl,#[],ps,rfl,by rw[Array.empty_append];exact hp⟩)
  ·exact .inl (kp b o q ho)
 ·by_cases q:b=248
  ·subst q;exact ⟨_,hp⟩
  ·exact ⟨o,kp b o q ho⟩
set_option tactic.hygienic true in
theorem jbL:WalkT:=by
 intro w sw0 sw1 mg mb G Y htk fa o pm cd doc dV kV ho hd hcd hD hmg hg args vals as hpre hlay hrd hwl hlo L
 refine Ground.open G ?_
 intro T B D TE TW
 wrow_args hpre hlay hrd hwl hlo
 rename_i xs _ _ _ _ _ _ _ sa vs0 _ hL _ _ _ hI _ hlen hcond
 refine enter_call ?_
 obtain ⟨vs,hvs⟩:=Zv L
 obtain ⟨ol,h1,h2,n,h3⟩:=hL
 rw[hvs]at h1
 cases h1
 have hv:vs=vs0:=by
  injection h3 with h3 _
  exact congrArg Array.toList h3
 subst hv
 have hfa:=mg_of (YQ Y) T.g (kw_law w.params)
 rw[jbM,hfa]at hmg
 cases hmg
 exact jbN Y htk hvs hI (by lia) hg fun s' hK ho hb=>⟨.inl ⟨_,_,[],rfl,fun _=>rfl,ReadsW.bool true,by kernel_rfl,fun _=>⟨List.nodup_nil,fun _ hm=>(nomatch hm)⟩⟩,hK,ho,hb⟩
theorem row_law:PySem.Challenge.rw_kl0399_01.Holds:=jb3 (ZA (by decide+kernel) jbL)
end
end Mine.Internal
theorem PySem.Challenge.cw_kl0399_01_holds : PySem.Challenge.rw_kl0399_01.Holds :=
  Mine.Internal.row_law
