import PyProof.Rows.All
import Wide.All
import OpenK.AllK
import Wide.FinOn
import PySem.Challenge.RW_ta0088_02
set_option Elab.async false
set_option maxRecDepth 1000000
set_option linter.unusedVariables false
set_option genSizeOf false
set_option genInjectivity false
set_option compiler.extract_closed false
open PySem PySem.W PyProof.Rows
namespace Mine
noncomputable abbrev bK:=@Heap.get?_push_of_some
noncomputable abbrev ah:=@List.mem_cons
noncomputable abbrev bZ:=@List.mem_cons_of_mem
noncomputable abbrev bD:=@List.all_eq_true
noncomputable abbrev bW:=@List.mem_cons_self
noncomputable abbrev cZ:=@Heap.get?_push_size
noncomputable abbrev bS:=@List.mem_range
noncomputable abbrev cC:=@Bool.and_eq_true
noncomputable abbrev fn:=@Nat.le_of_ble_eq_true
noncomputable abbrev dh:=@Nat.zero_lt_succ
noncomputable abbrev dJ:=@List.mem_map_of_mem
noncomputable abbrev bh:=@List.map_cons
noncomputable abbrev eA:=@Bool.and_eq_true_iff
noncomputable abbrev cf:=@List.mem_filter
noncomputable abbrev df:=@Calls.spliced_cons
noncomputable abbrev cH:=@List.mem_map
noncomputable abbrev eE:=@Nat.succ_lt_succ
noncomputable abbrev fJ:=@Calls.spliced_nil
noncomputable abbrev gi:=@Heap.get?_none_of_le
noncomputable abbrev il:=@Nat.eq_of_beq_eq_true
noncomputable abbrev cX:=@Nat.mod_lt
noncomputable abbrev fh:=@List.lookup_cons
noncomputable abbrev de:=@Nat.le_trans
noncomputable abbrev fE:=@Heap.size_push
noncomputable abbrev ij:=@Int.natCast_nonneg
noncomputable abbrev iu:=@List.map_inj_left
noncomputable abbrev d4:=@Nat.le_refl
noncomputable abbrev ks:=@List.contains_iff_mem
noncomputable abbrev jg:=@List.filter_eq_self
noncomputable abbrev ie:=@Nat.lt_succ_self
noncomputable abbrev ju:=@List.mem_singleton
noncomputable abbrev j9:=@Bool.false_ne_true
noncomputable abbrev kJ:=@Bool.not_eq_true'
noncomputable abbrev jU:=@List.mem_append
noncomputable abbrev gB:=@Heap.lt_size
noncomputable abbrev lF:=@List.length_cons
noncomputable abbrev nv:=@List.filterMap_cons
noncomputable abbrev kv:=@List.map_append
noncomputable abbrev lH:=@List.length_map
noncomputable abbrev qo:=@Heap.get?_update_self
noncomputable abbrev ls:=@List.any_eq_true
noncomputable abbrev oG:=@Obj.data_mapFields
noncomputable abbrev jR:=@List.map_map
noncomputable abbrev rh:=@List.getElem?_eq_getElem
noncomputable abbrev qd:=@List.forall_mem_cons
noncomputable abbrev o6:=@Calls.evalArgs_plain
noncomputable abbrev sA:=@Option.map_eq_some_iff
noncomputable abbrev uq:=@Array.getElem?_eq_some_iff
noncomputable abbrev sI:=@Obj.isFreed_of_fields
noncomputable abbrev sB:=@Nat.ble_eq_true_of_le
noncomputable abbrev vj:=@Array.getElem?_eq_getElem
noncomputable abbrev aJ(α:Type):Type:=α->Shared->Prop
universe u v w
theorem nS{α:Type}{a:α}{p:Prop}(e:none=some a):p:=nomatch e
theorem sN{α:Type}{a:α}{p:Prop}(e:some a=none):p:=nomatch e
theorem fT{p:Prop}(e:false=true):p:=nomatch e
theorem tF{p:Prop}(e:true=false):p:=nomatch e
theorem iS{α:Type}{a b:α}(e:some a=some b):a=b:=Option.some.inj e
theorem iP{α β:Type}{a c:α}{b d:β}(e:some (a,b)=some (c,d)):a=c/\b=d:=Prod.mk.inj (Option.some.inj e)
theorem BH{p:Prop}(k:∀G:Prop,(p->G)->G):p:=k p id
theorem bE{α β:Type}{o:Option α}{f:α->Option β}{r:β}{p:Prop}(e:o.bind f=some r)(k:∀x,o=some x->f x=some r->p):p:=
 let ⟨x,a,b⟩:=Option.bind_eq_some_iff.mp e;k x a b
theorem mE{α β:Type}{o:Option α}{f:α->β}{r:β}{p:Prop}(e:o.map f=some r)(k:∀x,o=some x->f x=r->p):p:=
 let ⟨x,a,b⟩:=sA.mp e;k x a b
theorem cL{a b p:Prop}(h:a/\b)(k:a->b->p):p:=k h.1 h.2
theorem km{a b c p:Prop}(h:a/\b/\c)(k:a->b->c->p):p:=k h.1 h.2.1 h.2.2
theorem kH{a b c d p:Prop}(h:a/\b/\c/\d)(k:a->b->c->d->p):p:=k h.1 h.2.1 h.2.2.1 h.2.2.2
theorem z9{a b c d e p:Prop}(h:a/\b/\c/\d/\e)(k:a->b->c->d->e->p):p:=k h.1 h.2.1 h.2.2.1 h.2.2.2.1 h.2.2.2.2
theorem af{α:Sort u}{P:α->Prop}{p:Prop}(h:∃x,P x)(k:∀x,P x->p):p:=h.elim λx h=>k x h
theorem aP{α:Sort u}{P Q:α->Prop}{p:Prop}(h:∃x,P x/\Q x)(k:∀x,P x->Q x->p):p:=h.elim λx h=>k x h.1 h.2
theorem d1{α:Sort u}{P Q R:α->Prop}{p:Prop}(h:∃x,P x/\Q x/\R x)(k:∀x,P x->Q x->R x->p):p:=h.elim λx h=>k x h.1 h.2.1 h.2.2
theorem iU{α:Sort u}{P Q R S:α->Prop}{p:Prop}(h:∃x,P x/\Q x/\R x/\S x)(k:∀x,P x->Q x->R x->S x->p):p:=h.elim λx h=>k x h.1 h.2.1 h.2.2.1 h.2.2.2
theorem wP{α:Sort u}{P Q R S T:α->Prop}{p:Prop}(h:∃x,P x/\Q x/\R x/\S x/\T x)(k:∀x,P x->Q x->R x->S x->T x->p):p:=h.elim λx h=>k x h.1 h.2.1 h.2.2.1 h.2.2.2.1 h.2.2.2.2
theorem eV{α:Sort u}{β:Sort v}{P:α->β->Prop}{p:Prop}(h:∃x y,P x y)(k:∀x y,P x y->p):p:=h.elim λx h=>h.elim λy h=>k x y h
theorem lV{α:Sort u}{β:Sort v}{P Q:α->β->Prop}{p:Prop}(h:∃x y,P x y/\Q x y)(k:∀x y,P x y->Q x y->p):p:=h.elim λx h=>h.elim λy h=>k x y h.1 h.2
theorem lr{α:Sort u}{β:Sort v}{P Q R:α->β->Prop}{p:Prop}(h:∃x y,P x y/\Q x y/\R x y)(k:∀x y,P x y->Q x y->R x y->p):p:=h.elim λx h=>h.elim λy h=>k x y h.1 h.2.1 h.2.2
theorem vh{α:Sort u}{β:Sort v}{P Q R S:α->β->Prop}{p:Prop}(h:∃x y,P x y/\Q x y/\R x y/\S x y)(k:∀x y,P x y->Q x y->R x y->S x y->p):p:=h.elim λx h=>h.elim λy h=>k x y h.1 h.2.1 h.2.2.1 h.2.2.2
theorem Jh{α:Sort u}{β:Sort v}{P Q R S T:α->β->Prop}{p:Prop}(h:∃x y,P x y/\Q x y/\R x y/\S x y/\T x y)(k:∀x y,P x y->Q x y->R x y->S x y->T x y->p):p:=h.elim λx h=>h.elim λy h=>k x y h.1 h.2.1 h.2.2.1 h.2.2.2.1 h.2.2.2.2
theorem Jw{α:Sort u}{β:Sort v}{γ:Sort w}{P:α->β->γ->Prop}{p:Prop}(h:∃x y z,P x y z)(k:∀x y z,P x y z->p):p:=h.elim λx h=>h.elim λy h=>h.elim λz h=>k x y z h
theorem pJ{α:Sort u}{β:Sort v}{γ:Sort w}{P Q:α->β->γ->Prop}{p:Prop}(h:∃x y z,P x y z/\Q x y z)(k:∀x y z,P x y z->Q x y z->p):p:=h.elim λx h=>h.elim λy h=>h.elim λz h=>k x y z h.1 h.2
theorem vr{α:Sort u}{β:Sort v}{γ:Sort w}{P Q R:α->β->γ->Prop}{p:Prop}(h:∃x y z,P x y z/\Q x y z/\R x y z)(k:∀x y z,P x y z->Q x y z->R x y z->p):p:=h.elim λx h=>h.elim λy h=>h.elim λz h=>k x y z h.1 h.2.1 h.2.2
theorem Ht{α:Sort u}{β:Sort v}{γ:Sort w}{P Q R S:α->β->γ->Prop}{p:Prop}(h:∃x y z,P x y z/\Q x y z/\R x y z/\S x y z)(k:∀x y z,P x y z->Q x y z->R x y z->S x y z->p):p:=h.elim λx h=>h.elim λy h=>h.elim λz h=>k x y z h.1 h.2.1 h.2.2.1 h.2.2.2
theorem qU{α:Sort u}{β:Sort v}{γ:Sort w}{δ ε:Type}{P:α->β->γ->δ->ε->Prop}{p:Prop}(h:∃x y z a b,P x y z a b)(k:∀x y z a b,P x y z a b->p):p:=h.elim λx h=>h.elim λy h=>h.elim λz h=>h.elim λa h=>h.elim λb h=>k x y z a b h
theorem JB{α:Sort u}{P Q R S T U V:α->Prop}{p:Prop}(h:∃x,P x/\Q x/\R x/\S x/\T x/\U x/\V x)(k:∀x,P x->Q x->R x->S x->T x->U x->V x->p):p:=h.elim λx h=>k x h.1 h.2.1 h.2.2.1 h.2.2.2.1 h.2.2.2.2.1 h.2.2.2.2.2.1 h.2.2.2.2.2.2
theorem Io{α:Sort u}{β:Sort v}{P Q R S T U V:α->β->Prop}{p:Prop}(h:∃x y,P x y/\Q x y/\R x y/\S x y/\T x y/\U x y/\V x y)(k:∀x y,P x y->Q x y->R x y->S x y->T x y->U x y->V x y->p):p:=h.elim λx h=>h.elim λy h=>k x y h.1 h.2.1 h.2.2.1 h.2.2.2.1 h.2.2.2.2.1 h.2.2.2.2.2.1 h.2.2.2.2.2.2
theorem aB{a b:Bool}(e:(a&&b)=true):a=true/\b=true:=(cC a b).mp e
theorem aI{a b:Bool}(h:a=true)(k:b=true):(a&&b)=true:=(cC a b).mpr ⟨h,k⟩
theorem a2{a b:Bool}(e:(a&&b)=true):a=true/\b=true:=aB e
theorem a3{a b c:Bool}(e:(a&&(b&&c))=true):a=true/\b=true/\c=true:=⟨(aB e).1,aB (aB e).2⟩
theorem a4{a b c d:Bool}(e:(a&&(b&&(c&&d)))=true):a=true/\b=true/\c=true/\d=true:=⟨(aB e).1,a3 (aB e).2⟩
theorem a5{a b c d f:Bool}(e:(a&&(b&&(c&&(d&&f))))=true):a=true/\b=true/\c=true/\d=true/\f=true:=⟨(aB e).1,a4 (aB e).2⟩
theorem ag{a b c d f:Bool}(e:(a&&((b&&c)&&(d&&f)))=true):a=true/\(b=true/\c=true)/\d=true/\f=true:=⟨(aB e).1,aB (aB (aB e).2).1,aB (aB (aB e).2).2⟩
@[elab_as_elim] theorem IF{α:Sort u}{a b:α}{M:α->Prop}(h:a=b)(x:M b):M a:=h▸x
@[elab_as_elim] theorem J4{α:Sort u}{a b:α}{M:α->Prop}(h:b=a)(x:M b):M a:=h▸x
section
variable{α:Type u}{a b c d f g k x:α}{l:List α}
theorem iW:a∈a :: l:=.head _
theorem kl:b∈a :: b :: l:=.tail _ iW
theorem mf:c∈a :: b :: c :: l:=.tail _ kl
theorem w7:d∈a :: b :: c :: d :: l:=.tail _ mf
theorem Fx:f∈a :: b :: c :: d :: f :: l:=.tail _ w7
theorem HD:g∈a :: b :: c :: d :: f :: g :: l:=.tail _ Fx
theorem Jv:k∈a :: b :: c :: d :: f :: g :: k :: l:=.tail _ HD
theorem JV(h:x∈[a]):x=a:=ju.mp h
theorem Jz(h:x∈[a,b]):x=a\/x=b:=(ah.mp h).imp_right JV
theorem Je(h:x∈[a,b,c]):x=a\/x=b\/x=c:=(ah.mp h).imp_right Jz
theorem JR(h:x∈[a,b,c,d]):x=a\/x=b\/x=c\/x=d:=(ah.mp h).imp_right Je
theorem J0(h:x∈[a,b,c,d,f]):x=a\/x=b\/x=c\/x=d\/x=f:=(ah.mp h).imp_right JR
theorem J3(h:x∈[a,b,c,d,f,g]):x=a\/x=b\/x=c\/x=d\/x=f\/x=g:=(ah.mp h).imp_right J0
variable{p:α->Prop}(A:p a)(B:p b)(C:p c)(D:p d)(F:p f)(G:p g)
include A
theorem JX:∀x∈[a],p x:=λ_ h=>JV h▸A
include B
theorem Jf:∀x∈[a,b],p x:=qd.mpr ⟨A,JX B⟩
include C
theorem II:∀x∈[a,b,c],p x:=qd.mpr ⟨A,Jf B C⟩
include D
theorem JH:∀x∈[a,b,c,d],p x:=qd.mpr ⟨A,II B C D⟩
include F
theorem Jm:∀x∈[a,b,c,d,f],p x:=qd.mpr ⟨A,JH B C D F⟩
include G
theorem Ia:∀x∈[a,b,c,d,f,g],p x:=qd.mpr ⟨A,Jm B C D F G⟩
end
theorem l4{k:Nat}(h:k<4):k=0\/k=1\/k=2\/k=3:=(by decide +kernel:∀k<4,k=0\/k=1\/k=2\/k=3) k h
theorem l5{k:Nat}(h:k<5):k=0\/k=1\/k=2\/k=3\/k=4:=(by decide +kernel:∀k<5,k=0\/k=1\/k=2\/k=3\/k=4) k h
theorem l2{k:Nat}(h:k<2):k=0\/k=1:=(by decide +kernel:∀k<2,k=0\/k=1) k h
theorem l3{k:Nat}(h:k<3):k=0\/k=1\/k=2:=(by decide +kernel:∀k<3,k=0\/k=1\/k=2) k h
@[elab_as_elim] theorem HC{P:Nat->Prop}{k:Nat}(h:k<2)(a:P 0)(b:P 1):P k:=(l2 h).elim (λe=>e▸a) λe=>e▸b
@[elab_as_elim] theorem Hg{P:Nat->Prop}{k:Nat}(h:k<3)(a:P 0)(b:P 1)(c:P 2):P k:=(l3 h).elim (λe=>e▸a) λe=>e.elim (λe=>e▸b) λe=>e▸c
@[elab_as_elim] theorem IU{P:Nat->Prop}{k:Nat}(h:k<4)(a:P 0)(b:P 1)(c:P 2)(d:P 3):P k:=(l4 h).elim (λe=>e▸a) λe=>e.elim (λe=>e▸b) λe=>e.elim (λe=>e▸c) λe=>e▸d
@[elab_as_elim] theorem tm{α:Type}{P:List α->Prop}{l:List α}(h:l.length=1)(k:∀a,P [a]):P l:=by
 cases l with
 |nil=>cases h
 |cons a l=>cases l with
  |nil=>exact k a
  |cons=>cases h
@[elab_as_elim] theorem Ii{α:Type}{P:List α->Prop}{l:List α}(h:l.length=3)(k:∀a b c,P [a,b,c]):P l:=by
 cases l with
 |nil=>cases h
 |cons a l=>exact(λ(q:l.length=2)=>by
  cases l with
  |nil=>cases q
  |cons b l=>exact tm (P:=λl=>P (a :: b :: l)) (Nat.succ.inj q) (k a b)) (Nat.succ.inj h)
theorem su{n i:Nat}(h:i<n):n+1-(i+1)<n+1-i:=Nat.sub_lt_sub_left (Nat.lt_succ_of_lt h) (ie i)
theorem JQ{i n:Nat}(h:i<=n)(k:¬i<n):i=n:=Nat.le_antisymm h (Nat.le_of_not_lt k)
theorem dp{a k x y:Nat}(h:a+64*k<=9000)(hx:x<=4):a+min x y<9900:=
 Nat.lt_of_le_of_lt (Nat.add_le_add (de (Nat.le_add_right a _) h) (de (Nat.min_le_left x y) hx)) (by decide)
theorem Js{i j:Nat}(h:i+1<=j):j-i=j-(i+1)+1:=(Nat.succ_pred_eq_of_pos (Nat.sub_pos_of_lt h)).symm
theorem Hs{P:Nat->Prop}(a:P 0)(b:P 1)(c:P 2)(d:P 3)(e:P 4):∀k,k<5->P k:=λk h=>by
 rcases l5 h with rfl|rfl|rfl|rfl|rfl
 ·exact a
 ·exact b
 ·exact c
 ·exact d
 ·exact e
theorem zm{n b:Nat}:b∈[n+4,n+3,n,n+1]->∃k:Nat,k<5/\b=n+k:=
 JH (p:=λb=>∃k:Nat,k<5/\b=n+k) ⟨4,by decide,rfl⟩ ⟨3,by decide,rfl⟩ ⟨0,by decide,rfl⟩ ⟨1,by decide,rfl⟩ b
theorem JS{n b l m:Nat}(h:b∈[n+4,n+2,n+3,n,n+1,l,m]):(∃k:Nat,k<5/\b=n+k)\/b=l\/b=m:=
 (ah.mp h).elim (λe=>.inl ⟨4,by decide,e⟩) (Ia (p:=λb=>(∃k:Nat,k<5/\b=n+k)\/b=l\/b=m) (.inl ⟨2,by decide,rfl⟩) (.inl ⟨3,by decide,rfl⟩) (.inl ⟨0,by decide,rfl⟩) (.inl ⟨1,by decide,rfl⟩) (.inr (.inl rfl)) (.inr (.inr rfl)) b)
set_option backward.match.sparseCases false
local macro_rules | `(tactic| rw[$h:term])=>`(tactic| refine IF $h ?_)
inductive PV where
 |none|bool (b:Bool)|int (i:Int)|str (s:Str)|bytes (b:Array UInt8)
 |list (xs:List PV)|tuple (xs:List PV)|view (xs:List PV)|arg (xs:List PV)
 |ob (v:Value)|tab
 deriving Inhabited
noncomputable abbrev aT(vs:List Value)(n:Nat):Obj:={ cls:=.type "list",data:=.seq vs.toArray n }
noncomputable abbrev eg(vs:List Value)(n:Nat):Obj:={ cls:=.type "tuple",data:=.seq vs.toArray n }
structure Cx where
 X:Addr->Prop
 F:Addr->Prop
 hl:Option Addr
 ta:Option Addr
section
variable(C:Cx)(h:Heap)(R:List Value->Prop)(v:Value)
inductive Jk:Prop
 |mk (a:Addr) (vs:List Value) (n:Nat) (e:v=.ref a) (x:¬C.X a) (f:¬C.F a) (l:C.hl≠some a) (g:h.get? a=some (aT vs n)) (r:R vs)
inductive Jx:Prop
 |mk (a:Addr) (vs:List Value) (e:v=.ref a) (x:¬C.X a) (f:¬C.F a) (l:C.hl≠some a) (g:h.IsTuple a (List.toArray vs)) (r:R vs)
inductive Ja:Prop
 |mk (a:Addr) (vs:List Value) (e:v=.ref a) (x:¬C.X a) (f:¬C.F a) (l:C.hl≠some a) (g:h.IsList a (List.toArray vs)) (r:R vs)
inductive Jj:Prop
 |mk (a:Addr) (vs:List Value) (n:Nat) (e:v=.ref a) (x:¬C.X a) (l:C.hl≠some a) (g:h.get? a=some (aT vs n)) (r:R vs)
inductive Jr(P:Value->Prop)(R:List Value->Prop)(vs:List Value):Prop
 |mk (v:Value) (r:List Value) (e:vs=v :: r) (p:P v) (q:R r)
end
mutual
noncomputable def an(C:Cx)(h:Heap):PV->Value->Prop
 |.none,v=>v=.none
 |.bool b,v=>v=.bool b
 |.int i,v=>∃t,v=.int i t
 |.str x,v=>∃t,v=.str x t
 |.bytes b,v=>∃t,v=.bytes b t
 |.list xs,v=>Jk C h (aH C h xs) v
 |.tuple xs,v=>Jx C h (aH C h xs) v
 |.arg xs,v=>Ja C h (aH C h xs) v
 |.view xs,v=>Jj C h (aH C h xs) v
 |.ob u,v=>v=u
 |.tab,v=>∃a,C.ta=some a/\v=.ref a
noncomputable def aH(C:Cx)(h:Heap):List PV->List Value->Prop
 |[],vs=>vs=[]
 |x :: xs,vs=>Jr (an C h x) (aH C h xs) vs
end
@[elab_as_elim] theorem rI{C:Cx}{h:Heap}{i:Int}{v:Value}{M:Value->Prop}(r:an C h (.int i) v)(k:∀t,M (.int i t)):M v:=by refine af r ?_;clear r;intro t q1q;subst q1q;exact k t
@[elab_as_elim] theorem rS{C:Cx}{h:Heap}{x:Str}{v:Value}{M:Value->Prop}(r:an C h (.str x) v)(k:∀t,M (.str x t)):M v:=by refine af r ?_;clear r;intro t q1q;subst q1q;exact k t
@[elab_as_elim] theorem oI{C:Cx}{h:Heap}{p:PV}{vs:List Value}{M:List Value->Prop}(rs:aH C h [p] vs)(k:∀v,an C h p v->M [v]):M vs:=by obtain⟨v,w,rfl,r1,rfl⟩:=rs;exact k v r1
@[elab_as_elim] theorem Af{C:Cx}{h:Heap}{p q:PV}{vs:List Value}{M:List Value->Prop}(rs:aH C h [p,q] vs)(k:∀v w,an C h p v->an C h q w->M [v,w]):M vs:=by obtain⟨v,w,rfl,r1,rs⟩:=rs;exact oI rs λw=>k v w r1
mutual
noncomputable def clean:PV->Bool
 |.view _=>false
 |.list xs=>aA xs
 |.tuple xs=>aA xs
 |.arg xs=>aA xs
 |_=>true
noncomputable def aA:List PV->Bool
 |[]=>true
 |x :: xs=>clean x&&aA xs
end
theorem bb:aA []=(true):=rfl
theorem bR{x xs}:aA (x :: xs)=(clean x&&aA xs):=rfl
mutual
noncomputable def dD:PV->PV
 |.view xs=>.list (bd xs)
 |.list xs=>.list (bd xs)
 |.tuple xs=>.tuple (bd xs)
 |.arg xs=>.arg (bd xs)
 |p=>p
noncomputable def bd:List PV->List PV
 |[]=>[]
 |x :: xs=>dD x :: bd xs
end
theorem sH:bd []=([]):=rfl
theorem kY{x xs}:bd (x :: xs)=(dD x :: bd xs):=rfl
mutual
theorem an.map{C C':Cx}{h h':Heap}{V:Prop}(hk:∀a o,¬C.X a->¬C.F a->C.hl≠some a->h.get? a=some o->¬C'.X a/\¬C'.F a/\C'.hl≠some a/\h'.get? a=some o)
  (hv:∀a o,V->¬C.X a->C.hl≠some a->h.get? a=some o->¬C'.X a/\C'.hl≠some a/\h'.get? a=some o)
  (ht:∀a,C.ta=some a->C'.ta=some a):∀{p:PV} {v:Value},V\/clean p=true->an C h p v->an C' h' p v
 |.none,_,_,r=>r
 |.bool _,_,_,r=>r
 |.int _,_,_,r=>r
 |.str _,_,_,r=>r
 |.bytes _,_,_,r=>r
 |.list xs,v,c,r=>BH λG k=>by obtain⟨a,vs,n,e,x,f,l,g,rs⟩:=r;refine kH (hk a _ x f l g) λx' f' l' g'=>?_;exact k ⟨a,vs,n,e,x',f',l',g',aH.map hk hv ht c rs⟩
 |.tuple xs,v,c,r=>BH λG k=>by obtain⟨a,vs,e,x,f,l,⟨o,g,gr⟩,rs⟩:=r;refine kH (hk a _ x f l g) λx' f' l' g'=>?_;exact k ⟨a,vs,e,x',f',l',⟨o,g',gr⟩,aH.map hk hv ht c rs⟩
 |.arg xs,v,c,r=>BH λG k=>by obtain⟨a,vs,e,x,f,l,⟨o,g,gr⟩,rs⟩:=r;refine kH (hk a _ x f l g) λx' f' l' g'=>?_;exact k ⟨a,vs,e,x',f',l',⟨o,g',gr⟩,aH.map hk hv ht c rs⟩
 |.view xs,v,c,r=>BH λG k=>by obtain⟨a,vs,n,e,x,l,g,rs⟩:=r;refine km (hv a _ (c.elim id λq=>fT q) x l g) λx' l' g'=>?_;exact k ⟨a,vs,n,e,x',l',g',aH.map hk hv ht (c.imp_right λq=>fT q) rs⟩
 |.ob _,_,_,r=>r
 |.tab,_,_,r=>r.imp λa e=>⟨ht a e.1,e.2⟩
theorem aH.map{C C':Cx}{h h':Heap}{V:Prop}(hk:∀a o,¬C.X a->¬C.F a->C.hl≠some a->h.get? a=some o->¬C'.X a/\¬C'.F a/\C'.hl≠some a/\h'.get? a=some o)
  (hv:∀a o,V->¬C.X a->C.hl≠some a->h.get? a=some o->¬C'.X a/\C'.hl≠some a/\h'.get? a=some o)
  (ht:∀a,C.ta=some a->C'.ta=some a):∀{ps:List PV} {vs:List Value},V\/aA ps=true->aH C h ps vs->aH C' h' ps vs
 |[],_,_,r=>r
 |p :: ps,vs,c,r=>BH λG k=>by obtain⟨v,w,e,r1,r2⟩:=r;exact k ⟨v,w,e,an.map hk hv ht (c.imp_right λq=>(aB q).1) r1,aH.map hk hv ht (c.imp_right λq=>(aB q).2) r2⟩
end
section
variable{C C':Cx}{h h':Heap}{p:PV}{v:Value}{ps:List PV}{vs:List Value}
section
variable(hk:∀a o,¬C.X a->¬C.F a->C.hl≠some a->h.get? a=some o->¬C'.X a/\¬C'.F a/\C'.hl≠some a/\h'.get? a=some o)(ht:∀a,C.ta=some a->C'.ta=some a)
include hk ht
theorem an.move(c:clean p=true)(r:an C h p v):an C' h' p v:=r.map (V:=False) hk (λ_ _ q=>q.elim) ht (.inr c)
theorem aH.move(c:aA ps=true)(r:aH C h ps vs):aH C' h' ps vs:=r.map (V:=False) hk (λ_ _ q=>q.elim) ht (.inr c)
end
variable(hk:∀a o,C.hl≠some a->h.get? a=some o->h'.get? a=some o)
include hk
theorem an.keep(r:an C h p v):an C h' p v:=r.map (V:=True) (λa o x f l e=>⟨x,f,l,hk a o l e⟩) (λa o _ x l e=>⟨x,l,hk a o l e⟩) (λ_ e=>e) (.inl trivial)
theorem aH.keep(r:aH C h ps vs):aH C h' ps vs:=r.map (V:=True) (λa o x f l e=>⟨x,f,l,hk a o l e⟩) (λa o _ x l e=>⟨x,l,hk a o l e⟩) (λ_ e=>e) (.inl trivial)
end
mutual
theorem an.freeze{C C':Cx}{h h':Heap}(hk:∀a o,¬C.X a->C.hl≠some a->h.get? a=some o->¬C'.X a/\¬C'.F a/\C'.hl≠some a/\h'.get? a=some o)
  (ht:∀a,C.ta=some a->C'.ta=some a):∀{p:PV} {v:Value},an C h p v->an C' h' (dD p) v
 |.none,_,r=>r
 |.bool _,_,r=>r
 |.int _,_,r=>r
 |.str _,_,r=>r
 |.bytes _,_,r=>r
 |.list xs,v,r=>BH λG k=>by obtain⟨a,vs,n,e,x,f,l,g,rs⟩:=r;refine kH (hk a _ x l g) λx' f' l' g'=>?_;exact k ⟨a,vs,n,e,x',f',l',g',aH.freeze hk ht rs⟩
 |.tuple xs,v,r=>BH λG k=>by obtain⟨a,vs,e,x,f,l,⟨o,g,gr⟩,rs⟩:=r;refine kH (hk a _ x l g) λx' f' l' g'=>?_;exact k ⟨a,vs,e,x',f',l',⟨o,g',gr⟩,aH.freeze hk ht rs⟩
 |.arg xs,v,r=>BH λG k=>by obtain⟨a,vs,e,x,f,l,⟨o,g,gr⟩,rs⟩:=r;refine kH (hk a _ x l g) λx' f' l' g'=>?_;exact k ⟨a,vs,e,x',f',l',⟨o,g',gr⟩,aH.freeze hk ht rs⟩
 |.view xs,v,r=>BH λG k=>by obtain⟨a,vs,n,e,x,l,g,rs⟩:=r;refine kH (hk a _ x l g) λx' f' l' g'=>?_;exact k ⟨a,vs,n,e,x',f',l',g',aH.freeze hk ht rs⟩
 |.ob _,_,r=>r
 |.tab,_,r=>r.imp λa e=>⟨ht a e.1,e.2⟩
theorem aH.freeze{C C':Cx}{h h':Heap}(hk:∀a o,¬C.X a->C.hl≠some a->h.get? a=some o->¬C'.X a/\¬C'.F a/\C'.hl≠some a/\h'.get? a=some o)
  (ht:∀a,C.ta=some a->C'.ta=some a):∀{ps:List PV} {vs:List Value},aH C h ps vs->aH C' h' (bd ps) vs
 |[],_,r=>r
 |p :: ps,vs,r=>BH λG k=>by obtain⟨v,w,e,r1,r2⟩:=r;exact k ⟨v,w,e,an.freeze hk ht r1,aH.freeze hk ht r2⟩
end
theorem aH.length{C:Cx}{h:Heap}:∀{ps:List PV} {vs:List Value},aH C h ps vs->vs.length=ps.length
 |[],_,r=>by cases r;rfl
 |_ :: ps,_,r=>by obtain⟨v,w,rfl,_,r2⟩:=r;simp[aH.length r2]
theorem aH.append{C:Cx}{h:Heap}:∀{ps qs:List PV} {vs ws:List Value},aH C h ps vs->aH C h qs ws->aH C h (ps++qs) (vs++ws)
 |[],_,_,_,r,q=>by cases r;exact q
 |_ :: ps,_,_,_,r,q=>by obtain⟨v,w,rfl,r1,r2⟩:=r;exact⟨v,_,rfl,r1,aH.append r2 q⟩
theorem aH.get{C:Cx}{h:Heap}:∀{ps:List PV} {vs:List Value} {i:Nat} {p:PV},aH C h ps vs->ps[i]?=some p->∃v,vs[i]?=some v/\an C h p v
 |[],_,_,_,_,e=>by simp at e
 |_ :: ps,_,0,_,r,e=>by obtain⟨v,w,rfl,r1,r2⟩:=r;simp at e;subst e;exact⟨v,rfl,r1⟩
 |_ :: ps,_,i+1,_,r,e=>by obtain⟨v,w,rfl,r1,r2⟩:=r;exact aH.get (i:=i) r2 (by simpa using e)
theorem aH.drop{C:Cx}{h:Heap}:∀{ps:List PV} {vs:List Value} (i:Nat),aH C h ps vs->aH C h (ps.drop i) (vs.drop i)
 |_,_,0,r=>r
 |[],_,i+1,r=>by cases r;exact rfl
 |_ :: ps,_,i+1,r=>by obtain⟨v,w,rfl,r1,r2⟩:=r;exact aH.drop i r2
theorem aH.take{C:Cx}{h:Heap}:∀{ps:List PV} {vs:List Value} (i:Nat),aH C h ps vs->aH C h (ps.take i) (vs.take i)
 |_,_,0,r=>by simp only[List.take_zero];exact rfl
 |[],_,i+1,r=>by cases r;exact rfl
 |_ :: ps,_,i+1,r=>by obtain⟨v,w,rfl,r1,r2⟩:=r;exact⟨v,_,rfl,r1,aH.take i r2⟩
theorem aH.set{C:Cx}{h:Heap}:∀{ps:List PV} {vs:List Value} (i:Nat),aH C h ps vs->aH C h (ps.eraseIdx i) (vs.eraseIdx i)
 |[],_,_,r=>by cases r;exact rfl
 |_ :: ps,_,0,r=>by obtain⟨v,w,rfl,r1,r2⟩:=r;exact r2
 |_ :: ps,_,i+1,r=>by obtain⟨v,w,rfl,r1,r2⟩:=r;exact⟨v,_,rfl,r1,aH.set i r2⟩
structure a9(hl:Option Addr)(s s':Shared):Prop where
 gens:s'.gens=s.gens
 drawn:s'.drawn=s.drawn
 os:s'.os=s.os
 keep:∀a o,hl≠some a->s.heap.get? a=some o->s'.heap.get? a=some o
theorem a9.refl(hl:Option Addr)(s:Shared):a9 hl s s:=⟨rfl,rfl,rfl,λ_ _ _ e=>e⟩
theorem a9.trans{hl:Option Addr}{s s' s'':Shared}(x:a9 hl s s')(y:a9 hl s' s''):a9 hl s s'':=
 ⟨y.gens.trans x.gens,y.drawn.trans x.drawn,y.os.trans x.os,λa o h e=>y.keep a o h (x.keep a o h e)⟩
theorem a9.toks{hl:Option Addr}(s:Shared)(t:Nat):a9 hl s { s with toks:=t }:=⟨rfl,rfl,rfl,λ_ _ _ e=>e⟩
theorem a9.push{hl:Option Addr}(s:Shared)(o:Obj):a9 hl s { s with heap:=s.heap.push o }:=
 ⟨rfl,rfl,rfl,λ_ _ _ e=>bK _ e⟩
theorem a9.of_keep{hl:Option Addr}(s:Shared){h':Heap}{t:Nat}(hk:∀a o,s.heap.get? a=some o->h'.get? a=some o):
  a9 hl s { s with heap:=h',toks:=t }:=⟨rfl,rfl,rfl,λa o _ e=>hk a o e⟩
structure aX where
 prog:Program
 w:World
 hb:Heap
 mg:Str->Option Value
 mb:Str->Option Value
 gns:hb.Ns mainGlobals mg
 bns:hb.Ns builtinsNs mb
 lim:hb.NoLimit
noncomputable abbrev aX.M(B:aX):Model:=model B.prog B.w
noncomputable abbrev WP(B:aX){α:Type}(A:Around)(t:Sem α)(Q:α->Shared->Prop)(s:Shared):Prop:=wpAny (model B.prog B.w) A t Q (λ_ _=>False) s
theorem WP.mono{B:aX}{α:Type}{A:Around}{t:Sem α}{Q Q':α->Shared->Prop}{s:Shared}(h:WP B A t Q s)(hQ:∀a s,Q a s->Q' a s):WP B A t Q' s:=
 wpAny_mono h hQ λ_ _ x=>x
theorem WP.bind{B:aX}{α β:Type}{A:Around}{m:Sem α}{f:α->Sem β}{Q:β->Shared->Prop}{s:Shared}(h:WP B A m (λa s'=>WP B A (f a) Q s') s):WP B A (m >>= f) Q s:=wpAny_bind h
structure bJ(k:Nat)(A:Around):Prop where
 hd:A.handled=none
 depth:A.depth+4*k<=900
 units:A.units+64*k<=9000
theorem bJ.mono{k k':Nat}{A:Around}(h:bJ k A)(hk:k'<=k):bJ k' A:=⟨h.hd,by have:=h.depth;lia,by have:=h.units;lia⟩
theorem bJ.room{k:Nat}{A:Around}(h:bJ k A):A.depth<recursionLimit:=by have:=h.depth;show _<1000;lia
theorem bJ.unitsOk{k:Nat}{A:Around}(h:bJ k A):A.units<cLine:=by have:=h.units;show _<9900;lia
theorem bJ.deeper{k:Nat}{A:Around}(h:bJ (k+1) A)(env:Env):bJ k (A.deeper env):=
 ⟨h.hd,by have:=h.depth;show A.depth+1+_<=_;lia,by have:=h.units;show A.units+3+_<=_;lia⟩
theorem bJ.in1{k:Nat}{A:Around}(h:bJ (k+1) A):bJ k A.in1:=⟨h.hd,by have:=h.depth;show A.depth+_<=_;lia,by have:=h.units;show A.units+1+_<=_;lia⟩
inductive AV where
 |val (p:PV)
 |own (xs:List PV)
noncomputable def AV.read:AV->PV
 |.val p=>p
 |.own xs=>.view xs
noncomputable abbrev aF:=List (Option AV)
noncomputable abbrev aC:=List (Str×Str)
inductive Kd where
 |loc|cell|cap
 deriving DecidableEq
noncomputable abbrev SC:=List (Nat×Kd)
structure HG(env:Env)(h:Heap)(m:Str->Option Value):Prop where
 kind:env.scope.kind=.function
 gl:env.globals=mainGlobals
 bt:env.builtins=builtinsNs
 ns:∃ml,h.Ns env.locals ml/\∀x,env.kindOf x=some .local->ml x=m x
 cell:∀x c,env.kindOf x=some .cell\/env.kindOf x=some .free->env.cells.lookup x=some c->h.IsCell c (m x)
 apart:∀x y a,env.cells.lookup x=some a->env.cells.lookup y=some a->x=y
noncomputable def w9(C:Cx)(env:Env)(x:Str):Kd->Prop
 |.loc=>env.kindOf x=some .local
 |.cell=>(env.kindOf x=some .cell\/env.kindOf x=some .free)/\∃a,env.cells.lookup x=some a/\C.F a
 |.cap=>(env.kindOf x=some .cell\/env.kindOf x=some .free)/\∃a,env.cells.lookup x=some a/\C.X a
inductive Ji(C:Cx)(h:Heap)(mv:Option Value)(p:PV):Prop
 |mk (c:clean p=true) (v:Value) (e:mv=some v) (r:an C h p v)
inductive JY(C:Cx)(h:Heap)(mv:Option Value)(M:Addr->Prop)(xs:List PV):Prop
 |mk (c:aA xs=true) (a:Addr) (vs:List Value) (n:Nat) (e:mv=some (.ref a)) (q:M a) (g:h.get? a=some (aT vs n)) (r:aH C h xs vs)
inductive Jy(C:Cx)(h:Heap)(v:Value)(M:Addr->Prop)(xs:List PV):Prop
 |mk (c:aA xs=true) (a:Addr) (vs:List Value) (n:Nat) (e:v=.ref a) (f:C.F a) (q:M a) (g:h.get? a=some (aT vs n)) (r:aH C h xs vs)
noncomputable def qx(C:Cx)(mt:List (Nat×Addr))(h:Heap)(mv:Option Value)(i:Nat):Option AV->Prop
 |none=>True
 |some (.val p)=>Ji C h mv p
 |some (.own xs)=>JY C h mv (λa=>(i,a)∈mt) xs
structure cV(B:aX)(C:Cx)(h:Heap):Prop where
 base:∀a o,B.hb.get? a=some o->h.get? a=some o
 baseX:∀a,C.X a->B.hb.get? a=none
 baseF:∀a,C.F a->B.hb.get? a=none
 baseL:∀a,C.hl=some a->B.hb.get? a=none
 liveX:∀a,C.X a->h.get? a≠none
 liveF:∀a,C.F a->h.get? a≠none
 liveL:∀a,C.hl=some a->h.get? a≠none
 fx:∀a,C.F a->¬C.X a
 lf:∀a,C.hl=some a->¬C.F a
 lx:∀a,C.hl=some a->¬C.X a
structure dY(B:aX)(C:Cx)(env:Env)(nm:Nat->Str)(sc:SC)(σ:aF)(mt:List (Nat×Addr))(h:Heap):Prop where
 vol:cV B C h
 fF:C.F env.locals
 cF:∀x a,env.cells.lookup x=some a->C.F a\/C.X a
 mF:∀i a,(i,a)∈mt->C.F a
 mlist:∀i a,(i,a)∈mt->∃vs n,h.get? a=some (aT vs n)
 minj:∀i j a,(i,a)∈mt->(j,a)∈mt->i=j
 ex:∃m,HG env h m/\∀i c,(i,c)∈sc->w9 C env (nm i) c/\qx C mt h (m (nm i)) i (σ.getD i none)
theorem HG.keep{env:Env}{h h':Heap}{m:Str->Option Value}(F:HG env h m)(P:Addr->Prop)(hL:P env.locals)(hC:∀x a,env.cells.lookup x=some a->P a)
  (hk:∀a o,P a->h.get? a=some o->h'.get? a=some o):HG env h' m where
 kind:=F.kind
 gl:=F.gl
 bt:=F.bt
 ns:=by obtain⟨ml,⟨o,es,ep,ho,r⟩,e⟩:=F.ns;exact⟨ml,⟨o,es,ep,hk _ _ hL ho,r⟩,e⟩
 cell:=λx c k e=>by refine aP (F.cell x c k e) λo ho r=>?_;exact⟨o,hk _ _ (hC x c e) ho,r⟩
 apart:=F.apart
theorem qx.keep{C:Cx}{mt:List (Nat×Addr)}{h h':Heap}{mv:Option Value}{i:Nat}(hk:∀a o,C.hl≠some a->h.get? a=some o->h'.get? a=some o)(hm:∀i a,(i,a)∈mt->C.hl≠some a):
  ∀{x:Option AV},qx C mt h mv i x->qx C mt h' mv i x:=by
 intro x k;cases x with
 |none=>trivial
 |some a=>
  cases a with
  |val=>obtain⟨c,v,e,r⟩:=k;exact⟨c,v,e,r.keep hk⟩
  |own=>obtain⟨c,a,vs,n,e,q,g,r⟩:=k;exact⟨c,a,vs,n,e,q,hk a _ (hm i a q) g,r.keep hk⟩
theorem cV.keep{B:aX}{C:Cx}{h h':Heap}(V:cV B C h)(hk:∀a o,C.hl≠some a->h.get? a=some o->h'.get? a=some o)(hl:∀a,C.hl=some a->h'.get? a≠none):cV B C h' where
 base:=λa o e=>hk a o (λq=>by replace e:=V.baseL a q▸e;exact nS e) (V.base a o e)
 baseX:=V.baseX
 baseF:=V.baseF
 baseL:=V.baseL
 liveX:=λa x=>by
  cases e:h.get? a with
  |none=>exact absurd e (V.liveX a x)
  |some o=>rw[hk a o (λq=>V.lx a q x) e];exact λq=>nomatch q
 liveF:=λa x=>by
  cases e:h.get? a with
  |none=>exact absurd e (V.liveF a x)
  |some o=>rw[hk a o (λq=>V.lf a q x) e];exact λq=>nomatch q
 liveL:=hl
 fx:=V.fx
 lf:=V.lf
 lx:=V.lx
theorem dY.keep{B:aX}{C:Cx}{env:Env}{nm:Nat->Str}{sc:SC}{σ:aF}{mt:List (Nat×Addr)}{h h':Heap}(S:dY B C env nm sc σ mt h)
  (hk:∀a o,C.hl≠some a->h.get? a=some o->h'.get? a=some o) (hl:∀a,C.hl=some a->h'.get? a≠none):dY B C env nm sc σ mt h' where
 vol:=S.vol.keep hk hl
 fF:=S.fF
 cF:=S.cF
 mF:=S.mF
 mlist:=λi a q=>by refine eV (S.mlist i a q) λvs n e=>?_;exact⟨vs,n,hk a _ (λz=>S.vol.lf a z (S.mF i a q)) e⟩
 minj:=S.minj
 ex:=by refine aP S.ex λm F e=>?_;have hm:∀i a,(i,a)∈mt->C.hl≠some a:=λi a q z=>S.vol.lf a z (S.mF i a q);exact⟨m,F.keep (λa=>C.F a\/C.X a) (.inl S.fF) S.cF (λa o x g=>hk a o (λz=>x.elim (S.vol.lf a z) (S.vol.lx a z)) g),λi c q=>⟨(e i c q).1,(e i c q).2.keep hk hm⟩⟩
section
variable{B:aX}{C:Cx}{A:Around}{env:Env}{nm:Nat->Str}{sc:SC}{σ:aF}{mt:List (Nat×Addr)}{s:Shared}
theorem dY.load{i:Nat}{c:Kd}{av:AV}{Q:aJ Value}(S:dY B C env nm sc σ mt s.heap)(hi:(i,c)∈sc)(he:σ.getD i none=some av)
  (hd:(nm i==("__classdict__":Str))=false)
  (h:∀v,an C s.heap av.read v->Q v s):WP B A (loadName env (nm i)) Q s:=by
 refine aP S.ex λm F e=>?_;refine cL (e i c hi) λk a=>?_;replace a:=he▸a;have key:∃v,m (nm i)=some v/\an C s.heap av.read v:=by
  cases av with
  |val p=>obtain⟨_,v,e,r⟩:=a;exact⟨v,e,r⟩
  |own xs=>obtain⟨_,a,vs,n,e,q,g,r⟩:=a;exact⟨.ref a,e,a,vs,n,rfl,S.vol.fx a (S.mF i a q),λz=>S.vol.lf a z (S.mF i a q),g,r⟩
 refine aP key ?_;clear key;intro v ev r;have held:∀{ca},(env.kindOf (nm i)=some .cell\/env.kindOf (nm i)=some .free)->env.cells.lookup (nm i)=some ca->WP B A (loadName env (nm i)) Q s:=λ{ca} k hc=>by
  have hcell:=F.cell (nm i) ca k hc;replace hcell:=ev▸hcell;rcases k with k|k
  ·exact wpAny_loadName_cell F.kind k hc hcell (h v r)
  ·exact wpAny_loadName_free F.kind k hc hcell (h v r) hd
 cases c with
 |loc=>refine aP F.ns λml hn q=>?_;exact wpAny_loadName_local F.kind k hn ((q _ k).trans ev) (h v r)
 |cell=>obtain⟨k,ca,hc,_⟩:=k;exact held k hc
 |cap=>obtain⟨k,ca,hc,_⟩:=k;exact held k hc
theorem A6{h₀:Heap}{x:Str}{v:Value}{Q:aJ Value}(S:dY B C env nm sc σ mt h₀)(V:cV B C s.heap)(hk:env.kindOf x=some .globalImplicit)
  (hv:(B.mg x).or (B.mb x)=some v) (h:Q v s):WP B A (loadName env x) Q s:=by
 refine aP S.ex λm F e=>?_;have hg:s.heap.Ns env.globals B.mg:=F.gl▸B.gns.keeps V.base;have hb:s.heap.Ns env.builtins B.mb:=F.bt▸B.bns.keeps V.base;unfold loadName;simp only[Env.blockKind,F.kind,hk,ScopeKind.isAnnotationScope,Bool.false_and,Bool.false_eq_true,if_false];unfold loadGlobal;refine wpAny_bind (wpAny_nsGet hg ?_);cases e1:B.mg x with
 |some u=>replace hv:=e1▸hv;replace hv:=iS hv;subst hv;exact wpAny_pure h
 |none=>replace hv:=e1▸hv;refine wpAny_bind (wpAny_nsGet hb ?_);rw[show B.mb x=some v from hv];exact wpAny_pure h
theorem dY.loadG{x:Str}{v:Value}{Q:aJ Value}(S:dY B C env nm sc σ mt s.heap)(hk:env.kindOf x=some .globalImplicit)
  (hv:(B.mg x).or (B.mb x)=some v) (h:Q v s):WP B A (loadName env x) Q s:=A6 S S.vol hk hv h
noncomputable abbrev Cx.add(C:Cx)(a:Addr):Cx:={ C with F:=λb=>C.F b\/b=a }
theorem an.addF{C:Cx}{h:Heap}{a:Addr}(ha:h.get? a=none){p:PV}{v:Value}(c:clean p=true)(r:an C h p v):an (C.add a) h p v:=
 r.move (C:=C) (C':=C.add a) (λb o x f l g=>⟨x,λ(q:C.F b\/b=a)=>q.elim f (λe=>by replace g:=e▸g;replace g:=ha▸g;exact nS g),l,g⟩) (λ_ e=>e) c
theorem aH.addF{C:Cx}{h:Heap}{a:Addr}(ha:h.get? a=none){p:List PV}{v:List Value}(c:aA p=true)(r:aH C h p v):aH (C.add a) h p v:=
 r.move (C:=C) (C':=C.add a) (λb o x f l g=>⟨x,λ(q:C.F b\/b=a)=>q.elim f (λe=>by replace g:=e▸g;replace g:=ha▸g;exact nS g),l,g⟩) (λ_ e=>e) c
theorem dY.addF{h₀ h:Heap}{a:Addr}(S:dY B C env nm sc σ mt h₀)(S':dY B C env nm sc σ mt h)(ha:h₀.get? a=none)(hk:∀b o,C.hl≠some b->h₀.get? b=some o->h.get? b=some o)(hg:h.get? a≠none):dY B (C.add a) env nm sc σ mt h where
 vol:={
  base:=S'.vol.base
  baseX:=S.vol.baseX
  baseF:=λb x=>x.elim (S.vol.baseF b) λe=>by
   subst e;cases q:B.hb.get? b with
   |none=>rfl
   |some o=>replace ha:=S.vol.base b o q▸ha;exact sN ha
  baseL:=S.vol.baseL
  liveX:=S'.vol.liveX
  liveF:=λb x=>x.elim (S'.vol.liveF b) λe=>e▸hg
  liveL:=S'.vol.liveL
  fx:=λb x=>x.elim (S.vol.fx b) λe q=>by subst e;exact S.vol.liveX b q ha
  lf:=λb x=>λq=>q.elim (S.vol.lf b x) λe=>by subst e;exact S.vol.liveL b x ha
  lx:=S.vol.lx }
 fF:=.inl S.fF
 cF:=λx b e=>(S.cF x b e).imp .inl id
 mF:=λi b q=>.inl (S.mF i b q)
 mlist:=S'.mlist
 minj:=S.minj
 ex:=by
  refine aP S.ex λm F e=>?_;have hm:∀i a,(i,a)∈mt->C.hl≠some a:=λi a q z=>S.vol.lf a z (S.mF i a q);refine⟨m,F.keep (λa=>C.F a\/C.X a) (.inl S.fF) S.cF λa o x g=>hk a o (λz=>x.elim (S.vol.lf a z) (S.vol.lx a z)) g,λi c q=>⟨?_,?_⟩⟩
  ·have k:=(e i c q).1;cases c with
   |loc=>exact k
   |cell=>obtain⟨k,ca,hc,f⟩:=k;exact⟨k,ca,hc,.inl f⟩
   |cap=>exact k
  have y:=(e i c q).2;cases z:σ.getD i none with
  |none=>trivial
  |some av=>
   replace y:=z▸y;cases av with
   |val p=>obtain⟨c,v,e,r⟩:=y;exact⟨c,v,e,(r.addF ha c).keep (C:=C.add a) hk⟩
   |own xs=>obtain⟨c,b,vs,n,e,q,g,r⟩:=y;exact⟨c,b,vs,n,e,q,hk b _ (hm i b q) g,(r.addF ha c).keep (C:=C.add a) hk⟩
structure eR(C:Cx)(s s':Shared):Prop where
 gens:s'.gens=s.gens
 drawn:s'.drawn=s.drawn
 os:s'.os=s.os
 keep:∀a o,¬C.F a->C.hl≠some a->s.heap.get? a=some o->s'.heap.get? a=some o
 live:∀a,s.heap.get? a≠none->s'.heap.get? a≠none
noncomputable def bU(nm:Nat->Str)(sc:SC):Prop:=∀i c j d,(i,c)∈sc->(j,d)∈sc->nm i=nm j->i=j
theorem iF{σ:aF}{i:Nat}{x:Option AV}(h:i<σ.length):(σ.set i x).getD i none=x:=by simp[List.getD,h]
theorem kA{σ:aF}{i j:Nat}{x:Option AV}(h:i≠j):(σ.set i x).getD j none=σ.getD j none:=by simp[List.getD,h]
theorem qx.but{C:Cx}{mt mt':List (Nat×Addr)}{h h':Heap}{mv:Option Value}{i:Nat}(hk:∀a o,¬C.F a->C.hl≠some a->h.get? a=some o->h'.get? a=some o)
  (hm:∀a,(i,a)∈mt->(i,a)∈mt'/\∀vs n,h.get? a=some (aT vs n)->h'.get? a=some (aT vs n)):
  ∀{x:Option AV},qx C mt h mv i x->qx C mt' h' mv i x
 |none,_=>trivial
 |some (.val _),⟨c,v,e,r⟩=>⟨c,v,e,r.move (λb o x f l g=>⟨x,f,l,hk b o f l g⟩) (λ_ e=>e) c⟩
 |some (.own _),⟨c,a,vs,n,e,q,g,r⟩=>⟨c,a,vs,n,e,(hm a q).1,(hm a q).2 vs n g,r.move (λb o x f l g=>⟨x,f,l,hk b o f l g⟩) (λ_ e=>e) c⟩
noncomputable def GX(C:Cx)(mt:List (Nat×Addr))(h:Heap)(v:Value)(i:Nat):AV->Prop
 |.val p=>clean p=true/\an C h p v
 |.own xs=>Jy C h v (λa=>a∉mt.map (·.2)) xs
noncomputable def vi(mt:List (Nat×Addr))(i:Nat)(v:Value):AV->List (Nat×Addr)
 |.val _=>mt.filter (·.1 != i)
 |.own _=>match v with|.ref a=>(i,a) :: mt.filter (·.1 != i)|_=>mt.filter (·.1 != i)
theorem dY.store{i:Nat}{c:Kd}{v:Value}{av:AV}{Q:aJ Unit}(S:dY B C env nm sc σ mt s.heap)(hi:(i,c)∈sc)(hn:bU nm sc)(hl:i<σ.length)(hcap:c≠.cap)
  (hv:GX C mt s.heap v i av)
  (h:∀s',dY B C env nm sc (σ.set i (some av)) (vi mt i v av) s'.heap->eR C s s'->(∀a vs n,s.heap.get? a=some (aT vs n)->s'.heap.get? a=some (aT vs n))->Q () s'):
  WP B A (storeName env (nm i) v) Q s:=by
 refine aP S.ex λm F e=>?_;have key:∀(h':Heap) (t:Nat) (z:Addr),C.F z->Heap.SameBut z s.heap h'->(∀vs n,s.heap.get? z≠some (aT vs n))->HG env h' (λx=>if x=nm i then some v else m x)->(∀a,s.heap.get? a≠none->h'.get? a≠none) ->
   Q () { s with heap:=h',toks:=t }:=by
  intro h' t z hz hs hnl F' hlive;have hk:∀a o,¬C.F a->C.hl≠some a->s.heap.get? a=some o->h'.get? a=some o:=λa o f _ g=>(hs.2 a λq=>f (q▸hz)).trans g;have hL:∀a vs n,s.heap.get? a=some (aT vs n)->h'.get? a=some (aT vs n):=λa vs n g=>by
   by_cases q:a=z
   ·subst q;exact absurd g (hnl vs n)
   ·exact(hs.2 a q).trans g
  refine h { s with heap:=h',toks:=t } ?_ ⟨rfl,rfl,rfl,hk,hlive⟩ hL;have hmt:∀j a,(j,a)∈vi mt i v av->((j,a)∈mt/\j≠i)\/(j=i/\v=.ref a/\∃xs,av=.own xs):=by
   intro j a q;have fil:∀{j a},(j,a)∈mt.filter (·.1 != i)->(j,a)∈mt/\j≠i:=λq=>by simpa using cf.mp q
   cases av with
   |val p=>exact .inl (fil q)
   |own xs=>
    obtain⟨_,b,_,_,rfl,_⟩:=hv;rcases ah.mp q with q|q
    ·cases q;exact .inr ⟨rfl,rfl,xs,rfl⟩
    ·exact .inl (fil q)
  refine⟨?_,S.fF,S.cF,?_,?_,?_,_,F',λj d hj=>⟨(e j d hj).1,?_⟩⟩
  ·exact⟨λa o g=>(hs.2 a (λq=>by replace g:=q▸g;replace g:=S.vol.baseF z hz▸g;exact nS g)).trans (S.vol.base a o g),S.vol.baseX,S.vol.baseF,S.vol.baseL,λa x=>hlive a (S.vol.liveX a x),λa x=>hlive a (S.vol.liveF a x),
    λa x=>hlive a (S.vol.liveL a x),S.vol.fx,S.vol.lf,S.vol.lx⟩
  ·intro j a q;rcases hmt j a q with⟨q,_⟩|⟨_,rfl,xs,rfl⟩
   ·exact S.mF j a q
   ·obtain⟨_,b,_,_,hb,f,_⟩:=hv;cases hb;exact f
  ·intro j a q;rcases hmt j a q with⟨q,_⟩|⟨_,rfl,xs,rfl⟩
   ·refine eV (S.mlist j a q) λvs n g=>?_;exact⟨vs,n,hL a vs n g⟩
   ·obtain⟨_,b,vs,n,hb,_,_,g,_⟩:=hv;cases hb;exact⟨vs,n,hL _ vs n g⟩
  ·intro j k a q1 q2;rcases hmt j a q1 with⟨u1,n1⟩|⟨e1,w1,xs,x1⟩<;>rcases hmt k a q2 with⟨u2,n2⟩|⟨e2,w2,ys,x2⟩
   ·exact S.minj j k a u1 u2
   ·subst x2;obtain⟨_,b,_,_,hb,_,nb,_⟩:=hv;replace hb:=w2▸hb;cases hb;exact absurd (dJ (f:=(·.2)) u1) nb
   ·subst x1;obtain⟨_,b,_,_,hb,_,nb,_⟩:=hv;replace hb:=w1▸hb;cases hb;exact absurd (dJ (f:=(·.2)) u2) nb
   ·rw[e1];rw[e2];rfl
  ·by_cases q:i=j
   ·subst q;rw[iF hl];rw[if_pos rfl];cases av with
    |val p=>exact⟨hv.1,v,rfl,hv.2.move (λb o x f l g=>⟨x,f,l,hk b o f l g⟩) (λ_ e=>e) hv.1⟩
    |own xs=>obtain⟨cl,a,vs,n,rfl,f,na,g,r⟩:=hv;exact⟨cl,a,vs,n,rfl,iW,hL a vs n g,r.move (λb o x f l g=>⟨x,f,l,hk b o f l g⟩) (λ_ e=>e) cl⟩
   ·rw[kA q];rw[if_neg λz=>q (hn j d i c hj hi z).symm];refine(e j d hj).2.but hk λa qa=>⟨?_,λvs n g=>hL a vs n g⟩;have:(j,a)∈mt.filter (·.1 != i):=cf.mpr ⟨qa,by simpa using Ne.symm q⟩;cases av with
    |val p=>exact this
    |own xs=>obtain⟨_,b,_,_,rfl,_⟩:=hv;exact bZ _ this
 have live:∀(z:Addr) (h':Heap),Heap.SameBut z s.heap h'->h'.get? z≠none->∀a,s.heap.get? a≠none->h'.get? a≠none:=λz h' hs hz a ha=>by
  by_cases q:a=z
  ·subst q;exact hz
  ·rw[hs.2 a q];exact ha
 have k:=(e i c hi).1;cases c with
 |cap=>exact absurd rfl hcap
 |loc=>
  refine aP F.ns λml hns q=>?_;refine wpAny_storeName_local k hns (λh' hn' hs'=>key h' _ env.locals S.fF hs' ?_ ⟨F.kind,F.gl,F.bt,⟨_,hn',λx hx=>?_⟩,λx ca hk hc=>?_,F.apart⟩ (live _ _ hs' ?_)) (by rw[F.kind];rfl)
  ·refine vr hns ?_;clear hns;intro o es ep ho hd _;intro vs n g;replace g:=ho▸g;replace g:=iS g;subst g;cases hd
  ·refine(?_:(if x=nm i then some v else ml x)=if x=nm i then some v else m x);rw[q x hx];rfl
  ·have hx:x≠nm i:=by rintro rfl;rcases hk with hk|hk<;>(replace hk:=k▸hk;cases hk)
   rw[if_neg hx];refine aP (F.cell x ca hk hc) λo ho hd=>?_;refine⟨o,(hs'.2 ca ?_).trans ho,hd⟩;rintro rfl;refine vr hns ?_;clear hns;intro o' es ep ho' hd' _;replace ho':=ho▸ho';replace ho':=iS ho';subst ho';replace hd':=hd▸hd';cases hd'
  ·refine pJ hn' ?_;clear hn';intro o _ _ ho _;rw[ho];exact λq=>nomatch q
 |cell=>
  obtain⟨k,ca,hc,fca⟩:=k;have hcell:=F.cell (nm i) ca k hc;have go:WP B A (cellOf env (nm i) >>= λa=>cellSet a (some v)) Q s:=by
   refine wpAny_bind (wpAny_cellOf hc (wpAny_cellSet hcell λh' hc' hs'=>?_));have:=key h' s.toks ca fca hs' ?_ ⟨F.kind,F.gl,F.bt,?_,λx cx hk hcx=>?_,F.apart⟩ (live _ _ hs' ?_)
   ·exact this
   ·refine aP hcell ?_;clear hcell;intro o ho hd;intro vs n g;replace g:=ho▸g;replace g:=iS g;subst g;cases hd
   ·refine aP F.ns λml hns q=>?_;refine⟨ml,hns.sameBut hs' ?_,λx hx=>?_⟩
    ·intro z;refine aP hcell ?_;clear hcell;intro o ho hd;refine vr hns ?_;clear hns;intro o' es ep ho' hd' _;replace ho':=z▸ho';replace ho':=ho▸ho';replace ho':=iS ho';subst ho';replace hd':=hd▸hd';cases hd'
    ·have hx':x≠nm i:=by rintro rfl;rcases k with k|k<;>(replace hx:=k▸hx;cases hx)
     rw[if_neg hx'];rw[q x hx];rfl
   ·by_cases hx:x=nm i
    ·subst hx;replace hcx:=hc▸hcx;replace hcx:=iS hcx;subst hcx;simpa using hc'
    ·rw[if_neg hx];exact(F.cell x cx hk hcx).sameBut hs' λz=>hx (F.apart x (nm i) ca (z▸hcx) hc)
   ·refine aP hc' ?_;clear hc';intro o ho _;rw[ho];exact λq=>nomatch q
  unfold storeName;rcases k with k|k
  ·simp only[k,F.kind];exact go
  ·simp only[k,F.kind];exact go
end
section
inductive BF where
 |len|sum|hex|chr|ord|max|bytes|range|enumerate|zip
 deriving DecidableEq
inductive UF where
 |pretty|drawn|read|numbers|words|masks|resolved|isterm|isnon|iseof
 deriving DecidableEq
inductive MF where
 |join|split|index|lower|keys|items|setdefault
 deriving DecidableEq
inductive GI where
 |ntoffset|endmarker
 deriving DecidableEq
noncomputable def BF.nm:BF->Str
 |.len=>"len" | .sum=>"sum" | .hex=>"hex" | .chr=>"chr" | .ord=>"ord" | .max=>"max" | .bytes=>"bytes" | .range=>"range" | .enumerate=>"enumerate" | .zip=>"zip"
noncomputable def UF.nm:UF->Str
 |.pretty=>"pretty_flags" | .drawn=>"_law_drawn" | .read=>"_law_read" | .numbers=>"_law_numbers" | .words=>"_law_words" | .masks=>"_law_masks" | .resolved=>"_law_resolved"
 |.isterm=>"ISTERMINAL" | .isnon=>"ISNONTERMINAL" | .iseof=>"ISEOF"
noncomputable def MF.nm:MF->Str
 |.join=>"join" | .split=>"split" | .index=>"index" | .lower=>"lower" | .keys=>"keys" | .items=>"items" | .setdefault=>"setdefault"
noncomputable def GI.nm:GI->Str
 |.ntoffset=>"NT_OFFSET" | .endmarker=>"ENDMARKER"
noncomputable def GI.val:GI->Int
 |.ntoffset=>256|.endmarker=>0
inductive Tg where
 |one (i:Nat) (p:Pos)
 |many (ts:List (Nat×Pos)) (k:Nat) (p:Pos)
inductive E where
 |cst (c:Const) (k:Nat) (p:Pos)
 |var (i:Nat) (p:Pos)
 |gint (g:GI) (p:Pos)
 |bin (op:Operator) (a b:E) (p:Pos)
 |cmp (op:CmpOp) (a b:E) (p:Pos)
 |neg (a:E) (p:Pos)
 |not (a:E) (p:Pos)
 |bool (op:BoolOp) (es:E) (p:Pos)
 |ite (c a b:E) (p:Pos)
 |nil
 |cons (a b:E)
 |list (es:E) (p:Pos)
 |tuple (es:E) (k:Nat) (p:Pos)
 |sub (a i:E) (p:Pos)
 |slc (a l u s:E) (sp p:Pos)
 |miss
 |callb (f:BF) (fp:Pos) (es:E) (p:Pos)
 |callu (f:UF) (fp:Pos) (es:E) (p:Pos)
 |meth (o:E) (m:MF) (ap:Pos) (es:E) (p:Pos)
 |tokIn (a:E) (tp p:Pos)
 |tokAt (a:E) (tp p:Pos)
 |flagGet (np ap:Pos) (a b:E) (p:Pos)
 |gni (np:Pos) (a:E) (i:Nat) (ip ap:Pos) (b:E) (bp p:Pos)
 |comp (elt:E) (tg:Tg) (src ifs:E) (caps:List Nat) (sc:Scope) (p:Pos)
noncomputable def Tg.toE(nm:Nat->Str):Tg->Expr
 |.one i p=>.Name (nm i) p
 |.many ts k p=>.Tuple (ts.map λt=>.Name (nm t.1) t.2) k p
noncomputable def E.opt:E->Expr->Option Expr
 |.miss,_=>none
 |_,x=>some x
mutual
noncomputable def E.toE(nm:Nat->Str):E->Expr
 |.cst c k p=>.Constant c k p
 |.var i p=>.Name (nm i) p
 |.gint g p=>.Name g.nm p
 |.bin op a b p=>.BinOp (a.toE nm) op (b.toE nm) p
 |.cmp op a b p=>.Compare (a.toE nm) [op] [b.toE nm] p
 |.neg a p=>.UnaryOp .USub (a.toE nm) p
 |.not a p=>.UnaryOp .Not (a.toE nm) p
 |.bool op es p=>.BoolOp op (es.toEs nm) p
 |.ite c a b p=>.IfExp (c.toE nm) (a.toE nm) (b.toE nm) p
 |.list es p=>.List (es.toEs nm) p
 |.tuple es k p=>.Tuple (es.toEs nm) k p
 |.sub a i p=>.Subscript (a.toE nm) (i.toE nm) p
 |.slc a l u s sp p=>.Subscript (a.toE nm) (.Slice (l.opt (l.toE nm)) (u.opt (u.toE nm)) (s.opt (s.toE nm)) sp) p
 |.callb f fp es p=>.Call (.Name f.nm fp) (es.toEs nm) [] p
 |.callu f fp es p=>.Call (.Name f.nm fp) (es.toEs nm) [] p
 |.meth o m ap es p=>.Call (.Attribute (o.toE nm) m.nm ap) (es.toEs nm) [] p
 |.tokIn a tp p=>.Compare (a.toE nm) [.In] [.Name "EXACT_TOKEN_TYPES" tp] p
 |.tokAt a tp p=>.Subscript (.Name "EXACT_TOKEN_TYPES" tp) (a.toE nm) p
 |.flagGet np ap a b p=>.Call (.Attribute (.Name "COMPILER_FLAG_NAMES" np) "get" ap) [a.toE nm,b.toE nm] [] p
 |.gni np a i ip ap b bp p=>.Call (.Name "_get_name_info" np) [a.toE nm,.Attribute (.Name (nm i) ip) "get" ap] [⟨some "default",b.toE nm,bp⟩] p
 |.comp elt tg src ifs _ sc p=>.ListComp (elt.toE nm) [⟨tg.toE nm,src.toE nm,ifs.toEs nm,0⟩] sc p
 |.nil=>.Constant .none 0 ⟨0,0,0,0⟩
 |.cons _ _=>.Constant .none 0 ⟨0,0,0,0⟩
 |.miss=>.Constant .none 0 ⟨0,0,0,0⟩
noncomputable def E.toEs(nm:Nat->Str):E->List Expr
 |.cons a b=>a.toE nm :: b.toEs nm
 |_=>[]
end
theorem mr(nm:Nat->Str)(a b:E):(E.cons a b).toEs nm=a.toE nm :: b.toEs nm:=rfl
noncomputable abbrev cap:Nat:=16777216
noncomputable def fit{α:Type}(n:Nat)(x:Option α):Option α:=bif Nat.ble n cap then x else none
theorem bN{α:Type}{n:Nat}{x:Option α}(h:n<=cap):fit n x=x:=by unfold fit;rw[sB h];rfl
theorem kG{α:Type}{n:Nat}{x:Option α}{y:α}(h:fit n x=some y):n<=cap/\x=some y:=by
 unfold fit at h;cases e:Nat.ble n cap with
 |true=>replace h:=e▸h;exact⟨fn e,h⟩
 |false=>replace h:=e▸h;exact nS h
noncomputable def aw{α:Type}(b:Bool)(x:Option α):Option α:=bif b then x else none
theorem eO{α:Type}{b:Bool}{x:Option α}{y:α}(h:aw b x=some y):b=true/\x=some y:=by
 cases b with
 |true=>exact⟨rfl,h⟩
 |false=>exact nS h
theorem bA{α:Type}{b:Bool}{x:Option α}{y:α}{p:Prop}(h:aw b x=some y)(k:b=true->x=some y->p):p:=k (eO h).1 (eO h).2
theorem jF{α:Type}{n:Nat}{x:Option α}{y:α}{p:Prop}(h:fit n x=some y)(k:n<=cap->x=some y->p):p:=k (kG h).1 (kG h).2
theorem vO{α:Type}{x:Option α}:aw true x=x:=rfl
noncomputable abbrev nu{α:Type}(x:Option α):List PV->Option α
 |[]=>x
 |_=>none
noncomputable abbrev un{α:Type}(k:PV->Option α):List PV->Option α
 |[p]=>k p
 |_=>none
noncomputable abbrev du{α:Type}(k:PV->PV->Option α):List PV->Option α
 |[p,q]=>k p q
 |_=>none
noncomputable abbrev ud{α:Type}(k:PV->Option α)(k2:PV->PV->Option α):List PV->Option α
 |[p]=>k p
 |[p,q]=>k2 p q
 |_=>none
noncomputable abbrev pL{α:Type}(k:List PV->Option α):PV->Option α
 |.list xs=>k xs
 |_=>none
noncomputable abbrev pT{α:Type}(k:List PV->Option α)(k2:PV->Option α):PV->Option α
 |.tuple xs=>k xs
 |q=>k2 q
noncomputable abbrev pS{α:Type}(k:Str->Option α):PV->Option α
 |.str x=>k x
 |_=>none
noncomputable abbrev pN{α:Type}(k:Int->Option α):PV->Option α
 |.int i=>k i
 |_=>none
noncomputable abbrev pU{α:Type}(x:Option α):PV->Option α
 |.tab=>x
 |_=>none
noncomputable abbrev pB{α:Type}(k:Bool->Option α):PV->Option α
 |.bool x=>k x
 |_=>none
noncomputable abbrev Ik{α:Type}(k:Bool->Option α)(k2:Int->Option α):PV->Option α
 |.bool x=>k x
 |.int x=>k2 x
 |_=>none
noncomputable abbrev JJ{α:Type}(k:Int->Option α)(k2:Str->Option α)(k3:PV->Option α):PV->Option α
 |.int i=>k i
 |.str x=>k2 x
 |p=>k3 p
section
variable{α:Type}{r:α}{ps:List PV}{p:PV}{M:List PV->Prop}{N:PV->Prop}
@[elab_as_elim] theorem uI{x:Option α}(e:nu x ps=some r)(h:x=some r->M []):M ps:=by
 cases ps with
 |nil=>exact h e
 |cons _ _=>exact nS e
@[elab_as_elim] theorem eK{k:PV->Option α}(e:un k ps=some r)(h:∀p,k p=some r->M [p]):M ps:=by
 cases ps with
 |nil=>exact nS e
 |cons p t=>
  cases t with
  |nil=>exact h p e
  |cons _ _=>exact nS e
@[elab_as_elim] theorem F4{k:PV->Option α}{k2:PV->PV->Option α}(e:ud k k2 ps=some r)(h:∀p,k p=some r->M [p])(h2:∀p q,k2 p q=some r->M [p,q]):M ps:=by
 cases ps with
 |nil=>exact nS e
 |cons p t=>
  cases t with
  |nil=>exact h p e
  |cons q t=>
   cases t with
   |nil=>exact h2 p q e
   |cons _ _=>exact nS e
@[elab_as_elim] theorem wh{k:PV->PV->Option α}(e:du k ps=some r)(h:∀p q,k p q=some r->M [p,q]):M ps:=by
 cases ps with
 |nil=>exact nS e
 |cons p t=>
  cases t with
  |nil=>exact nS e
  |cons q t=>
   cases t with
   |nil=>exact h p q e
   |cons _ _=>exact nS e
@[elab_as_elim] theorem Bh{k:List PV->Option α}(e:pL k p=some r)(h:∀xs,k xs=some r->N (.list xs)):N p:=by
 cases p with
 |list xs=>exact h xs e
 |_=>exact nS e
@[elab_as_elim] theorem Gk{k:List PV->Option α}{k2:PV->Option α}(e:pT k k2 p=some r)(h:∀xs,k xs=some r->N (.tuple xs))(h2:k2 p=some r->N p):N p:=by
 cases p with
 |tuple xs=>exact h xs e
 |_=>exact h2 e
@[elab_as_elim] theorem i4{k:Str->Option α}(e:pS k p=some r)(h:∀x,k x=some r->N (.str x)):N p:=by
 cases p with
 |str x=>exact h x e
 |_=>exact nS e
@[elab_as_elim] theorem ch{k:Int->Option α}(e:pN k p=some r)(h:∀i,k i=some r->N (.int i)):N p:=by
 cases p with
 |int i=>exact h i e
 |_=>exact nS e
@[elab_as_elim] theorem tl{k:Bool->Option α}(e:pB k p=some r)(h:∀i,k i=some r->N (.bool i)):N p:=by
 cases p with
 |bool i=>exact h i e
 |_=>exact nS e
@[elab_as_elim] theorem yh{k:Bool->Option α}{k2:Int->Option α}(e:Ik k k2 p=some r)(h:∀i,k i=some r->N (.bool i))(h2:∀i,k2 i=some r->N (.int i)):N p:=by
 cases p with
 |bool i=>exact h i e
 |int i=>exact h2 i e
 |_=>exact nS e
@[elab_as_elim] theorem xz{k:Int->Option α}{k2:Str->Option α}{k3:PV->Option α}(e:JJ k k2 k3 p=some r)(h:∀i,k i=some r->N (.int i))(h2:∀i,k2 i=some r->N (.str i))(h3:k3 p=some r->N p):N p:=by
 cases p with
 |int i=>exact h i e
 |str i=>exact h2 i e
 |_=>exact h3 e
end
noncomputable def eU(a:Int):Bool:=decide (a.natAbs<18446744073709551616)
noncomputable def eM:PV->Option (List PV)
 |.list xs=>some xs
 |.view xs=>some xs
 |_=>none
noncomputable def mL:PV->Option (List PV)
 |.list xs=>some xs
 |.view xs=>some xs
 |.tuple xs=>some xs
 |_=>none
noncomputable def eS:PV->Option Bool
 |.bool b=>some b
 |.int i=>some (i != 0)
 |.list xs=>fit xs.length (some (!xs.isEmpty))
 |.view xs=>fit xs.length (some (!xs.isEmpty))
 |_=>none
noncomputable def F7(p q:PV):Option PV:=
 JJ (λa=>pN (λb=>some (.int (a+b))) q) (λa=>pS (λb=>fit (a.length+b.length) (some (.str (a++b)))) q) (λp=>(eM p).bind λxs=>(eM q).bind λys=>fit (xs.length+ys.length) (some (.list (xs++ys)))) p
noncomputable def Ie(xs:List PV):PV->Option PV:=
 Ik (λb=>aw (Nat.ble xs.length 1000) (some (.list (if b=true then xs else[])))) λk=>aw (decide (0<=k)&&decide (k<1000)&&Nat.ble (xs.length) 1000) (some (.list (List.replicate k.toNat xs).flatten))
noncomputable def HV(p q:PV):Option PV:=
 JJ (λa=>Ik (λb=>some (.int (a*if b=true then(1:Int)else 0))) (λb=>aw (eU a||eU b) (some (.int (a*b)))) q) (λ_=>none) (λp=>(eM p).bind λxs=>Ie xs q) p
noncomputable abbrev q6(f:Int->Int->Option Int)(p q:PV):Option PV:=
 pN (λa=>pN (λb=>(f a b).map .int) q) p
noncomputable def gW:Operator->PV->PV->Option PV
 |.Add=>F7
 |.Mult=>HV
 |.Sub=>q6 λa b=>some (a-b)
 |.FloorDiv=>q6 λa b=>aw (b != 0&&eU b) (some (a.fdiv b))
 |.Mod=>q6 λa b=>aw (b != 0) (some (a.fmod b))
 |.Pow=>q6 λa b=>aw (eU a&&decide (0<=b)&&decide (b<1000)) (some (a ^ b.toNat))
 |.LShift=>q6 λa b=>aw (decide (0<=b)&&decide (b<1000)&&eU a) (some (a*2 ^ b.toNat))
 |.RShift=>q6 λa b=>aw (decide (0<=b)) (some (a.fdiv (2 ^ b.toNat)))
 |.BitAnd=>q6 λa b=>some (Builtin.bitAnd a b)
 |.BitOr=>q6 λa b=>some (Builtin.bitOr a b)
 |.BitXor=>q6 λa b=>some (Builtin.bitXor a b)
 |_=>λ_ _=>none
mutual
noncomputable def qn:PV->PyData
 |.bool b=>.bool b
 |.int i=>.int i
 |.str x=>.str x
 |.list xs=>.list (jL xs)
 |.view xs=>.list (jL xs)
 |.tuple xs=>.tuple (jL xs)
 |_=>.none
noncomputable def jL:List PV->List PyData
 |[]=>[]
 |x :: xs=>qn x :: jL xs
end
theorem tJ{x xs}:jL (x :: xs)=(qn x :: jL xs):=rfl
mutual
noncomputable def gU:Nat->PV->Bool
 |_,.none=>true
 |_,.bool _=>true
 |_,.int _=>true
 |_,.str x=>PyData.canLay0 (.str x)
 |n+1,.list xs=>gY n xs
 |n+1,.view xs=>gY n xs
 |n+1,.tuple xs=>gY n xs
 |_,_=>false
noncomputable def gY:Nat->List PV->Bool
 |_,[]=>true
 |n,x :: xs=>gU n x&&gY n xs
end
theorem lR{n x xs}:gY n (x :: xs)=(gU n x&&gY n xs):=rfl
noncomputable def nN:CmpOp->PV->PV->Option Bool
 |.Eq=>λp q=>aw (gU 4 p&&gU 4 q) (some (PyData.eqv (qn p) (qn q)))
 |.NotEq=>λp q=>aw (gU 4 p&&gU 4 q) (some (!PyData.eqv (qn p) (qn q)))
 |.Lt=>λp q=>pN (λa=>pN (λb=>some (decide (a<b))) q) p
 |.LtE=>λp q=>pN (λa=>pN (λb=>some (decide (a<=b))) q) p
 |.Gt=>λp q=>pN (λa=>pN (λb=>some (decide (b<a))) q) p
 |.GtE=>λp q=>pN (λa=>pN (λb=>some (decide (b<=a))) q) p
 |.Is=>λp q=>pB (λa=>pB (λb=>some (a==b)) q) p
 |.IsNot=>λp q=>pB (λa=>pB (λb=>some (a != b)) q) p
 |.In=>λp q=>(mL q).bind λxs=>aw (gU 4 p&&gY 4 xs) (some ((jL xs).any λy=>PyData.eqv y (qn p)))
 |.NotIn=>λp q=>(mL q).bind λxs=>aw (gU 4 p&&gY 4 xs) (some (!(jL xs).any λy=>PyData.eqv y (qn p)))
noncomputable def pc:List PV->Option (List Str)
 |[]=>some []
 |.str x :: r=>(pc r).map (x :: ·)
 |_=>none
noncomputable def hY:List PV->Option (List Int)
 |[]=>some []
 |.int x :: r=>(hY r).map (x :: ·)
 |_=>none
theorem Cn{x r}:hY (.int x :: r)=((hY r).map (x :: ·)):=rfl
noncomputable def fC(xs:List PV)(lo hi st:Option Int):List PV:=
 (sliceRange (sliceBounds lo hi st xs.length).1 (sliceBounds lo hi st xs.length).2.1 (sliceBounds lo hi st xs.length).2.2).filterMap (xs[·]?)
noncomputable def gq(x:Str)(lo hi:Option Int):Str:=
 if ((Builtin.Str.strSliceIndices lo hi 1 x.length).length==x.length)=true then x else⟨((Builtin.Str.strSliceIndices lo hi 1 x.length).filterMap (x.cps[·]?)).toArray⟩
noncomputable def jJ:List PV->List PV->List PV
 |x :: xs,y :: ys=>.tuple [x,y] :: jJ xs ys
 |_,_=>[]
theorem Bw{x xs y ys}:jJ (x :: xs) (y :: ys)=(.tuple [x,y] :: jJ xs ys):=rfl
noncomputable def ii:Int->List PV->List PV
 |_,[]=>[]
 |i,x :: xs=>.tuple [.int i,x] :: ii (i+1) xs
theorem tj{z1}:ii z1 []=([]):=rfl
theorem oP{i x xs}:ii i (x :: xs)=(.tuple [.int i,x] :: ii (i+1) xs):=rfl
noncomputable def dA(a:Int):Nat->List PV
 |0=>[]
 |n+1=>.int a :: dA (a+1) n
theorem qW{a:Int}:dA a 0=([]):=rfl
theorem jo{a:Int}{n}:dA a (n+1)=(.int a :: dA (a+1) n):=rfl
end
noncomputable def Hi:PV->Option Int
 |.list xs=>fit xs.length (some xs.length)
 |.view xs=>fit xs.length (some xs.length)
 |.str x=>fit x.length (some x.length)
 |.bytes b=>fit b.size (some b.size)
 |_=>none
noncomputable def eL:BF->List PV->Option PV
 |.len=>un λp=>(Hi p).map .int
 |.sum=>un (pL λxs=>(hY xs).bind λis=>some (.int is.sum))
 |.hex=>un (pN λi=>aw (Nat.ble (baseText "0x" 16 i).length 100) (some (.str (baseText "0x" 16 i))))
 |.chr=>un (pN λi=>aw (decide (0<=i)&&decide (i<128)) (some (.str ⟨#[i.toNat]⟩)))
 |.ord=>un (pS λx=>match x.cps.toList with
  |[c]=>some (.int (c:Nat))
  |_=>none)
 |.max=>du λp q=>pN (λa=>pN (λb=>some (.int (if a<b then b else a))) q) p
 |.bytes=>un (pL λxs=>(hY xs).bind λis=>aw (Nat.ble xs.length 1000&&is.all λn=>decide (0<=n)&&decide (n<256)) (some (.bytes (byteArr is))))
 |_=>λ_=>none
noncomputable def aS(x:Str):Bool:=Nat.ble x.length 5000&&x.cps.toList.all λc=>Nat.ble 32 c&&Nat.ble c 126
noncomputable def lookT:aC->Str->Option Str
 |[],_=>none
 |(k,v) :: r,x=>bif Txt.lower k==Txt.lower x then some v else lookT r x
noncomputable def fg:aC->Str->aC
 |[],_=>[]
 |(k,v) :: r,x=>bif Txt.lower k==Txt.lower x then fg r x else(k,v) :: fg r x
theorem Ez{k v r x}:fg ((k,v) :: r) x=(bif Txt.lower k==Txt.lower x then fg r x else(k,v) :: fg r x):=rfl
noncomputable def pK:List Str->Str->Nat->Option Nat
 |[],_,_=>none
 |y :: r,x,i=>bif y==x then some i else pK r x (i+1)
theorem EX{y r x i}:pK (y :: r) x i=(bif y==x then some i else pK r x (i+1)):=rfl
noncomputable def jN(T:aC)(k v:Str):Str×aC:=match lookT T k with
 |some u=>(u,T)
 |none=>(v,T++[(k,v)])
noncomputable def Hy(T:aC)(sep:Str)(p:PV):Option (PV×aC):=
 (eM p).bind λxs=>(pc xs).bind λss=>aw (JoinOk sep ss) (some (.str (Txt.join sep ss),T))
noncomputable def Ff(T:aC)(x y:Str):Option (PV×aC):=
 aw (!(y.length==0)&&(Nat.ble x.length 1000&&Nat.ble (Builtin.Str.partsBetween x (Builtin.Str.occurrences x y 0 x.length (x.length+1)) y.length).length 1000)) (some (.list ((Txt.split x y).map .str),T))
noncomputable def wo(T:aC)(x y:Str):Option (PV×aC):=match Builtin.Str.occurrences x y 0 x.length 1 with
 |i :: _=>some (.int (i:Nat),T)
 |[]=>none
noncomputable def xf(T:aC)(xs:List PV)(y:Str):Option (PV×aC):=
 (pc xs).bind λss=>aw (Nat.ble xs.length 1000) ((pK ss y 0).map λi=>(.int (i:Nat),T))
noncomputable def Bs(T:aC)(x:Str):MF->List PV->Option (PV×aC)
 |.join=>un (Hy T x)
 |.split=>un (pS (Ff T x))
 |.index=>un (pS (wo T x))
 |.lower=>nu (aw (Nat.ble x.length 5000) (some (.str (Txt.lower x),T)))
 |_=>λ_=>none
noncomputable def FS(T:aC)(xs:List PV):MF->List PV->Option (PV×aC)
 |.index=>un (pS (xf T xs))
 |_=>λ_=>none
noncomputable def Hn(T:aC):MF->List PV->Option (PV×aC)
 |.keys=>nu (aw (Nat.ble T.length 1000) (some (.list (T.map λr=>.str r.1),T)))
 |.items=>nu (aw (Nat.ble T.length 1000) (some (.list (T.map λr=>.tuple [.str r.1,.str r.2]),T)))
 |.setdefault=>du λp q=>pS (λk=>pS (λv=>aw (aS k&&(aS v&&Nat.ble T.length 1000)) (some (.str (jN T k v).1,(jN T k v).2))) q) p
 |_=>λ_=>none
noncomputable def mH(m:MF)(o:PV)(ps:List PV)(T:aC):Option (PV×aC):=match o with
 |.str x=>Bs T x m ps
 |.list xs=>FS T xs m ps
 |.tab=>Hn T m ps
 |_=>none
noncomputable def ce{α:Type}:List (Str×α)->Str->Option α
 |[],_=>none
 |(k,v) :: r,x=>bif k==x then some v else ce r x
theorem vo{α:Type}{k v r x}:ce (α:=α) ((k,v) :: r) x=(bif k==x then some v else ce r x):=rfl
noncomputable def gJ{α:Type}:List (Int×α)->Int->Option α
 |[],_=>none
 |(k,v) :: r,x=>bif k==x then some v else gJ r x
theorem Bj{α:Type}{k v r x}:gJ (α:=α) ((k,v) :: r) x=(bif k==x then some v else gJ r x):=rfl
noncomputable def dN:List (Str×Int):=[(⟨#[33]⟩,54),(⟨#[33,61]⟩,28),(⟨#[37]⟩,24),(⟨#[37,61]⟩,40),(⟨#[38]⟩,19),(⟨#[38,61]⟩,41),(⟨#[40]⟩,7),(⟨#[41]⟩,8),(⟨#[42]⟩,16),(⟨#[42,42]⟩,35),(⟨#[42,42,61]⟩,46),(⟨#[42,61]⟩,38),(⟨#[43]⟩,14),(⟨#[43,61]⟩,36),(⟨#[44]⟩,12),(⟨#[45]⟩,15),(⟨#[45,61]⟩,37),(⟨#[45,62]⟩,51),(⟨#[46]⟩,23),(⟨#[46,46,46]⟩,52),(⟨#[47]⟩,17),(⟨#[47,47]⟩,47),(⟨#[47,47,61]⟩,48),(⟨#[47,61]⟩,39),(⟨#[58]⟩,11),(⟨#[58,61]⟩,53),(⟨#[59]⟩,13),(⟨#[60]⟩,20),(⟨#[60,60]⟩,33),(⟨#[60,60,61]⟩,44),(⟨#[60,61]⟩,29),(⟨#[61]⟩,22),(⟨#[61,61]⟩,27),(⟨#[62]⟩,21),(⟨#[62,61]⟩,30),(⟨#[62,62]⟩,34),(⟨#[62,62,61]⟩,45),(⟨#[64]⟩,49),(⟨#[64,61]⟩,50),(⟨#[91]⟩,9),(⟨#[93]⟩,10),(⟨#[94]⟩,32),(⟨#[94,61]⟩,43),(⟨#[123]⟩,25),(⟨#[124]⟩,18),(⟨#[124,61]⟩,42),(⟨#[125]⟩,26),(⟨#[126]⟩,31)]
noncomputable def jK:List (Int×Str):=[(1,"OPTIMIZED"),(2,"NEWLOCALS"),(4,"VARARGS"),(8,"VARKEYWORDS"),(16,"NESTED"),(32,"GENERATOR"),(64,"NOFREE"),(128,"COROUTINE"),(256,"ITERABLE_COROUTINE"),(512,"ASYNC_GENERATOR")]
noncomputable def JC(i:Int):PV->Option PV
 |.str x=>aw (decide (0<=i)&&decide (i<1000)) ((x.cps[i.toNat]?).map λc=>.str ⟨#[c]⟩)
 |.list xs=>aw (decide (0<=i)&&decide (i<1000000)) (xs[i.toNat]?)
 |.view xs=>aw (decide (0<=i)&&decide (i<1000000)) (xs[i.toNat]?)
 |.tuple xs=>aw (decide (0<=i)&&decide (i<1000000)) (xs[i.toNat]?)
 |_=>none
noncomputable def kn(o q:PV):Option PV:=pN (λi=>JC i o) q
noncomputable def yK:PV->Option (Option Int)
 |.none=>some none
 |.int i=>some (some i)
 |_=>none
noncomputable def zj(o l u s:PV):Option PV:=
 (yK l).bind λlo=>(yK u).bind λhi=>(yK s).bind λst=>match o with
  |.str x=>aw (st==none&&Nat.ble (gq x lo hi).length 100000) (some (.str (gq x lo hi)))
  |.list xs=>aw (!(st==some 0)) (fit xs.length (some (.list (fC xs lo hi st))))
  |.view xs=>aw (!(st==some 0)) (fit xs.length (some (.list (fC xs lo hi st))))
  |.arg xs=>aw (!(st==some 0)) (fit xs.length (some (.list (fC xs lo hi st))))
  |_=>none
noncomputable def aq:aF->List (Nat×Pos)->List PV->Option aF
 |σ,[],[]=>some σ
 |σ,t :: ts,p :: ps=>aw (clean p) (aq (σ.set t.1 (some (.val p))) ts ps)
 |_,_,_=>none
noncomputable def cN(σ:aF):Tg->PV->Option aF
 |.one i _,p=>aw (clean p) (some (σ.set i (some (.val p))))
 |.many ts _ _,.tuple ps=>aq σ ts ps
 |_,_=>none
noncomputable def iG(caps:List Nat):Nat->aF->aF
 |_,[]=>[]
 |i,a :: r=>(match caps.contains i,a with|true,some (.val p)=>some (.val p)|_,_=>none) :: iG caps (i+1) r
theorem pb{caps:List Nat}{z1}:iG caps z1 []=([]):=rfl
theorem uZ{caps:List Nat}{i a r}:iG caps i (a :: r)=((match caps.contains i,a with|true,some (.val p)=>some (.val p)|_,_=>none) :: iG caps (i+1) r):=rfl
noncomputable def jT(caps:List Nat)(σ:aF):aF:=iG caps 0 σ
noncomputable def bq(ifs:aF->aC->Option (Bool×aC))(elt:aF->aC->Option (PV×aC))(tg:Tg):List PV->aF->aC->Option (List PV×aC)
 |[],_,T=>some ([],T)
 |x :: xs,σ,T=>(cN σ tg x).bind λσ'=>(ifs σ' T).bind λr=>match r.1 with
  |false=>bq ifs elt tg xs σ' r.2
  |true=>(elt σ' r.2).bind λy=>aw (clean y.1) ((bq ifs elt tg xs σ' y.2).map λz=>(y.1 :: z.1,z.2))
theorem vv{ifs:aF->aC->Option (Bool×aC)}{elt:aF->aC->Option (PV×aC)}{tg:Tg}{x xs σ T}:bq ifs elt tg (x :: xs) σ T=((cN σ tg x).bind λσ'=>(ifs σ' T).bind λr=>match r.1 with
  |false=>bq ifs elt tg xs σ' r.2
  |true=>(elt σ' r.2).bind λy=>aw (clean y.1) ((bq ifs elt tg xs σ' y.2).map λz=>(y.1 :: z.1,z.2))):=rfl
noncomputable def BC:Const->Option PV
 |.none=>some .none
 |.bool b=>some (.bool b)
 |.int i=>some (.int i)
 |.str x=>some (.str x)
 |_=>none
noncomputable def Ha:PV->Option PV
 |.int i=>some (.int (-i))
 |_=>none
noncomputable def Gb:PV->Option PV
 |.str x=>some (.bool (ce dN x).isSome)
 |_=>none
noncomputable def wb:PV->Option PV
 |.str x=>(ce dN x).map .int
 |_=>none
noncomputable def AL:PV->PV->Option PV
 |.int i,.str x=>aw (decide (0<=i)&&eU i) (some (.str ((gJ jK i).getD x)))
 |_,_=>none
noncomputable def CJ:PV->Option AV->PV->aC->Option PV
 |.str x,some (.val .tab),.str d,T=>aw (aS x&&(aS d&&Nat.ble T.length 1000)) (some (.tuple [.str ((lookT T x).getD d),.str ((lookT T x).getD d)]))
 |_,_,_,_=>none
noncomputable def sh:BF->List PV->Option (List PV)
 |.range=>ud (pN λn=>aw (decide (0<=n)&&decide (n<1000000)) (some (dA 0 n.toNat))) λp q=>pN (λa=>pN (λn=>aw (decide (0<=a)&&(decide (a<=n)&&decide (n<1000000))) (some (dA a (n-a).toNat))) q) p
 |.enumerate=>un λp=>(eM p).bind λxs=>aw (aA xs) (fit xs.length (some (ii 0 xs)))
 |.zip=>du λp q=>(eM p).bind λxs=>pT (λys=>aw (aA xs&&(aA ys&&Nat.ble xs.length ys.length)) (fit (xs.length+ys.length) (some (jJ xs ys)))) (λq=>(eM q).bind λys=>aw (aA xs&&aA ys) (fit (xs.length+ys.length) (some (jJ xs ys)))) q
 |_=>λ_=>none
noncomputable def fN:PV->Bool
 |.view _=>false
 |_=>true
noncomputable def HK(op:BoolOp)(t:Bool):Bool:=match op,t with
 |.And,false=>true
 |.Or,true=>true
 |_,_=>false
noncomputable abbrev fA:=UF->List PV->aC->Option (PV×aC)
noncomputable abbrev Ev:=aF->aC->Option (PV×aC)
structure Sm where
 ev:Ev:=λ_ _=>none
 evs:aF->aC->Option (List PV×aC):=λ_ _=>none
 evT:aF->aC->Option (Bool×aC):=λ_ _=>none
 evAll:BoolOp->aF->aC->Option (Bool×aC):=λ_ _ _=>none
 evOr:BoolOp->Ev:=λ_ _ _=>none
 evIfs:aF->aC->Option (Bool×aC):=λ_ _=>none
 evSrc:aF->aC->Option ((List PV×Bool)×aC):=λ_ _=>none
noncomputable def Sm.val(f:Ev):Sm where
 ev:=f
 evT:=λσ T=>(f σ T).bind λp=>(eS p.1).map (·,p.2)
 evSrc:=λσ T=>(f σ T).bind λp=>(mL p.1).bind λxs=>aw (aA xs) (fit xs.length (some ((xs,fN p.1),p.2)))
noncomputable def E.isNil:E->Bool
 |.nil=>true
 |_=>false
noncomputable def E.sm(Φ:fA):E->Sm
 |.cst c _ _=>.val λ_ T=>(BC c).map (·,T)
 |.var i _=>.val λσ T=>(σ.getD i none).map λa=>(a.read,T)
 |.gint g _=>.val λ_ T=>some (.int g.val,T)
 |.bin op a b _=>.val λσ T=>((a.sm Φ).ev σ T).bind λp=>((b.sm Φ).ev σ p.2).bind λq=>(gW op p.1 q.1).map (·,q.2)
 |.cmp op a b _=>.val λσ T=>((a.sm Φ).ev σ T).bind λp=>((b.sm Φ).ev σ p.2).bind λq=>(nN op p.1 q.1).map (.bool ·,q.2)
 |.neg a _=>.val λσ T=>((a.sm Φ).ev σ T).bind λp=>(Ha p.1).map (·,p.2)
 |.not a _=>{ evT:=λσ T=>((a.sm Φ).evT σ T).map λr=>(!r.1,r.2) }
 |.bool op es _=>{ ev:=(es.sm Φ).evOr op,evT:=(es.sm Φ).evAll op }
 |.ite c a b _=>{ ev:=λσ T=>((c.sm Φ).evT σ T).bind λt=>match t.1 with
  |true=>(a.sm Φ).ev σ t.2
  |false=>(b.sm Φ).ev σ t.2 }
 |.list es _=>.val λσ T=>((es.sm Φ).evs σ T).bind λps=>aw (aA ps.1) (fit ps.1.length (some (.list ps.1,ps.2)))
 |.tuple es _ _=>.val λσ T=>((es.sm Φ).evs σ T).bind λps=>fit ps.1.length (some (.tuple ps.1,ps.2))
 |.sub a i _=>.val λσ T=>((a.sm Φ).ev σ T).bind λp=>((i.sm Φ).ev σ p.2).bind λq=>(kn p.1 q.1).map (·,q.2)
 |.slc a l u s _ _=>.val λσ T=>((a.sm Φ).ev σ T).bind λo=>((l.sm Φ).ev σ o.2).bind λl=>((u.sm Φ).ev σ l.2).bind λu=>((s.sm Φ).ev σ u.2).bind λs=>(zj o.1 l.1 u.1 s.1).map (·,s.2)
 |.miss=>{ ev:=λ_ T=>some (.none,T) }
 |.callb f _ es _=>{ Sm.val (λσ T=>((es.sm Φ).evs σ T).bind λps=>(eL f ps.1).map (·,ps.2))with
  evSrc:=λσ T=>((es.sm Φ).evs σ T).bind λps=>(sh f ps.1).map λxs=>((xs,ps.1.all fN),ps.2) }
 |.callu f _ es _=>.val λσ T=>((es.sm Φ).evs σ T).bind λps=>aw (aA ps.1) (Φ f ps.1 ps.2)
 |.meth o m _ es _=>.val λσ T=>((o.sm Φ).ev σ T).bind λp=>((es.sm Φ).evs σ p.2).bind λps=>mH m p.1 ps.1 ps.2
 |.tokIn a _ _=>.val λσ T=>((a.sm Φ).ev σ T).bind λp=>(Gb p.1).map (·,p.2)
 |.tokAt a _ _=>.val λσ T=>((a.sm Φ).ev σ T).bind λp=>(wb p.1).map (·,p.2)
 |.flagGet _ _ a b _=>.val λσ T=>((a.sm Φ).ev σ T).bind λp=>((b.sm Φ).ev σ p.2).bind λq=>(AL p.1 q.1).map (·,q.2)
 |.gni _ a i _ _ b _ _=>.val λσ T=>((a.sm Φ).ev σ T).bind λp=>((b.sm Φ).ev σ p.2).bind λq=>(CJ p.1 (σ.getD i none) q.1 q.2).map (·,q.2)
 |.comp elt tg src ifs caps _ _=>.val λσ T=>((src.sm Φ).evSrc σ T).bind λxs=>
   fit xs.1.1.length ((bq (ifs.sm Φ).evIfs (elt.sm Φ).ev tg xs.1.1 (jT caps σ) xs.2).map λys=>(.list ys.1,ys.2))
 |.nil=>{ evs:=λ_ T=>some ([],T),evAll:=λop _ T=>some (op==.And,T),evIfs:=λ_ T=>some (true,T) }
 |.cons a b=>{
   evs:=λσ T=>((a.sm Φ).ev σ T).bind λp=>((b.sm Φ).evs σ p.2).map λq=>(p.1 :: q.1,q.2)
   evAll:=λop σ T=>((a.sm Φ).evT σ T).bind λt=>match HK op t.1 with
    |true=>some (t.1,t.2)
    |false=>(b.sm Φ).evAll op σ t.2
   evOr:=λop σ T=>((a.sm Φ).ev σ T).bind λp=>match b.isNil with
    |true=>some p
    |false=>(eS p.1).bind λt=>match HK op t with
     |true=>some p
     |false=>(b.sm Φ).evOr op σ p.2
   evIfs:=λσ T=>match b.isNil with
    |true=>(a.sm Φ).evT σ T
    |false=>none }
inductive S where
 |assign (i:Nat) (np:Pos) (e:E) (p:Pos)
 |own (i:Nat) (np:Pos) (es:E) (lp p:Pos)
 |unpack (ts:List (Nat×Pos)) (k:Nat) (tp:Pos) (e:E) (p:Pos)
 |unpackD (ts:List (Nat×Pos)) (k:Nat) (tp:Pos) (es:E) (own:List Bool) (ek:Nat) (ep p:Pos)
 |aug (i:Nat) (np:Pos) (op:Operator) (e:E) (p:Pos)
 |append (i:Nat) (xp ap:Pos) (e:E) (cp p:Pos)
 |extend (i:Nat) (xp ap:Pos) (e:E) (cp p:Pos)
 |appendPop (i:Nat) (xp ap:Pos) (j:Nat) (jp jap:Pos) (e:E) (jcp cp p:Pos)
 |expr (e:E) (p:Pos)
 |delT (i:Nat) (ip:Pos) (e:E) (sp p:Pos)
 |tempApp (i:Nat) (ip iap icp ap:Pos) (e:E) (cp p:Pos)
 |ite (c:E) (a b:S) (p:Pos)
 |for_ (tg:Tg) (src:E) (body els:S) (p:Pos)
 |ret (e:E) (p:Pos)
 |brk (p:Pos)
 |nil
 |seq (a b:S)
 deriving Inhabited
noncomputable def tN(nm:Nat->Str)(ts:List (Nat×Pos)):List Expr:=ts.map λt=>.Name (nm t.1) t.2
mutual
noncomputable def S.toS(nm:Nat->Str):S->Stmt
 |.assign i np e p=>.Assign [.Name (nm i) np] (e.toE nm) p
 |.own i np es lp p=>.Assign [.Name (nm i) np] (.List (es.toEs nm) lp) p
 |.unpack ts k tp e p=>.Assign [.Tuple (tN nm ts) k tp] (e.toE nm) p
 |.unpackD ts k tp es _ ek ep p=>.Assign [.Tuple (tN nm ts) k tp] (.Tuple (es.toEs nm) ek ep) p
 |.aug i np op e p=>.AugAssign (.Name (nm i) np) op (e.toE nm) p
 |.append i xp ap e cp p=>.Expr (.Call (.Attribute (.Name (nm i) xp) "append" ap) [e.toE nm] [] cp) p
 |.extend i xp ap e cp p=>.Expr (.Call (.Attribute (.Name (nm i) xp) "extend" ap) [e.toE nm] [] cp) p
 |.appendPop i xp ap j jp jap e jcp cp p=>
   .Expr (.Call (.Attribute (.Name (nm i) xp) "append" ap) [.Call (.Attribute (.Name (nm j) jp) "pop" jap) [e.toE nm] [] jcp] [] cp) p
 |.expr e p=>.Expr (e.toE nm) p
 |.delT i ip e sp p=>.Delete [.Subscript (.Name (nm i) ip) (e.toE nm) sp] p
 |.tempApp i ip iap icp ap e cp p=>
   .Expr (.Call (.Attribute (.Call (.Attribute (.Name (nm i) ip) "items" iap) [] [] icp) "append" ap) [e.toE nm] [] cp) p
 |.ite c a b p=>.If (c.toE nm) (a.toSs nm) (b.toSs nm) p
 |.for_ tg src body els p=>.For (tg.toE nm) (src.toE nm) (body.toSs nm) (els.toSs nm) p
 |.ret e p=>.Return (some (e.toE nm)) p
 |.brk p=>.Break p
 |.nil=>.Pass ⟨0,0,0,0⟩
 |.seq _ _=>.Pass ⟨0,0,0,0⟩
noncomputable def S.toSs(nm:Nat->Str):S->List Stmt
 |.seq a b=>a.toS nm :: b.toSs nm
 |_=>[]
end
theorem Fr(nm:Nat->Str)(a b:S):(S.seq a b).toSs nm=a.toS nm :: b.toSs nm:=rfl
inductive Fl where
 |next|brk|ret (p:PV)
 deriving Inhabited
structure AE where
 fl:Fl
 σ:aF
 T:aC
noncomputable abbrev Ex:=aF->aC->Option AE
noncomputable def cU(tg:Tg)(body els:Ex):List PV->Ex
 |[],σ,T=>els σ T
 |x :: xs,σ,T=>(cN σ tg x).bind λσ'=>(body σ' T).bind λo=>match o.fl with
  |.next=>cU tg body els xs o.σ o.T
  |.brk=>some ⟨.next,o.σ,o.T⟩
  |.ret p=>some ⟨.ret p,o.σ,o.T⟩
theorem gw{tg:Tg}{body els:Ex}{x xs σ T}:cU tg body els (x :: xs) σ T=((cN σ tg x).bind λσ'=>(body σ' T).bind λo=>match o.fl with
  |.next=>cU tg body els xs o.σ o.T
  |.brk=>some ⟨.next,o.σ,o.T⟩
  |.ret p=>some ⟨.ret p,o.σ,o.T⟩):=rfl
noncomputable def hU:aF->List (Nat×Pos)->List PV->List Bool->Option aF
 |σ,[],[],[]=>some σ
 |σ,t :: ts,p :: ps,b :: bs=>match b,p with
  |true,.list xs=>hU (σ.set t.1 (some (.own xs))) ts ps bs
  |true,_=>none
  |false,p=>aw (clean p) (hU (σ.set t.1 (some (.val p))) ts ps bs)
 |_,_,_,_=>none
noncomputable def E.isList:E->Bool
 |.list _ _=>true
 |_=>false
noncomputable def mj:E->List Bool->Bool
 |.nil,[]=>true
 |.cons a b,f :: bs=>(!f||a.isList)&&mj b bs
 |_,_=>false
noncomputable def fL(σ:aF)(i:Nat):Option (List PV):=match σ.getD i none with
 |some (.own xs)=>some xs
 |_=>none
noncomputable def mG(σ:aF)(i:Nat):Bool:=match σ.getD i none with
 |some (.val .tab)=>true
 |_=>false
noncomputable def Hh(σ:aF)(i:Nat)(xs:List PV)(p:PV):Option aF:=match p with
 |.list ys=>aw (aA ys) (fit (xs.length+ys.length) (some (σ.set i (some (.own (xs++ys))))))
 |_=>none
theorem B9{σ σ':aF}{i:Nat}{xs:List PV}{p:PV}(e:Hh σ i xs p=some σ'):∃ys,p=.list ys/\aA ys=true/\xs.length+ys.length<=cap/\σ'=σ.set i (some (.own (xs++ys))):=by
 cases p<;>try exact nS e
 rename_i ys
 refine bA e λc e=>?_;refine jF e λg e=>?_;replace e:=iS e;subst e;exact⟨ys,rfl,c,g,rfl⟩
noncomputable def FC(xs:List PV):PV->Option (PV×List PV)
 |.int k=>aw (decide (0<=k)&&Nat.ble xs.length 1000) ((xs[k.toNat]?).map λy=>(y,xs.eraseIdx k.toNat))
 |_=>none
theorem BE{xs:List PV}{p:PV}{r:PV×List PV}(e:FC xs p=some r):∃k:Nat,p=.int k/\xs.length<=1000/\xs[k]?=some r.1/\r.2=xs.eraseIdx k:=by
 cases p<;>try exact nS e
 rename_i k
 refine bA e λc e=>?_;refine mE e λy ey qq=>?_;subst qq;simp only[cC,decide_eq_true_eq]at c;exact⟨k.toNat,by rw[Int.toNat_of_nonneg c.1];rfl,fn c.2,ey,rfl⟩
noncomputable def H4(σ:aF)(i:Nat)(op:Operator)(q:PV):Option PV:=match σ.getD i none with
 |some (.val (.int a))=>match q with
  |.int b=>match op with
   |.BitXor=>some (.int (Builtin.bitXor a b))
   |_=>none
  |_=>none
 |_=>none
noncomputable def S.ex(Φ:fA):S->Ex
 |.assign i _ e _,σ,T=>((e.sm Φ).ev σ T).bind λp=>aw (clean p.1) (some ⟨.next,σ.set i (some (.val p.1)),p.2⟩)
 |.own i _ es _ _,σ,T=>((es.sm Φ).evs σ T).bind λps=>aw (aA ps.1) (fit ps.1.length (some ⟨.next,σ.set i (some (.own ps.1)),ps.2⟩))
 |.unpack ts _ _ e _,σ,T=>((e.sm Φ).ev σ T).bind λp=>match p.1 with
  |.tuple ps=>(aq σ ts ps).map λσ'=>⟨.next,σ',p.2⟩
  |_=>none
 |.unpackD ts _ _ es ow _ _ _,σ,T=>((es.sm Φ).evs σ T).bind λps=>aw (mj es ow) (fit ps.1.length ((hU σ ts ps.1 ow).map λσ'=>⟨.next,σ',ps.2⟩))
 |.aug i _ op e _,σ,T=>((e.sm Φ).ev σ T).bind λq=>(H4 σ i op q.1).map λr=>⟨.next,σ.set i (some (.val r)),q.2⟩
 |.append i _ _ e _ _,σ,T=>(fL σ i).bind λxs=>((e.sm Φ).ev σ T).bind λp=>aw (clean p.1) (fit (xs.length+1) (some ⟨.next,σ.set i (some (.own (xs++[p.1]))),p.2⟩))
 |.extend i _ _ e _ _,σ,T=>(fL σ i).bind λxs=>((e.sm Φ).ev σ T).bind λp=>(Hh σ i xs p.1).map λσ'=>⟨.next,σ',p.2⟩
 |.appendPop i _ _ j _ _ e _ _ _,σ,T=>(fL σ i).bind λxs=>(fL σ j).bind λys=>((e.sm Φ).ev σ T).bind λp=>(FC ys p.1).bind λy=>
   aw (!(i==j)) (fit (xs.length+1) (some ⟨.next,(σ.set j (some (.own y.2))).set i (some (.own (xs++[y.1]))),p.2⟩))
 |.expr e _,σ,T=>((e.sm Φ).ev σ T).map λp=>⟨.next,σ,p.2⟩
 |.delT i _ e _ _,σ,T=>((e.sm Φ).ev σ T).bind λp=>match p.1 with
  |.str k=>aw (mG σ i&&(aS k&&Nat.ble p.2.length 1000)) (some ⟨.next,σ,fg p.2 k⟩)
  |_=>none
 |.tempApp i _ _ _ _ e _ _,σ,T=>aw (mG σ i&&Nat.ble T.length 1000) (((e.sm Φ).ev σ T).map λp=>⟨.next,σ,p.2⟩)
 |.ite c a b _,σ,T=>((c.sm Φ).evT σ T).bind λt=>match t.1 with
  |true=>a.ex Φ σ t.2
  |false=>b.ex Φ σ t.2
 |.for_ tg src body els _,σ,T=>((src.sm Φ).evSrc σ T).bind λxs=>aw xs.1.2 (cU tg (body.ex Φ) (els.ex Φ) xs.1.1 σ xs.2)
 |.ret e _,σ,T=>((e.sm Φ).ev σ T).map λp=>⟨.ret p.1,σ,p.2⟩
 |.brk _,σ,T=>some ⟨.brk,σ,T⟩
 |.nil,σ,T=>some ⟨.next,σ,T⟩
 |.seq a b,σ,T=>(a.ex Φ σ T).bind λo=>match o.fl with
  |.next=>b.ex Φ o.σ o.T
  |.brk=>some o
  |.ret _=>some o
noncomputable def fQ(Φ:fA)(body:S)(n:Nat)(params:List Nat)(ps:List PV)(T:aC):Option (PV×aC):=
 (aq (List.replicate n none) (params.map λi=>(i,⟨0,0,0,0⟩)) ps).bind λσ=>(body.ex Φ σ T).bind λo=>match o.fl with
  |.ret p=>some (dD p,o.T)
  |.next=>some (.none,o.T)
  |.brk=>none
theorem Eb:sizeLine=cap:=rfl
theorem a9.up{hl:Option Addr}{s s':Shared}(x:a9 none s s'):a9 hl s s':=⟨x.gens,x.drawn,x.os,λa o _ e=>x.keep a o (λq=>nomatch q) e⟩
theorem a9.all{s s':Shared}(x:a9 none s s'):∀a o,s.heap.get? a=some o->s'.heap.get? a=some o:=λa o e=>x.keep a o (λq=>nomatch q) e
theorem a9.mk'{s:Shared}{h':Heap}{t:Nat}(hk:∀a o,s.heap.get? a=some o->h'.get? a=some o):a9 none s { s with heap:=h',toks:=t }:=⟨rfl,rfl,rfl,λa o _ e=>hk a o e⟩
theorem a9.tick{s:Shared}{t:Nat}:a9 none s { s with toks:=t }:=⟨rfl,rfl,rfl,λ_ _ _ e=>e⟩
theorem a9.lay{s:Shared}{o:Obj}{t:Nat}:a9 none s { s with heap:=s.heap.push o,toks:=t }:=.mk' λ_ _ e=>bK _ e
theorem a9.lay'{s:Shared}{o:Obj}:a9 none s { s with heap:=s.heap.push o }:=.lay
noncomputable abbrev lW(C:Cx)(s:Shared)(r:PV)(Q:aJ Value):Prop:=∀v s',a9 none s s'->an C s'.heap r v->Q v s'
theorem aV(h:Heap):h.get? h.objs.size=none:=by
 cases e:h.get? h.objs.size with
 |none=>rfl
 |some o=>exact absurd (gB e) (Nat.lt_irrefl _)
structure ef(C:Cx)(h:Heap):Prop where
 x:∀a,C.X a->h.get? a≠none
 f:∀a,C.F a->h.get? a≠none
 l:∀a,C.hl=some a->h.get? a≠none
theorem ef.new{C:Cx}{h:Heap}(L:ef C h){a:Addr}(e:h.get? a=none):¬C.X a/\¬C.F a/\C.hl≠some a:=⟨λq=>L.x a q e,λq=>L.f a q e,λq=>L.l a q e⟩
theorem ef.keep{C:Cx}{h h':Heap}(L:ef C h)(k:∀a o,h.get? a=some o->h'.get? a=some o):ef C h':=by
 have key:∀a,h.get? a≠none->h'.get? a≠none:=λa q=>by
  cases e:h.get? a with
  |none=>exact absurd e q
  |some o=>rw[k a o e];exact λz=>nomatch z
 exact⟨λa x=>key a (L.x a x),λa x=>key a (L.f a x),λa x=>key a (L.l a x)⟩
theorem cV.toLive{B:aX}{C:Cx}{h:Heap}(V:cV B C h):ef C h:=⟨V.liveX,V.liveF,V.liveL⟩
theorem an.kept{C:Cx}{s s':Shared}(x:a9 none s s'){p:PV}{v:Value}(r:an C s.heap p v):an C s'.heap p v:=r.keep λa o _ e=>x.all a o e
theorem aH.kept{C:Cx}{s s':Shared}(x:a9 none s s'){p:List PV}{v:List Value}(r:aH C s.heap p v):aH C s'.heap p v:=r.keep λa o _ e=>x.all a o e
theorem an.newList{C:Cx}{h:Heap}(L:ef C h){ps:List PV}{vs:List Value}(r:aH C h ps vs):an C (h.push (aT vs 0)) (.list ps) (.ref h.objs.size):=
 ⟨h.objs.size,vs,0,rfl,(L.new (aV h)).1,(L.new (aV h)).2.1,(L.new (aV h)).2.2,cZ _ rfl,r.keep λ_ _ _ e=>bK _ e⟩
theorem an.newTuple{C:Cx}{h:Heap}(L:ef C h){ps:List PV}{vs:List Value}(r:aH C h ps vs):an C (h.push (eg vs 0)) (.tuple ps) (.ref h.objs.size):=
 ⟨h.objs.size,vs,rfl,(L.new (aV h)).1,(L.new (aV h)).2.1,(L.new (aV h)).2.2,⟨_,cZ _ rfl,rfl,0,rfl⟩,r.keep λ_ _ _ e=>bK _ e⟩
theorem an.int'{C:Cx}{h:Heap}{i:Int}{t:Tok}:an C h (.int i) (.int i t):=⟨t,rfl⟩
theorem an.str'{C:Cx}{h:Heap}{x:Str}{t:Tok}:an C h (.str x) (.str x t):=⟨t,rfl⟩
theorem an.bool'{C:Cx}{h:Heap}{b:Bool}:an C h (.bool b) (.bool b):=rfl
theorem kP{C:Cx}{h:Heap}{p:PV}{xs:List PV}{v:Value}(e:eM p=some xs)(r:an C h p v):∃a vs n,v=.ref a/\h.get? a=some (aT vs n)/\aH C h xs vs:=by
 cases p with
 |list ys=>replace e:=iS e;subst e;obtain⟨a,vs,n,e,_,_,_,g,q⟩:=r;exact⟨a,vs,n,e,g,q⟩
 |view ys=>replace e:=iS e;subst e;obtain⟨a,vs,n,e,_,_,g,q⟩:=r;exact⟨a,vs,n,e,g,q⟩
 |_=>exact nS e
section
variable{B:aX}{C:Cx}{A:Around}{s:Shared}{Q:aJ Value}
theorem tw{a:Int}(h:eU a=true):Builtin.Int.intBits a<=64:=by have h:a.natAbs<18446744073709551616:=of_decide_eq_true h;exact intBits_le_64 (by lia) (by lia)
theorem Bz{a b:Int}(hb:eU b=true):Builtin.divisionGoesByPylong a b=false:=by
 have h:b.natAbs<18446744073709551616:=of_decide_eq_true hb;have:b.natAbs.log2<=64:=by
  by_cases e:b.natAbs=0
  ·rw[e];decide
  ·have:=Nat.log2_lt e |>.mpr (show b.natAbs<2 ^ 64 from h);lia
 unfold Builtin.divisionGoesByPylong;have h2:(if (b==0)=true then 0 else b.natAbs.log2/30+1)<=3:=by split<;>lia
 simp only[Bool.and_eq_false_iff,decide_eq_false_iff_not];left;lia
theorem qY(vs:List Value):∀n,List.foldl (λx1 x2=>x1++x2) (#[]:Array Value) (List.replicate n vs.toArray)=((List.replicate n vs).flatten).toArray:=by
 have key:∀(n:Nat) (acc:List Value),List.foldl (λx1 x2=>x1++x2) acc.toArray (List.replicate n vs.toArray)=(acc++(List.replicate n vs).flatten).toArray:=by
  intro n
  induction n with
  |zero=>intro acc;simp
  |succ n ih=>intro acc;rw[List.replicate_succ];rw[List.foldl_cons];rw[List.append_toArray ..];rw[ih ..];simp[List.replicate_succ]
 intro n;simpa using key n []
theorem aH.flat{h:Heap}{ps:List PV}{vs:List Value}(r:aH C h ps vs):∀n,aH C h (List.replicate n ps).flatten (List.replicate n vs).flatten
 |0=>rfl
 |n+1=>by rw[List.replicate_succ];rw[List.replicate_succ];rw[List.flatten_cons];rw[List.flatten_cons];exact r.append (aH.flat r n)
theorem q7(l:Addr)(items:Array Value)(n:Nat)(b:Bool)(hc1:¬items.size*(if b=true then(1:Int)else 0).toNat > (2 ^ 63-1)/8)
  (hc2:¬Builtin.List.listTooLong (items.size*(if b=true then(1:Int)else 0).toNat)=true):
  Meets (Builtin.«list.__mul__» ⟨[.ref l,.bool b],[]⟩) (λ_ R s=>s.heap.get? l=some { cls:=.type "list",dict:=none,data:=.seq items n,slots:=#[] } /\
   R (.ok (.ret (Value.ref s.heap.objs.size))) { s with heap:=s.heap.push { cls:=Value.type "list",data:=Data.seq (List.foldl (λx1 x2=>x1++x2) #[] (List.replicate (if items.isEmpty=true then 0 else(if b=true then(1:Int)else 0).toNat) items)) },toks:=s.toks }):=
 .of_wp λprog w A R s h=>by
  obtain⟨hp,g,d,tk,os⟩:=s;refine cL h ?_;clear h;intro hl h;have hsz:=AutoListH.joined_fits hc2;cases b
  ·wp_walk;exact⟨_,rfl,h⟩
  ·wp_walk
   refine wpAny_ite_false (decide_eq_false hc1) ?_
   wp_walk
   refine wpAny_ite_false (decide_eq_false hc2) ?_
   wp_walk
   refine wpAny_ite_false (decide_eq_false (Nat.not_lt.mpr hsz)) ?_;wp_walk;exact⟨_,rfl,h⟩
theorem oq(b:Bool)(l:Addr)(items:Array Value)(n:Nat):
  Meets (Builtin.«int.__rmul__» ⟨[.bool b,.ref l],[]⟩) (λ_ R s=>s.heap.get? l=some { cls:=.type "list",dict:=none,data:=.seq items n,slots:=#[] }/\R (.ok (.ret Value.notImplemented)) s):=
 .of_wp λprog w A R s h=>by obtain⟨hp,g,d,tk,os⟩:=s;refine cL h ?_;clear h;intro hl h;wp_walk;exact⟨_,rfl,h⟩
theorem rJ{l:Addr}{items:Array Value}{n:Nat}{b:Bool}(hl:s.heap.get? l=some { cls:=.type "list",dict:=none,data:=.seq items n,slots:=#[] })(hsz:items.size<=1000)
  (h:Q (.ref s.heap.objs.size) { s with heap:=s.heap.push { cls:=.type "list",data:=.seq (List.foldl (λx1 x2=>x1++x2) #[] (List.replicate (if items.isEmpty=true then 0 else(if b=true then(1:Int)else 0).toNat) items)) } }):
  wpAny (model B.prog B.w) A (binaryOp .Mult (.ref l) (.bool b)) Q (λ_ _=>False) s:=by
 have h1:items.size*(if b=true then(1:Int)else 0).toNat<=items.size:=by cases b<;>simp
 refine wpAny_binaryOp_repeat_ref (T:="list") (U:="bool") (by decide) ⟨_,hl,rfl⟩ (λs'=>rfl) noFill_list_mul F.fills_bool_mul F.slot_bool_rmul repeat_list F.slot_bool_index.lookup
  (call_meets F.slot_bool_rmul rfl F.entry_int_rmul (F.args_int_rmul_2 _ _) (oq b l items n)
   ⟨hl,rfl,⟨_,hl,rfl⟩,call_meets F.slot_list_mul ⟨_,hl,rfl⟩ F.entry_list_mul (F.args_list_mul_2 _ _)
    (q7 l items n b (by lia) (by simp[Builtin.List.listTooLong,sizeLine];lia)) ⟨hl,h⟩⟩)
theorem uJ{l:Addr}{items:Array Value}{n:Nat}{x:Int}{u:Tok}(hl:s.heap.get? l=some { cls:=.type "list",dict:=none,data:=.seq items n,slots:=#[] })(hsz:items.size<=1000)
  (h0:0<=x) (hx:x<1000)
  (h:Q (.ref s.heap.objs.size) { s with heap:=s.heap.push { cls:=.type "list",data:=.seq (List.foldl (λx1 x2=>x1++x2) #[] (List.replicate (if items.isEmpty=true then 0 else x.toNat) items)) } }):
  wpAny (model B.prog B.w) A (binaryOp .Mult (.ref l) (.int x u)) Q (λ_ _=>False) s:=by
 have h1:items.size*x.toNat<=1000*1000:=Nat.mul_le_mul hsz (by lia);exact wpAny_binaryOp_repeat_ref (T:="list") (U:="int") (by decide) ⟨_,hl,rfl⟩ (λs'=>typeIs_int s' x u) noFill_list_mul F.fills_int_mul F.slot_int_rmul repeat_list F.slot_int_index.lookup
  (call_meets F.slot_int_rmul (typeIs_int s x u) F.entry_int_rmul (F.args_int_rmul_2 _ _) (int___rmul___int_list x u l items n)
   ⟨hl,rfl,⟨_,hl,rfl⟩,call_meets F.slot_list_mul ⟨_,hl,rfl⟩ F.entry_list_mul (F.args_list_mul_2 _ _)
    (AutoListH.list___mul___list_int_3 l items n x u (by simp[Builtin.List.listFitsIndex];lia) (by lia) (by simp[Builtin.List.listTooLong,sizeLine];lia)) ⟨hl,h⟩⟩)
@[elab_as_elim] theorem tV{f:Int->Int->Option Int}{p q r:PV}{a b:Value}{h:Heap}{M:Value->Value->PV->Prop}(e:q6 f p q=some r)(ra:an C h p a)(rb:an C h q b)
  (k:∀x y z t u,f x y=some z->M (.int x t) (.int y u) (.int z)):M a b r:=by
 revert ra;refine ch e λx e ra=>rI ra λt=>?_;revert rb;refine ch e λy e rb=>rI rb λu=>?_;refine mE e λz e2 qq=>?_;subst qq;exact k x y z t u e2
theorem GQ{p q r:PV}{a b:Value}(L:ef C s.heap)(e:F7 p q=some r)(ra:an C s.heap p a)(rb:an C s.heap q b)(h:lW C s r Q):WP B A (binaryOp .Add a b) Q s:=by
 revert ra rb;refine xz e (λx e ra=>?_) (λx e ra=>?_) λe ra rb=>?_
 ·refine ch e λy e rb=>rI ra λt=>rI rb λu=>?_;obtain rfl:=iS e;exact wpAny_add_int (h _ _ .tick an.int')
 ·refine i4 e λy e rb=>rS ra λt=>rS rb λu=>?_;refine jF e λhsz e=>?_;obtain rfl:=iS e;exact PyProof.Rows.add_str (λt' tk=>h _ _ .tick an.str') hsz
 ·refine bE e λxs hp e=>?_;refine bE e λys hq e=>?_;refine jF e λhsz e=>?_;obtain rfl:=iS e;refine vr (kP hp ra) λl vs n q1q g1 r1=>?_;subst q1q;refine vr (kP hq rb) λm ws n2 q1q g2 r2=>?_;subst q1q;refine P.add_list (n:=n) (n2:=n2) g1 g2 (h _ _ .lay' ?_) (show _<=cap by simpa[r1.length,r2.length]using hsz);have:=an.newList L (r1.append r2);simpa using this
theorem G1{p q r:PV}{a b:Value}(L:ef C s.heap)(e:HV p q=some r)(ra:an C s.heap p a)(rb:an C s.heap q b)(h:lW C s r Q):WP B A (binaryOp .Mult a b) Q s:=by
 revert ra rb;refine xz e (λx e ra=>?_) (λx e ra=>nS e) λe ra rb=>?_
 ·refine rI ra λt=>?_;refine yh e (λy e rb=>?_) λy e rb=>?_
  ·obtain rfl:=rb;obtain rfl:=iS e;exact IntBool.mul_int_bool (h _ _ .tick an.int')
  refine rI rb λu=>?_;refine bA e λhm e=>?_;obtain rfl:=iS e;exact PyProof.Rows.mul_int (h _ _ .tick an.int') (((Bool.or_eq_true _ _).mp hm).elim (λq=>.of_left (tw q)) λq=>.of_right (tw q))
 ·refine bE e λxs hp e=>?_;refine vr (kP hp ra) λl vs n q1q g1 r1=>?_;subst q1q;have lay:∀k,an C (s.heap.push { cls:=.type "list",data:=.seq (List.foldl (λx1 x2=>x1++x2) #[] (List.replicate k vs.toArray)) }) (.list (List.replicate k xs).flatten) (.ref s.heap.objs.size):=λk=>by rw[qY ..];exact an.newList L (r1.flat k)
  have hem:vs.toArray.isEmpty=xs.isEmpty:=by have:=r1.length;cases vs<;>cases xs<;>first|rfl|cases this
  have hl:vs.toArray.size=xs.length:=r1.length;revert rb;refine yh e (λb e rb=>?_) λk e rb=>?_
  ·obtain rfl:=rb;refine bA e λhsz e=>?_;obtain rfl:=iS e;refine rJ g1 (hl▸fn hsz) (h _ _ .lay' ?_);have:=lay (if vs.toArray.isEmpty=true then 0 else(if b=true then(1:Int)else 0).toNat);have eq:(List.replicate (if vs.toArray.isEmpty=true then 0 else(if b=true then(1:Int)else 0).toNat) xs).flatten=if b=true then xs else[]:=by rw[hem];cases xs<;>cases b<;>simp
   replace this:=eq▸this;exact this
  ·refine rI rb λt=>?_;refine bA e λhg e=>?_;obtain rfl:=iS e;refine uJ g1 (hl▸fn (a2 hg).2) (of_decide_eq_true (a2 (a2 hg).1).1) (of_decide_eq_true (a2 (a2 hg).1).2) (h _ _ .lay' ?_);have:=lay (if vs.toArray.isEmpty=true then 0 else k.toNat);have eq:(List.replicate (if vs.toArray.isEmpty=true then 0 else k.toNat) xs).flatten=(List.replicate k.toNat xs).flatten:=by rw[hem];cases xs<;>simp
   replace this:=eq▸this;exact this
theorem Du{op:Operator}{p q r:PV}{a b:Value}(L:ef C s.heap)(e:gW op p q=some r)(ra:an C s.heap p a)(rb:an C s.heap q b)(h:lW C s r Q):
  WP B A (binaryOp op a b) Q s:=by
 revert h;cases op with
 |Add=>exact GQ L e ra rb
 |Mult=>exact G1 L e ra rb
 |Sub=>exact tV e ra rb λx y z t u e h=>by obtain rfl:=iS e;exact PyProof.Rows.sub_int (h _ _ .tick an.int')
 |FloorDiv=>refine tV e ra rb λx y z t u e h=>?_;refine bA e λhg e=>?_;obtain rfl:=iS e;exact PyProof.Rows.floordiv_int (bne_iff_ne.mp (a2 hg).1) (h _ _ .tick an.int') (.inl (Bz (a2 hg).2))
 |Mod=>refine tV e ra rb λx y z t u e h=>?_;refine bA e λhg e=>?_;obtain rfl:=iS e;exact PyProof.Rows.mod_int (bne_iff_ne.mp hg) (h _ _ .tick an.int')
 |Pow=>refine tV e ra rb λx y z t u e h=>?_;refine bA e λhg e=>?_;obtain rfl:=iS e;have h0:=of_decide_eq_true (a2 (a2 hg).1).2;have h3:=of_decide_eq_true (a2 hg).2;refine PyProof.Rows.pow_int h0 ?_ (h _ _ .tick an.int');have h1:=tw (a2 (a2 hg).1).1;have h2:(Builtin.Int.intBits x:Int)*y<=64*1000:=Int.mul_le_mul (by exact_mod_cast h1) (by omega) h0 (by omega);omega
 |LShift=>refine tV e ra rb λx y z t u e h=>?_;refine bA e λhg e=>?_;obtain rfl:=iS e;have h0:=of_decide_eq_true (a2 (a2 hg).1).2;have h1:=tw (a2 hg).2;exact PyProof.Rows.lshift_int (of_decide_eq_true (a2 (a2 hg).1).1) (by omega) (h _ _ .tick an.int')
 |RShift=>refine tV e ra rb λx y z t u e h=>?_;refine bA e λhg e=>?_;obtain rfl:=iS e;exact PyProof.Rows.rshift_int (of_decide_eq_true hg) (h _ _ .tick an.int')
 |BitAnd=>exact tV e ra rb λx y z t u e h=>by obtain rfl:=iS e;exact PyProof.Rows.and_int (h _ _ .tick an.int')
 |BitOr=>exact tV e ra rb λx y z t u e h=>by obtain rfl:=iS e;exact PyProof.Rows.or_int (h _ _ .tick an.int')
 |BitXor=>exact tV e ra rb λx y z t u e h=>by obtain rfl:=iS e;exact PyProof.Rows.xor_int (h _ _ .tick an.int')
 |_=>exact nS e
end
section
mutual
theorem an.reads{C:Cx}{h:Heap}:∀{n:Nat} {p:PV} {v:Value},gU n p=true->an C h p v->∃as,Reads h v (qn p) as/\(qn p).canLay0=true/\(qn p).depth<=n
 |n,.none,v,_,r=>by cases r;exact⟨_,.none,rfl,Nat.zero_le _⟩
 |n,.bool b,v,_,r=>by cases r;exact⟨_,.bool b,rfl,Nat.zero_le _⟩
 |n,.int i,v,_,r=>by refine af r ?_;clear r;intro t q1q;subst q1q;exact⟨_,.int i t,rfl,Nat.zero_le _⟩
 |n,.str x,v,d,r=>by refine af r ?_;clear r;intro t q1q;subst q1q;cases n<;>exact⟨_,.str x t,d,Nat.zero_le _⟩
 |n+1,.list xs,v,d,r=>by obtain⟨a,vs,k,rfl,_,_,_,g,rs⟩:=r;refine d1 (aH.reads (n:=n) d rs) λas q c e=>?_;exact⟨a :: as,.list (o:=aT vs k) (vs:=vs.toArray) (n:=k) g rfl rfl q,c,by show PyData.depthAll _+1<=_;lia⟩
 |n+1,.view xs,v,d,r=>by obtain⟨a,vs,k,rfl,_,_,g,rs⟩:=r;refine d1 (aH.reads (n:=n) d rs) λas q c e=>?_;exact⟨a :: as,.list (o:=aT vs k) (vs:=vs.toArray) (n:=k) g rfl rfl q,c,by show PyData.depthAll _+1<=_;lia⟩
 |n+1,.tuple xs,v,d,r=>by obtain⟨a,vs,rfl,_,_,_,⟨o,g,hc,k,hd⟩,rs⟩:=r;refine d1 (aH.reads (n:=n) d rs) λas q c e=>?_;exact⟨as,.tuple (vs:=vs.toArray) (n:=k) g hc hd q,c,by show PyData.depthAll _+1<=_;lia⟩
 |0,.list _,_,d,_=>fT d
 |0,.view _,_,d,_=>fT d
 |0,.tuple _,_,d,_=>fT d
 |n,.bytes _,_,d,_=>by cases n<;>exact fT d
 |n,.arg _,_,d,_=>by cases n<;>exact fT d
 |n,.ob _,_,d,_=>by cases n<;>exact fT d
 |n,.tab,_,d,_=>by cases n<;>exact fT d
theorem aH.reads{C:Cx}{h:Heap}:∀{n:Nat} {ps:List PV} {vs:List Value},gY n ps=true->aH C h ps vs->∃as,ReadsAll h vs (jL ps) as/\PyData.canLayAll0 (jL ps)=true/\PyData.depthAll (jL ps)<=n
 |n,[],vs,_,r=>by cases r;exact⟨_,.nil,rfl,Nat.zero_le _⟩
 |n,p :: ps,vs,d,r=>by obtain⟨v,w,rfl,r1,r2⟩:=r;simp only[lR,cC]at d;refine d1 (an.reads d.1 r1) λas q1 c1 e1=>?_;refine d1 (aH.reads d.2 r2) λbs q2 c2 e2=>?_;exact⟨_,.cons q1 q2,by simp only[tJ,PyData.canLayAll0,c1,c2,Bool.and_self],by simp only[tJ,PyData.depthAll];lia⟩
end
theorem Hz:∀{n:Nat} {p:PV},gU n p=true->gU (n+1) p=true:=by
 intro n;have key:∀n,(∀p,gU n p=true->gU (n+1) p=true)/\(∀ps,gY n ps=true->gY (n+1) ps=true):=by
  intro n;have all:∀n,(∀p,gU n p=true->gU (n+1) p=true)->∀ps,gY n ps=true->gY (n+1) ps=true:=by
   intro n hn ps
   induction ps with
   |nil=>intro _;rfl
   |cons p ps ih=>intro d;simp only[lR,cC]at d ⊢;exact⟨hn p d.1,ih d.2⟩
  induction n with
  |zero=>refine⟨?_,all 0 ?_⟩<;>(intro p d;cases p<;>first|rfl|exact d|exact fT d)
  |succ n ih=>refine⟨?_,all (n+1) ?_⟩<;>(intro p d;cases p<;>first|rfl|exact d|exact ih.2 _ d|cases d)
 exact λ{p}=>(key n).1 p
theorem oH{C:Cx}{h:Heap}{p:PV}{xs:List PV}{v:Value}(e:mL p=some xs)(r:an C h p v):∃a vs,v=.ref a/\(h.IsList a vs.toArray\/h.IsTuple a vs.toArray)/\aH C h xs vs:=by
 cases p with
 |list ys=>replace e:=iS e;subst e;obtain⟨a,vs,n,e,_,_,_,g,q⟩:=r;exact⟨a,vs,e,.inl ⟨_,g,rfl,n,rfl⟩,q⟩
 |view ys=>replace e:=iS e;subst e;obtain⟨a,vs,n,e,_,_,g,q⟩:=r;exact⟨a,vs,e,.inl ⟨_,g,rfl,n,rfl⟩,q⟩
 |tuple ys=>replace e:=iS e;subst e;obtain⟨a,vs,e,_,_,_,g,q⟩:=r;exact⟨a,vs,e,.inr g,q⟩
 |_=>exact nS e
section
variable{B:aX}{C:Cx}{A:Around}{s:Shared}{Q:aJ Value}
open PySem.SeqAt in
theorem yB{k:Nat}(F:bJ (k+1) A){p:PV}{a:Value}{xs:List PV}{vs:List Value}(dp:gU 4 p=true)(ra:an C s.heap p a)(dx:gY 4 xs=true)(rx:aH C s.heap xs vs):
  ∃e:Value->Bool,(∀y,y∈vs.toArray->EqAt A.in1 s y a (e y))/\vs.toArray.any e=(jL xs).any λy=>PyData.eqv y (qn p):=by
 refine d1 (ra.reads dp) λas qa ca da=>?_;have hu:=F.in1.unitsOk;have hu':=F.in1.units;have each:∀v∈vs,∃d bs,Reads s.heap v d bs/\EqAt A.in1 s v a (PyData.eqv d (qn p)):=by
  clear dp
  induction xs generalizing vs with
  |nil=>cases rx;intro v hv;cases hv
  |cons x xs ih=>
   obtain⟨v,w,rfl,r1,r2⟩:=rx;simp only[lR,cC]at dx;intro u hu2;rcases ah.mp hu2 with rfl|hu2
   ·refine d1 (r1.reads dx.1) λbs qb cb db=>?_;exact⟨_,_,qb,eqAt_reads _ _ _ _ _ _ _ _ qb qa cb ca (dp (by assumption) db)⟩
   ·exact ih dx.2 r2 u hu2
 classical
 refine⟨λv=>if h:v∈vs then PyData.eqv (Classical.choose (each v h)) (qn p)else false,λy hy=>?_,?_⟩
 ·have hy':y∈vs:=by simpa using hy
  simp only[dif_pos hy'];refine aP (Classical.choose_spec (each y hy')) λ_ _ q=>?_;exact q
 ·have key:∀(xs:List PV) (ws:List Value),gY 4 xs=true->aH C s.heap xs ws->(∀v∈ws,v∈vs) ->
    (ws.any λv=>if h:v∈vs then PyData.eqv (Classical.choose (each v h)) (qn p)else false)=(jL xs).any λy=>PyData.eqv y (qn p):=by
   intro xs
   induction xs with
   |nil=>intro ws _ r _;cases r;rfl
   |cons x xs ih=>intro ws dx r hm;obtain⟨v,w,rfl,r1,r2⟩:=r;simp only[lR,cC]at dx;have hv:=hm v bW;rw[List.any_cons];rw[tJ];rw[List.any_cons];rw[ih w dx.2 r2 λu hu=>hm u (bZ _ hu)];simp only[dif_pos hv];refine d1 (r1.reads dx.1) λbs qb cb _=>?_;refine aP (Classical.choose_spec (each v hv)) λbs' qb' _=>?_;rw[Eq.symm (SeqAt.Reads.unique _ _ _ _ _ cb qb qb')];rfl
  rw[Eq.symm (key xs vs dx rx λ_ h=>h)];simp
theorem yg{k:Nat}{op:CmpOp}{p q:PV}{t:Bool}{a b:Value}(F:bJ (k+1) A)(e:nN op p q=some t)(ra:an C s.heap p a)(rb:an C s.heap q b)
  (h:∀s',a9 none s s'->Q (.bool t) s'):WP B A (compareOp op a b) Q s:=by
 have hd:=F.units;cases op with
 |Eq=>refine bA e λg e=>?_;obtain rfl:=iS e;refine d1 (ra.reads (a2 g).1) λas qa ca da=>?_;refine d1 (rb.reads (a2 g).2) λbs qb cb db=>?_;exact SeqAt.compareEq_reads qa qb ca cb (dp (by assumption) da) (h _ (.refl _ _))
 |NotEq=>refine bA e λg e=>?_;obtain rfl:=iS e;refine d1 (ra.reads (a2 g).1) λas qa ca da=>?_;refine d1 (rb.reads (a2 g).2) λbs qb cb db=>?_;exact SeqAt.compareNe_reads qa qb ca cb (dp (by assumption) da) (h _ (.refl _ _))
 |Lt=>revert ra rb;refine ch e λx e ra=>ch e λy e rb=>rI ra λt=>rI rb λu=>?_;obtain rfl:=iS e;exact PyProof.Rows.lt_int (h _ (.refl _ _))
 |LtE=>revert ra rb;refine ch e λx e ra=>ch e λy e rb=>rI ra λt=>rI rb λu=>?_;obtain rfl:=iS e;exact PyProof.Rows.le_int (h _ (.refl _ _))
 |Gt=>revert ra rb;refine ch e λx e ra=>ch e λy e rb=>rI ra λt=>rI rb λu=>?_;obtain rfl:=iS e;exact PyProof.Rows.gt_int (h _ (.refl _ _))
 |GtE=>revert ra rb;refine ch e λx e ra=>ch e λy e rb=>rI ra λt=>rI rb λu=>?_;obtain rfl:=iS e;exact PyProof.Rows.ge_int (h _ (.refl _ _))
 |Is=>revert ra rb;refine tl e λx e ra=>tl e λy e rb=>?_;obtain rfl:=ra;obtain rfl:=rb;obtain rfl:=iS e;exact wpAny_is_plain rfl ((show(x==y)=(Value.bool x==Value.bool y) by cases x<;>cases y<;>rfl)▸h _ (.refl _ _))
 |IsNot=>revert ra rb;refine tl e λx e ra=>tl e λy e rb=>?_;obtain rfl:=ra;obtain rfl:=rb;obtain rfl:=iS e;exact wpAny_isNot_plain rfl ((show(x != y)=(!(Value.bool x==Value.bool y)) by cases x<;>cases y<;>rfl)▸h _ (.refl _ _))
 |In=>
  refine bE e λxs ex e=>?_;refine bA e λg e=>?_;refine lr (oH ex rb) λl vs q1q hl rx=>?_;subst q1q;refine aP (yB F (a2 g).1 ra (a2 g).2 rx) λf hf hany=>?_;obtain rfl:=iS e;rcases hl with hl|hl
  ·exact SeqAt.in_listAt f hl hf (by rw[hany];exact h _ (.refl _ _))
  ·exact SeqAt.in_tupleAt f hl hf (by rw[hany];exact h _ (.refl _ _))
 |NotIn=>
  refine bE e λxs ex e=>?_;refine bA e λg e=>?_;refine lr (oH ex rb) λl vs q1q hl rx=>?_;subst q1q;refine aP (yB F (a2 g).1 ra (a2 g).2 rx) λf hf hany=>?_;obtain rfl:=iS e;rcases hl with hl|hl
  ·exact SeqAt.notIn_listAt f hl hf (by rw[hany];exact h _ (.refl _ _))
  ·exact SeqAt.notIn_tupleAt f hl hf (by rw[hany];exact h _ (.refl _ _))
theorem v5{p:PV}{t:Bool}{v:Value}{Q:aJ Bool}(e:eS p=some t)(r:an C s.heap p v)(h:∀s',a9 none s s'->Q t s'):WP B A (truthy v) Q s:=by
 cases p with
 |bool b=>replace e:=iS e;subst e;cases r;exact wpAny_truthy_bool (h _ (.refl _ _))
 |int i=>replace e:=iS e;subst e;refine af r ?_;clear r;intro t q1q;subst q1q;exact PyProof.Rows.truthy_int (h _ (.refl _ _))
 |list xs=>
  refine jF e λg e=>?_;replace e:=iS e;subst e;obtain⟨a,vs,n,rfl,_,_,_,g1,rs⟩:=r;have hl:=rs.length;refine wpAny_truthy_list ⟨_,g1,rfl,n,rfl⟩ ?_ ?_
  ·simp only[List.size_toArray,hl];unfold cap at g;lia
  ·have:(!vs.toArray.isEmpty)= !xs.isEmpty:=by cases vs<;>cases xs<;>simp_all
   rw[this];exact h _ .tick
 |view xs=>
  refine jF e λg e=>?_;replace e:=iS e;subst e;obtain⟨a,vs,n,rfl,_,_,g1,rs⟩:=r;have hl:=rs.length;refine wpAny_truthy_list ⟨_,g1,rfl,n,rfl⟩ ?_ ?_
  ·simp only[List.size_toArray,hl];unfold cap at g;lia
  ·have:(!vs.toArray.isEmpty)= !xs.isEmpty:=by cases vs<;>cases xs<;>simp_all
   rw[this];exact h _ .tick
 |_=>exact nS e
theorem D1{p r:PV}{v:Value}(e:Ha p=some r)(ra:an C s.heap p v)(h:lW C s r Q):WP B A (unaryOp .USub v) Q s:=by
 cases p<;>first|exact nS e|(replace e:=iS e;subst e)
 refine af ra ?_;clear ra;intro t q1q;subst q1q;exact PyProof.Rows.neg_int (h _ _ .tick an.int')
theorem Ci{env:Env}{c:Const}{p:PV}(e:BC c=some p)(h:lW C s p Q):WP B A (constValue env c) Q s:=by
 cases c<;>first|exact nS e|(replace e:=iS e;subst e)
 ·exact wpAny_pure (h _ _ (.refl _ _) rfl)
 ·exact wpAny_pure (h _ _ (.refl _ _) rfl)
 ·exact wpAny_mkInt (h _ _ .tick an.int')
 ·exact wpAny_mkText (h _ _ .tick an.str')
end
end
theorem lN{C:Cx}{h:Heap}:∀{xs:List PV} {is:List Int} {vs:List Value},hY xs=some is->aH C h xs vs->IntsAre vs is
 |[],_,_,e,r=>by replace e:=iS e;subst e;cases r;exact .nil
 |x :: xs,is,vs,e,r=>by
  obtain⟨v,w,rfl,r1,r2⟩:=r;cases x<;>try exact nS e
  rename_i i
  refine mE e λjs e1 qq=>?_;subst qq;refine af r1 ?_;clear r1;intro t q1q;subst q1q;exact .cons i t (lN e1 r2)
theorem lS{C:Cx}{h:Heap}:∀{xs:List PV} {ss:List Str} {vs:List Value},pc xs=some ss->aH C h xs vs->∃l:List (Str×Tok),vs=strValues l/\l.map (·.1)=ss
 |[],_,_,e,r=>by replace e:=iS e;subst e;cases r;exact⟨[],rfl,rfl⟩
 |x :: xs,is,vs,e,r=>by
  obtain⟨v,w,rfl,r1,r2⟩:=r;cases x<;>try exact nS e
  rename_i i
  refine mE e λjs e1 qq=>?_;subst qq;refine af r1 ?_;clear r1;intro t q1q;subst q1q;refine aP (lS e1 r2) λl q1q q2q=>?_;subst q1q;subst q2q;exact⟨(i,t) :: l,rfl,rfl⟩
theorem wS{vs:List Value}{is:List Int}(h:IntsAre vs is):∀(j:Nat) (v:Value),vs[j]?=some v->∃t,v=Value.int (is.getD j 0) t:=by
 induction h with
 |nil=>exact λj v e=>nS e
 |cons n t h ih=>
  intro j v e;cases j with
  |zero=>exact⟨t,(iS e).symm⟩
  |succ j=>exact ih j v e
theorem xe(is:List Int):preSum (λj=>is.getD j 0) is.length=is.sum:=by
 have key:∀(n:Nat),n<=is.length->preSum (λj=>is.getD j 0) n=(is.take n).sum:=by
  intro n
  induction n with
  |zero=>intro _;rfl
  |succ n ih=>
   intro hn;rewrite[preSum];rw[ih (by lia)];rw[List.take_add_one];rw[List.sum_append];have:is[n]?=some (is.getD n 0):=by simp[List.getD,rh (show n<is.length by lia)]
   rw[this];simp
 have:=key is.length (d4 _)
 rwa [List.take_length]at this
section
variable{B:aX}{C:Cx}{A:Around}{s:Shared}{Q:aJ Value}
noncomputable def BF.val:BF->Value
 |.len=>.builtin "len" | .sum=>.builtin "sum" | .hex=>.builtin "hex" | .chr=>.builtin "chr" | .ord=>.builtin "ord" | .max=>.builtin "max"
 |.bytes=>.type "bytes" | .range=>.type "range" | .enumerate=>.type "enumerate" | .zip=>.type "zip"
theorem GH{l:Addr}{vs:List Value}{is:List Int}(hh:A.handled=none)(hl:s.heap.IsList l vs.toArray)(hi:IntsAre vs is)
  (h:∀t s',a9 none s s'->Q (.int is.sum t) s'):WP B A (call (.builtin "sum") [.ref l]) Q s:=by
 refine call_sum_walkG (wpAny_pyIter_list hl ?_);obtain⟨o,ho,hc,n,hd⟩:=id hl;have hlt:=gB ho;have hne:l≠s.heap.objs.size:=Nat.ne_of_lt hlt;refine⟨s.heap.objs.size,[s.heap.objs.size,l],[s.heap.objs.size],vs.length,_,_,λj=>is.getD j 0,rfl,Walks.list (A:=A.in1) hh _ l hne vs.toArray,⟨⟨_,cZ _ rfl,rfl,rfl⟩,hl.push _⟩,λb hb=>?_,λi v hv=>?_,λh' tk t' hk=>?_⟩
 ·rw[fE ..];rcases ah.mp hb with rfl|hb
  ·exact ie _
  ·rcases ah.mp hb with rfl|hb
   ·exact Nat.lt_succ_of_lt hlt
   ·cases hb
 ·exact wS hi i v (by simpa using hv)
 ·rw[hi.length];rw[xe ..];exact h t' _ (.mk' λa o e=>hk a o (by simp;rintro rfl;replace e:=(aV ..)▸e;exact nS e) (bK _ e))
theorem Gr{p:PV}{i:Int}{v:Value}(e:Hi p=some i)(r1:an C s.heap p v)(h:lW C s (.int i) Q):WP B A (call (.builtin "len") [v]) Q s:=by
 cases p with
 |list xs=>
  refine jF e λg e=>?_;replace e:=iS e;subst e;obtain⟨a,vs,n,rfl,_,_,_,g1,rs⟩:=r1;refine Calls.call_len_list (items:=vs.toArray) ⟨_,g1,rfl,n,rfl⟩ ?_ ?_
  ·have:=rs.length;simp only[List.size_toArray,this];unfold cap at g;lia
  ·have:=rs.length;simp only[List.size_toArray,this];exact h _ _ .tick an.int'
 |view xs=>
  refine jF e λg e=>?_;replace e:=iS e;subst e;obtain⟨a,vs,n,rfl,_,_,g1,rs⟩:=r1;refine Calls.call_len_list (items:=vs.toArray) ⟨_,g1,rfl,n,rfl⟩ ?_ ?_
  ·have:=rs.length;simp only[List.size_toArray,this];unfold cap at g;lia
  ·have:=rs.length;simp only[List.size_toArray,this];exact h _ _ .tick an.int'
 |str x=>refine jF e λg e=>?_;replace e:=iS e;subst e;refine af r1 ?_;clear r1;intro t q1q;subst q1q;exact PyProof.Rows.len_str (by unfold cap at g;lia) (h _ _ .tick an.int')
 |bytes b=>refine jF e λg e=>?_;replace e:=iS e;subst e;refine af r1 ?_;clear r1;intro t q1q;subst q1q;exact PySem.W.len_bytes (by unfold cap at g;lia) (h _ _ .tick an.int')
 |_=>exact nS e
theorem uu{f:BF}{ps:List PV}{r:PV}{vs:List Value}{k:Nat}(F:bJ (k+1) A)(e:eL f ps=some r)(rs:aH C s.heap ps vs)(h:lW C s r Q):
  WP B A (call f.val vs) Q s:=by
 revert rs;cases f with
 |len=>refine eK e λp e rs=>oI rs λv r1=>?_;refine mE e λi e0 qq=>?_;subst qq;exact Gr e0 r1 h
 |sum=>refine eK e λp e rs=>oI rs λv=>Bh e λxs e=>?_;rintro⟨a,vs,n,rfl,_,_,_,g1,rs⟩;refine bE e λis e1 e=>?_;replace e:=iS e;subst e;exact GH F.hd ⟨_,g1,rfl,n,rfl⟩ (lN e1 rs) λt s' x=>h _ _ x an.int'
 |hex=>refine eK e λp e rs=>oI rs λv=>ch e λi e=>?_;rintro⟨t,rfl⟩;refine bA e λg e=>?_;replace e:=iS e;subst e;exact P.hex_of_int (h _ _ .tick an.str') (show _<=cap from de (fn g) (by decide))
 |chr=>refine eK e λp e rs=>oI rs λv=>ch e λi e=>?_;rintro⟨t,rfl⟩;refine bA e λg e=>?_;replace e:=iS e;subst e;have g1:=of_decide_eq_true (a2 g).1;have g2:=of_decide_eq_true (a2 g).2;exact P.chr_of_int (Bool.or_eq_false_iff.mpr ⟨decide_eq_false (by omega),decide_eq_false (by omega)⟩) (h _ _ .tick an.str')
 |ord=>
  refine eK e λp e rs=>oI rs λv=>i4 e λx e=>?_;rintro⟨t,rfl⟩;obtain⟨⟨cs⟩⟩:=x
  match cs,e with
  |[c],e=>replace e:=iS e;subst e;exact P.ord_of_char (h _ _ .tick an.int')
 |max=>
  refine wh e λp q e rs=>Af rs λv w=>ch e λa e=>ch e λb e=>?_;rintro⟨t,rfl⟩ ⟨u,rfl⟩;replace e:=iS e;subst e;refine max_two_ints F.hd λh' tk hk=>?_;by_cases g:b > a
  ·rw[if_pos g];exact h _ _ (.mk' hk) (by rw[if_pos (show a<b from g)];exact an.int')
  ·rw[if_neg g];exact h _ _ (.mk' hk) (by rw[if_neg (show ¬a<b from g)];exact an.int')
 |bytes=>
  refine eK e λp e rs=>oI rs λv=>Bh e λxs e=>?_;rintro⟨a,vs,n,rfl,_,_,_,g1,rs⟩;refine bE e λis e1 e=>?_;refine bA e λg e=>?_;replace e:=iS e;subst e;exact call_bytes_ints ⟨_,g1,rfl,n,rfl⟩ (lN e1 rs) (λn hn=>(a2 (bD.mp (a2 g).2 n hn)).imp of_decide_eq_true of_decide_eq_true) (show _<=cap by rw[rs.length];exact de (fn (a2 g).1) (by decide)) F.hd
   λh' t k hk=>h _ _ (.mk' hk) ⟨t,rfl⟩
 |_=>exact nS e
end
section
variable{B:aX}{C:Cx}{A:Around}{s:Shared}{Q:aJ Value}{env:Env}
theorem jG{value slice:Expr}{o i:Value}{T id:String}(hT:s.TypeIs o T)(hl:typeLookup (.type T) "__getitem__"=pure (some (.builtin id)))(h:WP B A (getItem o i) Q s):
  WP B A (subscriptTail value slice o i) Q s:=by
 unfold subscriptTail;refine wpAny_bind ?_;rw[getitemInPython_of_ne hT.not_modules];refine wpAny_bind (wpAny_specialOf hT hl (wpAny_pure (wpAny_bind ?_)));have fin:WP B A (operate [o,i] (getItem o i)) (λr s₃=>WP B A (letTemporaryGo value o r >>= λ_=>pure r) Q s₃) s /\
   WP B A (operate [i,o] (getItem o i)) (λr s₃=>WP B A (letTemporaryGo value o r >>= λ_=>pure r) Q s₃) s:=
  ⟨wpAny_operating (wpAny_mono h (λr s₃ h₃=>wpAny_bind (wpAny_letTemporaryGo (wpAny_pure h₃))) λ_ _ x=>x),
  wpAny_operating (wpAny_mono h (λr s₃ h₃=>wpAny_bind (wpAny_letTemporaryGo (wpAny_pure h₃))) λ_ _ x=>x)⟩
 have key:subscripted slice false o i=operate [i,o] (getItem o i)\/subscripted slice false o i=operate [o,i] (getItem o i):=by
  cases slice with
  |Slice a b c d=>cases c with
   |none=>exact .inl rfl
   |some _=>exact .inr rfl
  |_=>exact .inr rfl
 rcases key with k|k
 ·rw[k];exact fin.2
 ·rw[k];exact fin.1
theorem iz{k:Int}{n:Nat}(h0:0<=k)(h1:k.toNat<n):seqIndex? k n=some k.toNat:=by
 unfold seqIndex?;have h2:¬k<0:=by lia
 have h3:k<n:=by lia
 simp[h2,h0,h3]
theorem FI{value slice:Expr}{p q r:PV}{o i:Value}(e:kn p q=some r)(ro:an C s.heap p o)(ri:an C s.heap q i)(h:lW C s r Q):
  WP B A (subscriptTail value slice o i) Q s:=by
 revert ri;refine ch e λk e ri=>rI ri λt=>?_;have lst:∀{xs:List PV} {a:Addr} {vs:List Value},aw (decide (0<=k)&&decide (k<1000000)) (xs[k.toNat]?)=some r->s.heap.IsList a vs.toArray->aH C s.heap xs vs->WP B A (subscriptTail value slice (.ref a) (.int k t)) Q s:=by intro xs a vs e hl rs;refine bA e λg e=>?_;have g1:=of_decide_eq_true (a2 g).1;have g2:=of_decide_eq_true (a2 g).2;refine aP (rs.get e) λv ev rv=>?_;exact jG (T:="list") (by refine d1 hl ?_;clear hl;intro o ho hc _;exact⟨o,ho,hc⟩) F.slot_list_getitem.lookup (wpAny_getItem_list hl g1 (by lia) (by simpa using ev) (h _ _ (.refl _ _) rv))
 cases p with
 |str x=>
  refine bA e λg e=>?_;have g1:=of_decide_eq_true (a2 g).1;have g2:=of_decide_eq_true (a2 g).2;refine mE e λc ec qq=>?_;subst qq;refine rS ro λu=>?_;have hlt:k.toNat<x.length:=(uq.mp ec).1;refine jG (T:="str") (typeIs_str _ _ _) F.slot_str_getitem.lookup (P.getItem_str (c:=c) (Bool.or_eq_false_iff.mpr ⟨decide_eq_false ?_,decide_eq_false ?_⟩) ?_ (h _ _ .tick an.str'))
  ·lia
  ·lia
  ·rw[iz g1 hlt];exact ec
 |list xs=>obtain⟨a,vs,n,rfl,_,_,_,g1,rs⟩:=ro;exact lst e ⟨_,g1,rfl,n,rfl⟩ rs
 |view xs=>obtain⟨a,vs,n,rfl,_,_,g1,rs⟩:=ro;exact lst e ⟨_,g1,rfl,n,rfl⟩ rs
 |tuple xs=>
  obtain⟨a,vs,rfl,_,_,_,hl,rs⟩:=ro;refine bA e λg e=>?_;have g1:=of_decide_eq_true (a2 g).1;have g2:=of_decide_eq_true (a2 g).2;refine aP (rs.get e) λv ev rv=>?_;have hlt:k.toNat<vs.length:=(List.getElem?_eq_some_iff.mp ev).1;exact jG (T:="tuple") (by refine d1 hl ?_;clear hl;intro o ho hc _;exact⟨o,ho,hc⟩) F.slot_tuple_getitem.lookup
   (PyProof.Rows.getItem_tuple (items:=vs.toArray) hl (by lia) (by lia) (iz g1 hlt) (by simpa using ev) (h _ _ (.refl _ _) rv))
 |_=>exact nS e
theorem nK{p:PV}{v:Value}{x:Option Int}{hp:Heap}(e:yK p=some x)(r:an C hp p v):IsPart v x/\∃y:Option (Int×Tok),v=partValue y/\y.map (·.1)=x:=by
 cases p with
 |none=>replace e:=iS e;subst e;cases r;exact⟨.none,none,rfl,rfl⟩
 |int i=>replace e:=iS e;subst e;refine af r ?_;clear r;intro t q1q;subst q1q;exact⟨.int i t,some (i,t),rfl,rfl⟩
 |_=>exact nS e
theorem aH.pick{h:Heap}{ps:List PV}{vs:List Value}(r:aH C h ps vs):∀is:List Nat,aH C h (is.filterMap (ps[·]?)) (is.filterMap (vs[·]?))
 |[]=>rfl
 |i :: is=>by
  have ih:=aH.pick r is;cases e:ps[i]? with
  |some p=>refine aP (r.get e) λv ev rv=>?_;rw[List.filterMap_cons_some (b:=p) e];rw[List.filterMap_cons_some (b:=v) ev];exact⟨v,_,rfl,rv,ih⟩
  |none=>
   have hv:vs[i]?=none:=by rw[List.getElem?_eq_none_iff]at e ⊢;rw[r.length];exact e
   rw[List.filterMap_cons_none e];rw[List.filterMap_cons_none hv];exact ih
theorem Dd{value slice:Expr}{o l u st r:PV}{ov lv uv sv:Value}(L:ef C s.heap)(e:zj o l u st=some r)(ro:an C s.heap o ov)(rl:an C s.heap l lv)(ru:an C s.heap u uv)(rs:an C s.heap st sv)
  (h:lW C s r Q):
  WP B A (subscriptTail value slice ov (.ref s.heap.objs.size)) Q { s with heap:=s.heap.push { cls:=.type "slice",data:=.fields #[lv,uv,sv] } }:=by
 refine bE e λlo el e=>?_;refine bE e λhi eu e=>?_;refine bE e λsp es e=>?_;obtain⟨pl,l',rfl,hl'⟩:=nK el rl;obtain⟨pu,u',rfl,hu'⟩:=nK eu ru;obtain⟨ps,s',rfl,hs'⟩:=nK es rs;have x1:a9 none s { s with heap:=s.heap.push { cls:=.type "slice",data:=.fields #[partValue l',partValue u',partValue s'] } }:=.lay';have L1:ef C (s.heap.push { cls:=.type "slice",data:=.fields #[partValue l',partValue u',partValue s'] }):=L.keep x1.all;have hsl:=Heap.IsSliceOf.new s.heap (partValue l') (partValue u') (partValue s');have lst:∀{xs:List PV} {a:Addr} {vs:List Value},aw (!(sp==some 0)) (fit xs.length (some (PV.list (fC xs lo hi sp))))=some r->s.heap.IsList a vs.toArray->aH C s.heap xs vs ->
   WP B A (subscriptTail value slice (.ref a) (.ref s.heap.objs.size)) Q { s with heap:=s.heap.push { cls:=.type "slice",data:=.fields #[partValue l',partValue u',partValue s'] } }:=by
  intro xs a vs e hl rs;refine bA e λg e=>?_;refine jF e λgz e=>?_;replace e:=iS e;subst e;refine jG (T:="list") (by refine d1 hl ?_;clear hl;intro o ho hc _;exact⟨o,x1.all _ _ ho,hc⟩) F.slot_list_getitem.lookup
   (wpAny_getItem_list_slice (items:=vs.toArray) (hl.push _) hsl pl pu ps (by intro z;subst z;simp at g) (h _ _ (x1.trans .lay') ?_) (show _<=cap by simpa[rs.length]using gz))
  have:=an.newList L1 ((rs.kept x1).pick (sliceRange (sliceBounds lo hi sp xs.length).1 (sliceBounds lo hi sp xs.length).2.1 (sliceBounds lo hi sp xs.length).2.2));have e2:(slicePick vs.toArray lo hi sp)=((sliceRange (sliceBounds lo hi sp xs.length).1 (sliceBounds lo hi sp xs.length).2.1 (sliceBounds lo hi sp xs.length).2.2).filterMap (vs[·]?)).toArray:=by unfold slicePick;simp[rs.length]
  rw[e2];exact this
 cases o with
 |str x=>
  refine bA e λg e7=>?_;simp only[cC,beq_iff_eq]at g;refine cL g ?_;clear g;intro g1 g2;clear e;subst g1;have hs0:s'=none:=by cases s'<;>simp_all
  subst hs0;replace e7:=iS e7;subst e7;refine af ro ?_;clear ro;intro t q1q;subst q1q;refine jG (T:="str") (typeIs_str _ _ _) F.slot_str_getitem.lookup (wpAny_getItem_str_slice (l:=l') (u:=u') (st:=none) hsl rfl ?_);unfold sliceMade slicePicked;have e0:((Option.map (λx=>x.fst) (none:Option (Int×Tok))).getD 1)=1:=rfl;rw[hl'];rw[hu'];rw[e0];by_cases hq:((Builtin.Str.strSliceIndices lo hi 1 x.length).length==x.length)=true
  ·rw[if_pos (by assumption)];refine h _ _ x1 ?_;rw[show gq x lo hi=x from if_pos hq];exact⟨t,rfl⟩
  ·rw[if_neg (by simpa using hq)];have e3:gq x lo hi=⟨((Builtin.Str.strSliceIndices lo hi 1 x.length).filterMap (x.cps[·]?)).toArray⟩:=if_neg hq;rw[e3]at g2 h;exact⟨de (fn g2) (by decide),h _ _ (x1.trans .tick) an.str'⟩
 |list xs=>obtain⟨a,vs,n,rfl,_,_,_,g1,rs⟩:=ro;exact lst e ⟨_,g1,rfl,n,rfl⟩ rs
 |view xs=>obtain⟨a,vs,n,rfl,_,_,g1,rs⟩:=ro;exact lst e ⟨_,g1,rfl,n,rfl⟩ rs
 |arg xs=>obtain⟨a,vs,rfl,_,_,_,g1,rs⟩:=ro;exact lst e g1 rs
 |_=>exact nS e
end
section
variable{B:aX}{C:Cx}{A:Around}{s:Shared}{Q:aJ Value}{env:Env}
theorem fB{f:Value}{args:List (Bool×Sem Value)}{Q:aJ Args}(hs:∀x∈args,x.1=false)(h:WP B A (spliced args) (λvs s'=>Q ⟨vs,[]⟩ s') s):WP B A (evalArgs f true args []) Q s:=by
 cases args with
 |nil=>unfold evalArgs;refine(?_:wpAny _ A (spliced [] >>= _) Q _ s);refine wpAny_bind (wpAny_mono h (λvs s' hq=>?_) λ_ _ x=>x);refine wpAny_bind (wpAny_pure ?_);refine wpAny_holding ?_;exact wpAny_bind (wpAny_pure (wpAny_bind (wpAny_pure (wpAny_pure hq))))
 |cons x r=>obtain⟨b,t⟩:=x;have:b=false:=hs _ bW;subst this;exact o6 h
theorem xU{args:List (Bool×Sem Value)}(hs:∀x∈args,x.1=false):args.any (·.1)=false:=by rewrite[List.any_eq_false];intro x hx;rw[hs x hx];exact j9
theorem pq{pos:Pos}{f:BF}{first:List Value}{args:List (Bool×Sem Value)}(hs:∀x∈args,x.1=false)
  (h:WP B A (spliced args) (λvs s'=>WP B A (call f.val (first++vs)) Q s') s):WP B A (callWith pos f.val first args []) Q s:=by
 have k1:∀{id:String},f.val=.builtin id->WP B A (callWith pos f.val first args []) Q s:=λe=>by rw[e]at h ⊢;exact Calls.callWith_builtin (xU hs) (fB hs h)
 have k2:∀{T:String},f.val=.type T->WP B A (callWith pos f.val first args []) Q s:=λe=>by rw[e]at h ⊢;exact PySem.callWith_type (xU hs) (fB hs h)
 cases f
 ·exact k1 rfl
 ·exact k1 rfl
 ·exact k1 rfl
 ·exact k1 rfl
 ·exact k1 rfl
 ·exact k1 rfl
 ·exact k2 rfl
 ·exact k2 rfl
 ·exact k2 rfl
 ·exact k2 rfl
theorem eW{pos:Pos}{id:String}{first:List Value}{args:List (Bool×Sem Value)}(hs:∀x∈args,x.1=false)
  (h:WP B A (spliced args) (λvs s'=>WP B A (call (.builtin id) (first++vs)) Q s') s):WP B A (callWith pos (.builtin id) first args []) Q s:=
 Calls.callWith_builtin (xU hs) (fB hs (wpAny_mono h (λ_ _ x=>x) λ_ _ x=>x))
theorem d0{pos:Pos}{a:Addr}{o:Obj}{fd:FuncData}{first:List Value}{args:List (Bool×Sem Value)}(hs:∀x∈args,x.1=false)
  (h:WP B A (spliced args) (λvs s'=>(s'.heap.get? a=some o/\o.data=.func fd)/\WP B A (call (.ref a) (first++vs)) Q s') s):WP B A (callWith pos (.ref a) first args []) Q s:=
 Calls.callWith_function (fB hs (wpAny_mono h (λ_ _ x=>x) λ_ _ x=>x))
theorem dy{o:Expr}{name:Str}{apos pos:Pos}{args:List Expr}
  (hbase:∀{Q:aJ Value},WP B A (eval o env) Q s->WP B A (attributeBase o name env (eval o env)) Q s)
  (hs:∀x∈backTo pos (starEach args env),x.1=false) (hn:args.length<29) (hline:(apos.endLine==pos.line)=true)
  (h:WP B A (eval o env) (λov s₁=>∀pl,WP B A (getMethod ov name pl) (λr s₂=>WP B A (callWith pos r.1 r.2 (backTo pos (starEach args env)) []) Q s₂) s₁) s):
  WP B A (eval (.Call (.Attribute o name apos) args [] pos) env) Q s:=by
 rw[arm_eval_Call ..];refine wpAny_bind (wpAny_mono (hbase h) (λov s₁ h₁=>?_) λ_ _ e=>e);refine wpAny_bind (wpAny_standAt ?_);have hform:methodCallForm (args.length+([]:List Keyword).length) (backTo pos (starEach args env)) (backToKw pos (keywordEach [] env))=true:=by
  unfold methodCallForm;have h1:(backTo pos (starEach args env)).all (λx=> !x.1)=true:=by rewrite[bD];intro x hx;rw[hs x hx];rfl
  rw[h1];have:backToKw pos (keywordEach [] env)=[]:=rfl;rw[this];simp;lia
 have hpos:methodCallPos true o env apos pos=pure pos:=by unfold methodCallPos;simp[hline]
 unfold methodCall;rw[hform];refine wpAny_bind (wpAny_holding (wpAny_mono (h₁ _) (λr s₂ h₂=>?_) λ_ _ x=>x));exact wpAny_bind (wpAny_of_eq hpos h₂)
theorem yF{h:Heap}:∀l:List (Str×Tok),aH C h ((l.map (·.1)).map .str) (strValues l)
 |[]=>rfl
 |(x,t) :: l=>⟨_,_,rfl,⟨t,rfl⟩,yF l⟩
open Builtin Builtin.Str in
theorem Cd{x y:Str}{t u:Tok}(hy:(y.length==0)=false)(hx:x.length<=1000)(hp:(partsBetween x (occurrences x y 0 x.length (x.length+1)) y.length).length<=1000)(L:ef C s.heap)
  (h:lW C s (.list ((Txt.split x y).map .str)) Q):WP B A (call (.builtin "str.split") [.str x t,.str y u]) Q s:=by
 have fin:∀(l:List (Str×Tok)) (k:Nat),l.map (·.1)=Txt.split x y->Q (.ref s.heap.objs.size) { s with heap:=s.heap.push { cls:=.type "list",data:=.seq (strValues l).toArray },toks:=k }:=λl k e=>by refine h _ _ .lay ?_;rw[e.symm];exact an.newList L (yF l)
 have hs1:x.length<=sizeLine:=de hx (by decide);have hs2:(partsBetween x (occurrences x y 0 x.length (x.length+1)) y.length).length<=sizeLine:=de hp (by decide);cases h1:(decide (x.length<y.length)||decide (strKind x<strKind y))
 ·cases hf:(occurrences x y 0 x.length (x.length+1)).isEmpty
  ·refine call_meets F.slot_str_split (typeIs_str _ _ _) F.entry_str_split (F.args_str_split_2 _ _) (meets_str_split_sep x y t u h1 hy hf hs1 hs2) ?_;refine(?_:wants Q _ _ { s with toks:=_,heap:=s.heap.push { cls:=.type "list",data:=.seq (strsFrom s.toks (partsBetween x (occurrences x y 0 x.length (x.length+1)) y.length)).toArray } });rw[strsFrom_eq ..];exact fin _ _ ((numbered_texts _ _).trans ((if_neg (ne_true_of_eq_false h1)).trans (if_neg (ne_true_of_eq_false hf))).symm)
  ·exact call_meets F.slot_str_split (typeIs_str _ _ _) F.entry_str_split (F.args_str_split_2 _ _) (meets_str_split_not_found x y t u h1 hy hf)
    (fin [(x,t)] s.toks ((if_neg (ne_true_of_eq_false h1)).trans (if_pos hf)).symm)
 ·exact call_meets F.slot_str_split (typeIs_str _ _ _) F.entry_str_split (F.args_str_split_2 _ _) (meets_str_split_cannot_occur x y t u h1)
   (fin [(x,t)] s.toks (if_pos h1).symm)
theorem qt{m:MF}{x:Str}{ps:List PV}{T T':aC}{r:PV}{u:Tok}{pos:Pos}{args:List (Bool×Sem Value)}{pl:Sem Bool}(hs:∀x∈args,x.1=false)
  (e:Bs T x m ps=some (r,T'))
  (h:WP B A (spliced args) (λvs s'=>ef C s'.heap/\aH C s'.heap ps vs/\lW C s' r Q) s):
  T'=T/\WP B A (getMethod (.str x u) m.nm pl) (λf s₂=>WP B A (callWith pos f.1 f.2 args []) Q s₂) s:=by
 revert h;cases m with
 |join=>refine eK e λp e h=>?_;refine bE e λxs e1 e=>?_;refine bE e λss e2 e=>?_;refine bA e λg e=>?_;refine cL (iP e) λq1q q2q=>?_;subst q1q;subst q2q;refine⟨rfl,GM.join (eW hs (wpAny_mono h (λvs s' h=>oI h.2.1 λv r1=>?_) λ_ _ x=>x))⟩;refine vr (kP e1 r1) λa ws n q1q g1 rs=>?_;subst q1q;refine aP (lS e2 rs) λl q1q hl=>?_;subst q1q;exact SC.join (l:=l) ⟨_,g1,rfl,n,rfl⟩ hl g λt' k=>h.2.2 _ _ .tick an.str'
 |split=>refine eK e λp e=>i4 e λy e h=>?_;refine bA e λg e=>?_;refine cL (iP e) λq1q q2q=>?_;subst q1q;subst q2q;refine⟨rfl,GM.split (eW hs (wpAny_mono h (λvs s' h=>oI h.2.1 λv r1=>?_) λ_ _ x=>x))⟩;refine af r1 ?_;clear r1;intro t q1q;subst q1q;exact Cd ((kJ _).mp (a3 g).1) (fn (a3 g).2.1) (fn (a3 g).2.2) h.1 h.2.2
 |index=>
  refine eK e λp e=>i4 e λy e h=>?_;unfold wo at e;cases ho:Builtin.Str.occurrences x y 0 x.length 1 with
  |nil=>replace e:=ho▸e;exact nS e
  |cons i is=>replace e:=ho▸e;refine cL (iP e) λq1q q2q=>?_;subst q1q;subst q2q;refine⟨rfl,GM.index (eW hs (wpAny_mono h (λvs s' h=>oI h.2.1 λv r1=>?_) λ_ _ x=>x))⟩;refine af r1 ?_;clear r1;intro t q1q;subst q1q;exact SC.index ho (h.2.2 _ _ .tick an.int')
 |lower=>refine uI e λe h=>?_;refine bA e λg e=>?_;refine cL (iP e) λq1q q2q=>?_;subst q1q;subst q2q;refine⟨rfl,GM.lower (eW hs (wpAny_mono h (λvs s' h=>?_) λ_ _ x=>x))⟩;refine km h ?_;clear h;intro L q1q h;subst q1q;exact SCL.lower (de (fn g) (by decide)) (λ_=>h _ _ .tick an.str')
 |_=>exact nS e
theorem qh:∀{ss:List Str} {y:Str} {i j:Nat},pK ss y i=some j->i<=j/\j-i<ss.length/\ss[j-i]?=some y/\∀m,m<j-i->∀x,ss[m]?=some x->(x==y)=false
 |[],_,_,_,e=>nS e
 |z :: r,y,i,j,e=>by
  replace e:=EX▸e;cases hz:z==y with
  |true=>replace e:=hz▸e;replace e:=iS e;subst e;simp at hz;simp[hz]
  |false=>
   replace e:=hz▸e;refine kH (qh (show pK r y (i+1)=some j from e)) λh1 h2 h3 h4=>?_;have e1:j-i=(j-(i+1))+1:=Js h1;refine⟨Nat.le_of_succ_le h1,by rw[e1];exact eE h2,by rw[e1];exact h3,λm hm x hx=>?_⟩;cases m with
   |zero=>simp at hx;subst hx;exact hz
   |succ m=>exact h4 m (Nat.lt_of_succ_lt_succ (Nat.lt_of_lt_of_eq hm e1)) x hx
theorem tD{pos:Pos}{xs:List PV}{ss:List Str}{y:Str}{j:Nat}{l:Addr}{args:List (Bool×Sem Value)}{pl:Sem Bool}(hs:∀x∈args,x.1=false)
  (e1:pc xs=some ss) (e2:pK ss y 0=some j) (hx:xs.length<=1000) (hl:∃o,s.heap.get? l=some o/\o.cls=.type "list"/\o.dict=none)
  (h:WP B A (spliced args) (λvs s'=>aH C s'.heap [.str y] vs/\(∃ws n,s'.heap.get? l=some (aT ws n)/\aH C s'.heap xs ws)/\lW C s' (.int (j:Nat)) Q) s):
  WP B A (getMethod (.ref l) "index" pl) (λf s₂=>WP B A (callWith pos f.1 f.2 args []) Q s₂) s:=by
 refine d1 hl ?_;clear hl;intro o ho hc hd;refine getMethod_builtin (T:="list") (id:="list.index") ⟨o,ho,hc⟩ F.plainAttrs_list F.slot_list_index F.type_list_index (λa e=>by cases e;exact⟨o,ho,hd⟩) ?_;refine eW hs (wpAny_mono h (λvs s' hq=>?_) λ_ _ x=>x);obtain⟨⟨v,w,rfl,⟨t,rfl⟩,r2⟩,⟨ws,n,g,rs⟩,hq⟩:=hq;cases r2;refine aP (lS e1 rs) λlst q1q hlst=>?_;subst q1q;refine kH (qh e2) λ_ h2 h3 h4=>?_;simp only[Nat.sub_zero]at h2 h3 h4;have hlen:(strValues lst).toArray.size=ss.length:=by rw[hlst.symm];simp[strValues]
 have item:∀m (hm:m<(strValues lst).toArray.size),∃x u,(strValues lst).toArray[m]=.str x u/\ss[m]?=some x:=by
  intro m hm;have hm':m<lst.length:=by simpa[strValues]using hm
  refine⟨lst[m].1,lst[m].2,by simp[strValues],?_⟩;rw[hlst.symm];simp[rh hm']
 let f:Value->Bool:=λv=>match v with|.str x _=>x==y|_=>false
 have hf:∀u,u∈(strValues lst).toArray->MeetsSeq.EqGives u (.str y t) (f u):=by intro u hu;obtain⟨m,hm,rfl⟩:=Array.mem_iff_getElem.mp hu;refine lV (item m hm) λx u e _=>?_;rw[e];exact λ_ _ _ _ _ _ h=>wpAny_eqBool_str h
 have hj:j<(strValues lst).toArray.size:=by rw[hlen];exact h2
 have hsm:lst.length<=1000:=by have:=rs.length;simp[strValues]at this;omega
 exact call_meets F.slot_list_index ⟨_,g,rfl⟩ F.entry_list_index (F.args_list_index_2 _ _) (MeetsSeq.list_index l _ n _ f hf j hj
  (by simp[strValues]at hj;omega)
  (by refine lV (item j hj) λx u e ex=>?_;rw[e];replace ex:=h3▸ex;replace ex:=iS ex;subst ex;exact beq_self_eq_true _)
  (λm hm hmj=>by refine lV (item m hm) λx u e ex=>?_;rw[e];exact h4 m hmj x ex)) ⟨g,hq _ _ .tick an.int'⟩
end
noncomputable def HX(tup:Bool)(tgt:Expr)(p:PV):Prop:=(tup=false/\∃x q,tgt=.Name x q)\/∃ts k q ps,tgt=.Tuple ts k q/\p=.tuple ps
structure IV(W:Addr->Prop)(s s':Shared):Prop where
 gens:s'.gens=s.gens
 drawn:s'.drawn=s.drawn
 os:s'.os=s.os
 keep:∀a o,¬W a->s.heap.get? a=some o->s'.heap.get? a=some o
noncomputable def Nx(P:aJ Value):Option Value->Shared->Prop
 |none,_=>False
 |some v,s=>P v s
noncomputable def Nd(P:Shared->Prop):Option Value->Shared->Prop
 |none,s=>P s
 |some _,_=>False
structure bC(C₀:Cx)(hb:Heap)(C:Cx):Prop where
 x:C.X=C₀.X
 hl:C.hl=C₀.hl
 ta:C.ta=C₀.ta
 sub:∀a,C₀.F a->C.F a
 f:∀a,C.F a->C₀.F a\/hb.get? a=none
theorem bC.refl(C:Cx)(h:Heap):bC C h C:=⟨rfl,rfl,rfl,λ_ x=>x,λ_ x=>.inl x⟩
noncomputable def d9(C₀:Cx)(hb h:Heap):Prop:=∀a o,¬C₀.X a->¬C₀.F a->C₀.hl≠some a->hb.get? a=some o->h.get? a=some o
structure It(B:aX)(C₀:Cx)(hb:Heap)(A:Around)(tup:Bool)(W:Addr->Prop)(xs:List PV)(it:Value)(St:Nat->Heap->Prop):Prop where
 frame:∀C,bC C₀ hb C->∀i h h',St i h->(∀a o,¬C.F a->C.hl≠some a->h.get? a=some o->h'.get? a=some o)->St i h'
 live:∀i h,St i h->∀a,W a->h.get? a≠none
 next:∀C,bC C₀ hb C->∀(tgt:Expr) i p s (Q:aJ Value),HX tup tgt p->xs[i]?=some p->St i s.heap->ef C s.heap->(∀v s',IV W s s'->an C s'.heap p v->St (i+1) s'.heap->Q v s') ->
  WP B A (pyNext it) (Nx λv s₁=>WP B A (letOwnedTupleGo tgt it v) (λ_ s₂=>Q v s₂) s₁) s
 done:∀s (Q:Shared->Prop),St xs.length s.heap->(∀s',IV W s s'->Q s')->WP B A (pyNext it) (Nd Q) s
 self:∀s (Q:aJ Value),St 0 s.heap->Q it s->WP B A (pyIter it) Q s
section
variable{B:aX}{C:Cx}{A:Around}{hb:Heap}
theorem d9.own{C₀:Cx}{h h':Heap}{wr:List Addr}(R:d9 C₀ hb h)(hwr:∀b∈wr,C₀.X b)(hk:∀a o,a∉wr->h.get? a=some o->h'.get? a=some o):d9 C₀ hb h':=
 λa o x f l e=>hk a o (λm=>x (hwr a m)) (R a o x f l e)
theorem d9.frame{C₀ C:Cx}{h h':Heap}(R:d9 C₀ hb h)(G:bC C₀ hb C)(hk:∀a o,¬C.F a->C.hl≠some a->h.get? a=some o->h'.get? a=some o):d9 C₀ hb h':=
 λa o x f l e=>hk a o (λq=>(G.f a q).elim f λn=>by replace n:=e▸n;exact sN n) (G.hl▸l) (R a o x f l e)
theorem d9.reps{C₀ C:Cx}{h:Heap}(R:d9 C₀ hb h)(G:bC C₀ hb C){ps:List PV}{vs:List Value}(c:aA ps=true)(r:aH C₀ hb ps vs):aH C h ps vs:=
 r.move (C:=C₀) (C':=C) (λa o x f l e=>⟨G.x▸x,(λ(q:C.F a)=>(G.f a q).elim f λn=>by replace n:=e▸n;exact sN n),G.hl▸l,R a o x f l e⟩) (λa e=>G.ta▸e) c
theorem It.ofWalks{xs:List PV}{I:Addr}{fp wr:List Addr}{n:Nat}{P:Nat->Value->Prop}{St0:Nat->Heap->Prop}(W:Walks B.prog B.w A I fp wr n P St0)(hn:n=xs.length)
  (hfp:∀b∈fp,¬C.F b/\C.hl≠some b/\hb.get? b≠none) (hwr:∀b∈wr,C.X b) (hlv:∀i h,St0 i h->∀a∈wr,h.get? a≠none)
  (hrep:∀C',bC C hb C'->∀i p v h,xs[i]?=some p->P i v->d9 C hb h->an C' h p v)
  (hgo:∀ts k q i T s (Q:aJ Unit),St0 i s.heap->Q () s->WP B A (letOwnedTupleGo (.Tuple ts k q) (.ref I) (.ref T)) Q s):
  It B C hb A false (·∈wr) xs (.ref I) (λi h=>St0 i h/\d9 C hb h) where
 frame:=λC' G i h h' st hk=>⟨W.frame i h h' st.1 λb hb' o e=>hk b o (λq=>(G.f b q).elim (hfp b hb').1 (hfp b hb').2.2) (G.hl▸(hfp b hb').2.1) e,st.2.frame G hk⟩
 live:=λi h st=>hlv i h st.1
 next:=λC' G tgt i p s Q ht hx st L hQ=>by
  have hi:i<n:=by rw[hn];exact(List.getElem?_eq_some_iff.mp hx).1
  refine W.item i s _ _ hi st.1 λv h' tk hP st' hk=>?_;have hR:d9 C hb h':=st.2.own hwr hk;have hr:an C' h' p v:=hrep C' G i p v h' hx hP hR;have fin:=hQ v { s with heap:=h',toks:=tk } ⟨rfl,rfl,rfl,λa o w e=>hk a o w e⟩ hr ⟨st',hR⟩;rcases ht with⟨_,x,q,rfl⟩|⟨ts,k,q,ps,rfl,rfl⟩
  ·exact wpAny_pure fin
  ·obtain⟨a,vs,rfl,_⟩:=hr;exact hgo ts k q (i+1) a _ _ st' fin
 done:=λs Q st hQ=>W.done s _ _ (hn▸st.1) λh' tk hk=>hQ _ ⟨rfl,rfl,rfl,λa o w e=>hk a o w e⟩
 self:=λs Q st hq=>W.self 0 s _ _ st.1 hq
theorem It.ofWalksT{xs:List PV}{I:Addr}{fp wr:List Addr}{n:Nat}{Pt:Nat->Array Value->Prop}{St0:Nat->Heap->Prop}{Mid:Nat->Addr->Heap->Prop}(W:WalksT B.prog B.w A I fp wr n Pt St0 Mid)(hn:n=xs.length)
  (hfp:∀b∈fp,¬C.F b/\C.hl≠some b/\hb.get? b≠none) (hwr:∀b∈wr,C.X b) (hlv:∀i h,St0 i h->∀a∈wr,h.get? a≠none)
  (hrep:∀C',bC C hb C'->∀i ps vals h,xs[i]?=some (.tuple ps)->Pt i vals->d9 C hb h->aH C' h ps vals.toList):
  It B C hb A true (·∈wr) xs (.ref I) (λi h=>St0 i h/\d9 C hb h) where
 frame:=λC' G i h h' st hk=>⟨W.frame i h h' st.1 λb hb' o e=>hk b o (λq=>(G.f b q).elim (hfp b hb').1 (hfp b hb').2.2) (G.hl▸(hfp b hb').2.1) e,st.2.frame G hk⟩
 live:=λi h st=>hlv i h st.1
 next:=λC' G tgt i p s Q ht hx st L hQ=>by
  have hi:i<n:=by rw[hn];exact(List.getElem?_eq_some_iff.mp hx).1
  rcases ht with⟨hf,_⟩|⟨ts,k,q,ps,rfl,rfl⟩
  ·exact tF hf
  refine W.item i s _ _ hi st.1 λT vals h' tk hP hT htup hmid hk=>?_;have new:s.heap.get? T=none:=by
   cases e:s.heap.get? T with
   |none=>rfl
   |some o=>exact absurd (gB e) (Nat.not_lt.mpr hT)
  refine W.go ts k q i T _ _ _ hmid λh'' st' hk'=>?_;have hR:d9 C hb h'':=(st.2.own hwr hk).own hwr hk';have hTw:T∉wr:=W.apart i T h' hmid;refine hQ (.ref T) _ ⟨rfl,rfl,rfl,λa o w e=>hk' a o w (hk a o w e)⟩ ?_ ⟨st',hR⟩;obtain⟨o,ho,hc,m,hd⟩:=htup;exact⟨T,vals.toList,rfl,(L.new new).1,(L.new new).2.1,(L.new new).2.2,⟨o,hk' T o hTw ho,hc,m,hd⟩,hrep C' G i ps vals h'' hx hP hR⟩
 done:=λs Q st hQ=>W.done s _ _ (hn▸st.1) λh' tk hk=>hQ _ ⟨rfl,rfl,rfl,λa o w e=>hk a o w e⟩
 self:=λs Q st hq=>W.self 0 s _ _ st.1 hq
theorem aH.stay{h h':Heap}{ps:List PV}{vs:List Value}(c:aA ps=true)(r:aH C h ps vs)(hk:∀a o,¬C.X a->¬C.F a->C.hl≠some a->h.get? a=some o->h'.get? a=some o):aH C h' ps vs:=
 r.move (λa o x f l e=>⟨x,f,l,hk a o x f l e⟩) (λ_ e=>e) c
theorem xB{ts:List Expr}{k:Nat}{q:Pos}{I T:Addr}{s:Shared}{Q:aJ Unit}{o:Obj}{n:String}{vs:Array Value}(ho:s.heap.get? I=some o)(hc:o.cls=.type n)(hd:o.data=.fields vs)
  (hne:["enumerate","zip","dict_itemiterator","dict_reverseitemiterator","odict_iterator","itertools.zip_longest","itertools.pairwise"].contains n=false) (h:Q () s):
  WP B A (letOwnedTupleGo (.Tuple ts k q) (.ref I) (.ref T)) Q s:=by
 unfold letOwnedTupleGo;refine wpAny_bind (wpAny_load ho ?_);rw[hc];rw[hd];refine(?_:wpAny _ A (if (["enumerate","zip","dict_itemiterator","dict_reverseitemiterator","odict_iterator","itertools.zip_longest","itertools.pairwise"].contains n&&vs[0]?==some (rawInt T))=true then _ else _) Q _ s);rw[hne];rw[Bool.false_and ..];rw[if_neg j9];exact wpAny_pure h
theorem yM{xs:List PV}{vs:List Value}{I l:Addr}(hh:A.handled=none)(hne:l≠I)(hI:¬C.F I/\C.hl≠some I/\hb.get? I≠none)(hX:C.X I)(hl:¬C.F l/\C.hl≠some l/\hb.get? l≠none)(hc:aA xs=true)(r:aH C hb xs vs):
  It B C hb A false (·∈[I]) xs (.ref I) (λi h=>(h.IsListIter I l i/\h.IsList l vs.toArray)/\d9 C hb h):=by
 refine It.ofWalks (Walks.list hh I l hne vs.toArray) (by simpa using r.length) (λb hb=>?_) (λb hb=>?_) (λi h st a ha=>?_) (λC' G i p v h hx hv R=>?_) λts k q i T s Q st hq=>?_
 ·rcases ah.mp hb with rfl|hb
  ·exact hI
  ·rcases ah.mp hb with rfl|hb
   ·exact hl
   ·cases hb
 ·rcases ah.mp hb with rfl|hb
  ·exact hX
  ·cases hb
 ·rcases ah.mp ha with rfl|ha
  ·obtain⟨⟨o,e,_⟩,_⟩:=st;rw[e];exact λq=>nomatch q
  ·cases ha
 ·refine aP ((R.reps G hc r).get hx) λu eu ru=>?_;have:vs[i]?=some v:=by simpa using hv
  replace this:=eu▸this;replace this:=iS this;subst this;exact ru
 ·obtain⟨⟨o,e,hc,hd⟩,_⟩:=st;exact xB e hc hd (by decide) hq
theorem CO{xs:List PV}{vs:List Value}{I l:Addr}(hh:A.handled=none)(hne:l≠I)(hI:¬C.F I/\C.hl≠some I/\hb.get? I≠none)(hX:C.X I)(hl:¬C.F l/\C.hl≠some l/\hb.get? l≠none)(hc:aA xs=true)(r:aH C hb xs vs):
  It B C hb A false (·∈[I]) xs (.ref I) (λi h=>(h.IsTupleIter I l i/\h.IsTuple l vs.toArray)/\d9 C hb h):=by
 refine It.ofWalks (Walks.tuple hh I l hne vs.toArray) (by simpa using r.length) (λb hb=>?_) (λb hb=>?_) (λi h st a ha=>?_) (λC' G i p v h hx hv R=>?_) λts k q i T s Q st hq=>?_
 ·rcases ah.mp hb with rfl|hb
  ·exact hI
  ·rcases ah.mp hb with rfl|hb
   ·exact hl
   ·cases hb
 ·rcases ah.mp hb with rfl|hb
  ·exact hX
  ·cases hb
 ·rcases ah.mp ha with rfl|ha
  ·obtain⟨⟨o,e,_⟩,_⟩:=st;rw[e];exact λq=>nomatch q
  ·cases ha
 ·refine aP ((R.reps G hc r).get hx) λu eu ru=>?_;have:vs[i]?=some v:=by simpa using hv
  replace this:=eu▸this;replace this:=iS this;subst this;exact ru
 ·obtain⟨⟨o,e,hc,hd⟩,_⟩:=st;exact xB e hc hd (by decide) hq
theorem pn:∀(n:Nat) (a:Int) (i:Nat) (p:PV),(dA a n)[i]?=some p->p=.int (a+i)
 |0,_,_,_,e=>by simp[qW,jo]at e
 |n+1,a,0,p,e=>by simp[qW,jo]at e;subst e;simp
 |n+1,a,i+1,p,e=>by have:=pn n (a+1) i p (by simpa[qW,jo]using e);rw[this];congr 1;push_cast;lia
theorem ku:∀(n:Nat) (a:Int),(dA a n).length=n
 |0,_=>rfl
 |n+1,a=>congrArg (· + 1) (ku n _)
theorem lq:∀(n:Nat) (a:Int),aA (dA a n)=true
 |0,_=>rfl
 |n+1,a=>lq n _
theorem Bl{a:Int}{n:Nat}{I:Addr}(hh:A.handled=none)(hI:¬C.F I/\C.hl≠some I/\hb.get? I≠none)(hX:C.X I):
  It B C hb A false (·∈[I]) (dA a n) (.ref I) (λi h=>IsRangeIter h I (a+(i:Nat)*1) ((n:Int)-(i:Nat)) 1/\d9 C hb h):=by
 refine It.ofWalks (Walks.range hh I a 1 n) (ku n a).symm (λb hb=>?_) (λb hb=>?_) (λi h st b hb=>?_) (λC' G i p v h hx hv R=>?_) λts k q i T s Q st hq=>?_
 ·rcases ah.mp hb with rfl|hb
  ·exact hI
  ·cases hb
 ·rcases ah.mp hb with rfl|hb
  ·exact hX
  ·cases hb
 ·rcases ah.mp hb with rfl|hb
  ·rw[show h.get? b=_ from st];exact λq=>nomatch q
  ·cases hb
 ·refine af hv ?_;clear hv;intro t q1q;subst q1q;rw[pn n a i p hx];exact⟨t,by rw[Int.mul_one ..];rfl⟩
 ·exact xB (vs:=_) st rfl rfl (by decide) hq
theorem sC:∀(xs:List PV) (a:Int) (i:Nat) (p:PV),(ii a xs)[i]?=some p->∃x,xs[i]?=some x/\p=.tuple [.int (a+i),x]
 |[],_,_,_,e=>by simp[tj,oP]at e
 |x :: xs,a,0,p,e=>by simp[tj,oP]at e;subst e;exact⟨x,rfl,by simp⟩
 |x :: xs,a,i+1,p,e=>by
  refine aP (sC xs (a+1) i p (by simpa[tj,oP]using e)) λy e1 e2=>?_;refine⟨y,by simpa using e1,?_⟩;rw[e2];have:a+1+(i:Int)=a+((i+1:Nat):Int):=by push_cast;lia
  rw[this];rfl
theorem mS:∀(xs:List PV) (a:Int),(ii a xs).length=xs.length
 |[],_=>rfl
 |x :: xs,a=>congrArg (· + 1) (mS xs _)
theorem nk:∀(xs:List PV) (a:Int),aA xs=true->aA (ii a xs)=true
 |[],_,_=>rfl
 |x :: xs,a,c=>aI (aI (aB c).1 rfl) (nk xs (a+1) (aB c).2)
theorem E4{xs:List PV}{vs:List Value}{e it l:Addr}(hh:A.handled=none)(hei:e≠it)(hle:l≠e)(hli:l≠it)(hI:∀b∈[e,it,l],¬C.F b/\C.hl≠some b/\hb.get? b≠none)(hX:C.X e/\C.X it)(hc:aA xs=true)(r:aH C hb xs vs):
  It B C hb A true (·∈[e,it]) (ii 0 xs) (.ref e) (λi h=>((∃old,IsEnum h e it i old)/\h.IsListIter it l i/\h.IsList l vs.toArray)/\d9 C hb h):=by
 refine It.ofWalksT (WalksT.enumerate hh e it l hei hle hli vs.toArray) (by rw[mS ..];simpa using r.length) hI (λb hb=>?_) (λi h st a ha=>?_) λC' G i ps vals h hx hv R=>?_
 ·rcases ah.mp hb with rfl|hb
  ·exact hX.1
  ·rcases ah.mp hb with rfl|hb
   ·exact hX.2
   ·cases hb
 ·obtain⟨⟨old,he⟩,⟨o,hit,_⟩,_⟩:=st;rcases ah.mp ha with rfl|ha
  ·rw[show h.get? a=_ from he];exact λq=>nomatch q
  ·rcases ah.mp ha with rfl|ha
   ·rw[hit];exact λq=>nomatch q
   ·cases ha
 ·refine lV hv ?_;clear hv;intro t y ey q1q;subst q1q;refine aP (sC xs 0 i _ hx) λx ex ep=>?_;cases ep;refine aP ((R.reps G hc r).get ex) λu eu ru=>?_;have:vs[i]?=some y:=by simpa using ey
  replace this:=eu▸this;replace this:=iS this;subst this;exact⟨_,_,rfl,⟨t,by simp⟩,_,_,rfl,ru,rfl⟩
theorem oy:∀(xs ys:List PV) (i:Nat) (p:PV),(jJ xs ys)[i]?=some p->∃x y,xs[i]?=some x/\ys[i]?=some y/\p=.tuple [x,y]
 |[],ys,_,_,e=>nS e
 |_ :: _,[],_,_,e=>nS e
 |x :: xs,y :: ys,0,p,e=>⟨x,y,rfl,rfl,(iS e).symm⟩
 |x :: xs,y :: ys,i+1,p,e=>by refine lr (oy xs ys i p e) λa b e1 e2 e3=>?_;exact⟨a,b,e1,e2,e3⟩
theorem jl:∀(xs ys:List PV),(jJ xs ys).length=min xs.length ys.length
 |[],_=>(Nat.zero_min _).symm
 |_ :: _,[]=>rfl
 |x :: xs,y :: ys=>by simp[Bw,jl xs ys]
theorem la:∀(xs ys:List PV),aA xs=true->aA ys=true->aA (jJ xs ys)=true
 |[],_,_,_=>rfl
 |_ :: _,[],_,_=>rfl
 |x :: xs,y :: ys,c,d=>aI (aI (aB c).1 (aI (aB d).1 rfl)) (la xs ys (aB c).2 (aB d).2)
theorem Fj{xs ys:List PV}{vs ws:List Value}{z TI TO i1 i2 l1 l2:Addr}(hh:A.handled=none)(D:ZipApart z TI TO i1 i2 l1 l2)(hI:∀b∈[z,TI,TO,i1,i2,l1,l2],¬C.F b/\C.hl≠some b/\hb.get? b≠none)
  (hX:∀b∈[z,TO,i1,i2],C.X b) (hc:aA xs=true) (hd:aA ys=true) (r1:aH C hb xs vs) (r2:aH C hb ys ws):
  It B C hb A true (·∈[z,TO,i1,i2]) (jJ xs ys) (.ref z) (λi h=>(IsZip h z TI TO .none/\IsPair h TI (.ref i1) (.ref i2)/\(∃a b,IsPair h TO a b)/\h.IsListIter i1 l1 i/\h.IsListIter i2 l2 i/\h.IsList l1 vs.toArray/\h.IsList l2 ws.toArray)/\d9 C hb h):=by
 refine It.ofWalksT (WalksT.zip2 hh z TI TO i1 i2 l1 l2 D vs.toArray ws.toArray) (by rw[jl ..];simp[r1.length,r2.length]) hI hX (λi h st a ha=>?_) λC' G i ps vals h hx hv R=>?_
 ·obtain⟨hz,_,⟨a',b',hTO⟩,⟨o1,h1,_⟩,⟨o2,h2,_⟩,_⟩:=st;rcases ah.mp ha with rfl|ha
  ·rw[show h.get? a=_ from hz];exact λq=>nomatch q
  ·rcases ah.mp ha with rfl|ha
   ·rw[show h.get? a=_ from hTO];exact λq=>nomatch q
   ·rcases ah.mp ha with rfl|ha
    ·rw[h1];exact λq=>nomatch q
    ·rcases ah.mp ha with rfl|ha
     ·rw[h2];exact λq=>nomatch q
     ·cases ha
 ·refine lr hv ?_;clear hv;intro x y ex ey q1q;subst q1q;refine lr (oy xs ys i _ hx) λx' y' ex' ey' ep=>?_;cases ep;refine aP ((R.reps G hc r1).get ex') λu eu ru=>?_;refine aP ((R.reps G hd r2).get ey') λv ev rv=>?_;have h1:vs[i]?=some x:=by simpa using ex
  have h2:ws[i]?=some y:=by simpa using ey
  replace h1:=eu▸h1;replace h1:=iS h1;subst h1;replace h2:=ev▸h2;replace h2:=iS h2;subst h2;exact⟨_,_,rfl,ru,_,_,rfl,rv,rfl⟩
end
section
variable{B:aX}{C:Cx}{A:Around}{env:Env}{nm:Nat->Str}{sc:SC}{σ:aF}{mt:List (Nat×Addr)}
noncomputable abbrev Cx.addX(C:Cx)(W:Addr->Prop):Cx:={ C with X:=λa=>C.X a\/W a }
noncomputable abbrev Cx.enter(C:Cx)(F':Addr->Prop):Cx:={ C with X:=λa=>C.X a\/C.F a,F:=F' }
theorem cV.addX{ha hb:Heap}{W:Addr->Prop}(V:cV B C ha)(hk:∀a o,C.hl≠some a->ha.get? a=some o->hb.get? a=some o)(hl:∀a,C.hl=some a->hb.get? a≠none)
  (hW:∀a,W a->ha.get? a=none/\hb.get? a≠none):cV B (C.addX W) hb where
 base:=(V.keep hk hl).base
 baseX:=λa x=>x.elim (V.baseX a) λw=>by
  cases e:B.hb.get? a with
  |none=>rfl
  |some o=>have:=V.base a o e;replace this:=(hW a w).1▸this;exact nS this
 baseF:=V.baseF
 baseL:=V.baseL
 liveX:=λa x=>x.elim ((V.keep hk hl).liveX a) λw=>(hW a w).2
 liveF:=(V.keep hk hl).liveF
 liveL:=hl
 fx:=λa f x=>x.elim (V.fx a f) λw=>V.liveF a f (hW a w).1
 lf:=V.lf
 lx:=λa l x=>x.elim (V.lx a l) λw=>V.liveL a l (hW a w).1
theorem an.addX{h:Heap}{W:Addr->Prop}(hW:∀a,W a->h.get? a=none){p:PV}{v:Value}(c:clean p=true)(r:an C h p v):an (C.addX W) h p v:=
 r.move (C:=C) (C':=C.addX W) (λa o x f l g=>⟨λ(q:C.X a\/W a)=>q.elim x (λw=>by replace g:=hW a w▸g;exact nS g),f,l,g⟩) (λ_ e=>e) c
theorem aH.addX{h:Heap}{W:Addr->Prop}(hW:∀a,W a->h.get? a=none){p:List PV}{v:List Value}(c:aA p=true)(r:aH C h p v):aH (C.addX W) h p v:=
 r.move (C:=C) (C':=C.addX W) (λa o x f l g=>⟨λ(q:C.X a\/W a)=>q.elim x (λw=>by replace g:=hW a w▸g;exact nS g),f,l,g⟩) (λ_ e=>e) c
theorem an.dropX{h:Heap}{W:Addr->Prop}{p:PV}{v:Value}(c:clean p=true)(r:an (C.addX W) h p v):an C h p v:=
 r.move (C:=C.addX W) (C':=C) (λa o x f l g=>⟨λq=>x (.inl q),f,l,g⟩) (λ_ e=>e) c
theorem aH.dropX{h:Heap}{W:Addr->Prop}{p:List PV}{v:List Value}(c:aA p=true)(r:aH (C.addX W) h p v):aH C h p v:=
 r.move (C:=C.addX W) (C':=C) (λa o x f l g=>⟨λq=>x (.inl q),f,l,g⟩) (λ_ e=>e) c
theorem dY.addX{ha hb:Heap}{W:Addr->Prop}(S:dY B C env nm sc σ mt ha)(hk:∀a o,C.hl≠some a->ha.get? a=some o->hb.get? a=some o)(hl:∀a,C.hl=some a->hb.get? a≠none)
  (hW:∀a,W a->ha.get? a=none/\hb.get? a≠none):dY B (C.addX W) env nm sc σ mt hb where
 vol:=S.vol.addX hk hl hW
 fF:=S.fF
 cF:=λx a e=>(S.cF x a e).imp id .inl
 mF:=S.mF
 mlist:=(S.keep hk hl).mlist
 minj:=S.minj
 ex:=by
  refine aP S.ex λm F e=>?_;have hm:∀i a,(i,a)∈mt->C.hl≠some a:=λi a q z=>S.vol.lf a z (S.mF i a q);refine⟨m,F.keep (λa=>C.F a\/C.X a) (.inl S.fF) S.cF λa o x g=>hk a o (λz=>x.elim (S.vol.lf a z) (S.vol.lx a z)) g,λi c q=>⟨?_,?_⟩⟩
  ·have k:=(e i c q).1;cases c with
   |loc=>exact k
   |cell=>exact k
   |cap=>obtain⟨k,ca,hc,f⟩:=k;exact⟨k,ca,hc,.inl f⟩
  ·have y:=(e i c q).2;cases z:σ.getD i none with
   |none=>trivial
   |some av=>
    replace y:=z▸y;cases av with
    |val p=>obtain⟨c,v,e,r⟩:=y;exact⟨c,v,e,(r.addX (λa w=>(hW a w).1) c).keep (C:=C.addX W) hk⟩
    |own xs=>obtain⟨c,b,vs,n,e,q,g,r⟩:=y;exact⟨c,b,vs,n,e,q,hk b _ (hm i b q) g,(r.addX (λa w=>(hW a w).1) c).keep (C:=C.addX W) hk⟩
theorem cV.step{h h':Heap}{W:Addr->Prop}(V:cV B C h)(hWX:∀a,W a->C.X a)(hk:∀a o,¬W a->h.get? a=some o->h'.get? a=some o)(hlv:∀a,W a->h'.get? a≠none):cV B C h':=by
 have live:∀a,h.get? a≠none->h'.get? a≠none:=λa q=>by
  by_cases w:W a
  ·exact hlv a w
  ·cases e:h.get? a with
   |none=>exact absurd e q
   |some o=>rw[hk a o w e];exact λz=>nomatch z
 exact⟨λa o e=>hk a o (λw=>by replace e:=V.baseX a (hWX a w)▸e;exact nS e) (V.base a o e),V.baseX,V.baseF,V.baseL,λa x=>live a (V.liveX a x),λa x=>live a (V.liveF a x),λa x=>live a (V.liveL a x),V.fx,V.lf,V.lx⟩
theorem dY.step{h h':Heap}{W:Addr->Prop}(S:dY B C env nm sc σ mt h)(hWX:∀a,W a->C.X a)(hcl:∀x a,env.cells.lookup x=some a->¬W a)(hk:∀a o,¬W a->h.get? a=some o->h'.get? a=some o)
  (hlv:∀a,W a->h'.get? a≠none):dY B C env nm sc σ mt h' where
 vol:=S.vol.step hWX hk hlv
 fF:=S.fF
 cF:=S.cF
 mF:=S.mF
 mlist:=λi a q=>by refine eV (S.mlist i a q) λvs n e=>?_;exact⟨vs,n,hk a _ (λw=>S.vol.fx a (S.mF i a q) (hWX a w)) e⟩
 minj:=S.minj
 ex:=by
  refine aP S.ex λm F e=>?_;refine⟨m,F.keep (λa=>a=env.locals\/∃x,env.cells.lookup x=some a) (.inl rfl) (λx a e=>.inr ⟨x,e⟩) λa o x g=>hk a o (x.elim (λq=>q▸λw=>S.vol.fx _ S.fF (hWX _ w)) λ⟨x,e⟩=>hcl x a e) g,λi c q=>⟨(e i c q).1,?_⟩⟩;have y:=(e i c q).2;cases z:σ.getD i none with
  |none=>trivial
  |some av=>
   replace y:=z▸y;cases av with
   |val p=>obtain⟨c,v,e,r⟩:=y;exact⟨c,v,e,r.move (λa o x f l g=>⟨x,f,l,hk a o (λw=>x (hWX a w)) g⟩) (λ_ e=>e) c⟩
   |own xs=>obtain⟨c,b,vs,n,e,q,g,r⟩:=y;exact⟨c,b,vs,n,e,q,hk b _ (λw=>S.vol.fx b (S.mF i b q) (hWX b w)) g,r.move (λa o x f l g=>⟨x,f,l,hk a o (λw=>x (hWX a w)) g⟩) (λ_ e=>e) c⟩
theorem dY.dropX{h h':Heap}{W:Addr->Prop}(S:dY B (C.addX W) env nm sc σ mt h)(hcl:∀x a,env.cells.lookup x=some a->¬W a)(hlw:∀a,C.X a->¬W a)(hk:∀a o,¬W a->h.get? a=some o->h'.get? a=some o):dY B C env nm sc σ mt h':=by
 have live:∀a,¬W a->h.get? a≠none->h'.get? a≠none:=λa w q=>by
  cases e:h.get? a with
  |none=>exact absurd e q
  |some o=>rw[hk a o w e];exact λz=>nomatch z
 have V:=S.vol;have fw:∀a,C.F a->¬W a:=λa f w=>V.fx a f (.inr w);have lw:∀a,C.hl=some a->¬W a:=λa f w=>V.lx a f (.inr w);exact {
  vol:=⟨λa o e=>hk a o (λw=>by replace e:=V.baseX a (.inr w)▸e;exact nS e) (V.base a o e),λa x=>V.baseX a (.inl x),V.baseF,V.baseL,λa x=>live a (hlw a x) (V.liveX a (.inl x)),λa x=>live a (fw a x) (V.liveF a x),
   λa x=>live a (lw a x) (V.liveL a x),λa f x=>V.fx a f (.inl x),V.lf,λa l x=>V.lx a l (.inl x)⟩
  fF:=S.fF
  cF:=λx a e=>(S.cF x a e).imp id λq=>q.elim id λw=>absurd w (hcl x a e)
  mF:=S.mF
  mlist:=λi a q=>by refine eV (S.mlist i a q) λvs n e=>?_;exact⟨vs,n,hk a _ (fw a (S.mF i a q)) e⟩
  minj:=S.minj
  ex:=by
   refine aP S.ex λm F e=>?_;refine⟨m,F.keep (λa=>a=env.locals\/∃x,env.cells.lookup x=some a) (.inl rfl) (λx a e=>.inr ⟨x,e⟩) λa o x g=>hk a o (x.elim (λq=>q▸fw _ S.fF) λ⟨x,e⟩=>hcl x a e) g,λi c q=>⟨?_,?_⟩⟩
   ·have k:=(e i c q).1;cases c with
    |loc=>exact k
    |cell=>exact k
    |cap=>obtain⟨k,ca,hc,f⟩:=k;exact⟨k,ca,hc,f.elim id λw=>absurd w (hcl _ _ hc)⟩
   ·have y:=(e i c q).2;cases z:σ.getD i none with
    |none=>trivial
    |some av=>
     replace y:=z▸y;cases av with
     |val p=>obtain⟨c,v,e,r⟩:=y;exact⟨c,v,e,r.move (C:=C.addX W) (C':=C) (λa o x f l g=>⟨λq=>x (.inl q),f,l,hk a o (λw=>x (.inr w)) g⟩) (λ_ e=>e) c⟩
     |own xs=>obtain⟨c,b,vs,n,e,q,g,r⟩:=y;exact⟨c,b,vs,n,e,q,hk b _ (fw b (S.mF i b q)) g,r.move (C:=C.addX W) (C':=C) (λa o x f l g=>⟨λq=>x (.inl q),f,l,hk a o (λw=>x (.inr w)) g⟩) (λ_ e=>e) c⟩ }
theorem cV.enter{h₀ h:Heap}{F':Addr->Prop}(V:cV B C h₀)(hk:∀a o,h₀.get? a=some o->h.get? a=some o)(hF:∀a,F' a->h₀.get? a=none/\h.get? a≠none):cV B (C.enter F') h:=by
 have live:∀a,h₀.get? a≠none->h.get? a≠none:=λa q=>by
  cases e:h₀.get? a with
  |none=>exact absurd e q
  |some o=>rw[hk a o e];exact λz=>nomatch z
 exact⟨λa o e=>hk a o (V.base a o e),λa x=>x.elim (V.baseX a) (V.baseF a),(λa f=>by
   cases e:B.hb.get? a with
   |none=>rfl
   |some o=>have:=V.base a o e;replace this:=(hF a f).1▸this;exact nS this),V.baseL,λa x=>x.elim (λx=>live a (V.liveX a x)) λf=>live a (V.liveF a f),λa f=>(hF a f).2,λa l=>live a (V.liveL a l),
  λa f x=>x.elim (λx=>V.liveX a x (hF a f).1) λx=>V.liveF a x (hF a f).1,λa l f=>V.liveL a l (hF a f).1,λa l x=>x.elim (V.lx a l) (V.lf a l)⟩
theorem an.enter{h:Heap}{F':Addr->Prop}(hF:∀a,F' a->h.get? a=none){p:PV}{v:Value}(c:clean p=true)(r:an C h p v):an (C.enter F') h p v:=
 r.move (C:=C) (C':=C.enter F') (λa o x f l g=>⟨λ(q:C.X a\/C.F a)=>q.elim x f,(λ(q:F' a)=>by replace g:=hF a q▸g;exact nS g),l,g⟩) (λ_ e=>e) c
theorem aH.enter{h:Heap}{F':Addr->Prop}(hF:∀a,F' a->h.get? a=none){p:List PV}{v:List Value}(c:aA p=true)(r:aH C h p v):aH (C.enter F') h p v:=
 r.move (C:=C) (C':=C.enter F') (λa o x f l g=>⟨λ(q:C.X a\/C.F a)=>q.elim x f,(λ(q:F' a)=>by replace g:=hF a q▸g;exact nS g),l,g⟩) (λ_ e=>e) c
theorem an.leave{h:Heap}{F':Addr->Prop}{p:PV}{v:Value}(r:an (C.enter F') h p v):an C h (Mine.dD p) v:=
 r.freeze (C:=C.enter F') (C':=C) (λa o x l g=>⟨λq=>x (.inl q),λq=>x (.inr q),l,g⟩) λ_ e=>e
theorem an.leave'{h:Heap}{F':Addr->Prop}{p:PV}{v:Value}(c:clean p=true)(r:an (C.enter F') h p v):an C h p v:=
 r.move (C:=C.enter F') (C':=C) (λa o x _ l g=>⟨λq=>x (.inl q),λq=>x (.inr q),l,g⟩) (λ_ e=>e) c
theorem aH.leave'{h:Heap}{F':Addr->Prop}{p:List PV}{v:List Value}(c:aA p=true)(r:aH (C.enter F') h p v):aH C h p v:=
 r.move (C:=C.enter F') (C':=C) (λa o x _ l g=>⟨λq=>x (.inl q),λq=>x (.inr q),l,g⟩) (λ_ e=>e) c
mutual
theorem mQ:∀p:PV,clean (dD p)=true
 |.list xs=>dP xs
 |.view xs=>dP xs
 |.tuple xs=>dP xs
 |.arg xs=>dP xs
 |.none=>rfl
 |.bool _=>rfl
 |.int _=>rfl
 |.str _=>rfl
 |.bytes _=>rfl
 |.ob _=>rfl
 |.tab=>rfl
theorem dP:∀ps:List PV,aA (bd ps)=true
 |[]=>rfl
 |p :: ps=>by simp only[sH,kY,bb,bR,mQ p,dP ps,Bool.and_self]
end
end
noncomputable def ba(T:aC):List PV:=T.map λr=>.tuple [.str r.1,.str r.2]
theorem eB:∀T:aC,aA (ba T)=true
 |[]=>rfl
 |_ :: T=>by have:=eB T;simp only[ba,bh,bb,bR,clean,Bool.and_true,Bool.true_and]at this ⊢;exact this
noncomputable abbrev DL:Addr:=240
noncomputable def je(l:Addr):Str->Option Value:=λx=>if x=("_headers":Str)then some (.ref l)else none
structure dt(C:Cx)(T:aC)(h:Heap)(a l d:Addr)(o:Obj)(vs:List Value)(n:Nat):Prop where
 hl:C.hl=some l
 list:h.get? l=some (aT vs n)
 rows:aH C h (ba T) vs
 here:h.get? a=some o
 cls:o.cls=.ref DL
 dat:∀c,o.data≠.cls c
 dict:o.dict=some d
 ne:d≠a
 ns:h.Ns1 d (je l)
 apart:∀b,b=a\/b=d->¬C.F b/\¬C.X b/\C.hl≠some b
 ok:∀r∈T,aS r.1=true/\aS r.2=true
noncomputable def aU(C:Cx)(T:aC)(h:Heap):Prop:=∀a,C.ta=some a->∃l d o vs n,dt C T h a l d o vs n
theorem aU.move{C C':Cx}{T:aC}{h h':Heap}(Y:aU C T h)(ht:C'.ta=C.ta)(hh:C'.hl=C.hl)(hl:∀l vs n,C.hl=some l->h.get? l=some (aT vs n)->h'.get? l=some (aT vs n))
  (hk:∀a o,¬C.X a->¬C.F a->C.hl≠some a->h.get? a=some o->¬C'.X a/\¬C'.F a/\h'.get? a=some o):aU C' T h':=by
 intro a e;obtain⟨l,d,o,vs,n,y⟩:=Y a (ht▸e);have ka:=y.apart a (.inl rfl);have kd:=y.apart d (.inr rfl);have nd:∃od,h.get? d=some od:=by refine pJ y.ns λod _ _ e _=>?_;exact⟨od,e⟩
 refine af nd ?_;clear nd;intro od ed;have k1:=hk a o ka.2.1 ka.1 ka.2.2 y.here;have k2:=hk d od kd.2.1 kd.1 kd.2.2 ed;refine⟨l,d,o,vs,n,hh▸y.hl,hl l _ _ y.hl y.list,y.rows.move (λb ob x f q g=>?_) (λ_ e=>ht▸e) (eB T),k1.2.2,y.cls,y.dat,y.dict,y.ne,y.ns.at λob e=>?_,λb q=>?_,y.ok⟩
 ·refine km (hk b ob x f q g) λh1 h2 h3=>?_;exact⟨h1,h2,hh▸q,h3⟩
 ·exact(hk d ob kd.2.1 kd.1 kd.2.2 e).2.2
 ·rcases q with rfl|rfl
  ·exact⟨k1.2.1,k1.1,hh▸ka.2.2⟩
  ·exact⟨k2.2.1,k2.1,hh▸kd.2.2⟩
theorem aU.kept{C:Cx}{T:aC}{s s':Shared}(Y:aU C T s.heap)(x:a9 none s s'):aU C T s'.heap:=
 Y.move rfl rfl (λl _ _ _ e=>x.all l _ e) λa o x1 f _ e=>⟨x1,f,x.all a o e⟩
theorem aU.addX{C:Cx}{T:aC}{h:Heap}{W:Addr->Prop}(Y:aU C T h)(hW:∀a,W a->h.get? a=none):aU (C.addX W) T h:=
 Y.move rfl rfl (λ_ _ _ _ e=>e) λa o x f _ e=>⟨λq=>q.elim x (λw=>by replace e:=hW a w▸e;exact nS e),f,e⟩
theorem aU.dropX{C:Cx}{T:aC}{h:Heap}{W:Addr->Prop}(Y:aU (C.addX W) T h):aU C T h:=
 Y.move (C:=C.addX W) rfl rfl (λ_ _ _ _ e=>e) λa o x f _ e=>⟨λq=>x (.inl q),f,e⟩
theorem aU.enter{C:Cx}{T:aC}{h:Heap}{F':Addr->Prop}(Y:aU C T h)(hF:∀a,F' a->h.get? a=none):aU (C.enter F') T h:=
 Y.move rfl rfl (λ_ _ _ _ e=>e) λa o x f _ e=>⟨λq=>q.elim x f,λw=>(by replace e:=hF a w▸e;exact nS e),e⟩
theorem aU.leave{C:Cx}{T:aC}{h:Heap}{F':Addr->Prop}(Y:aU (C.enter F') T h):aU C T h:=
 Y.move (C:=C.enter F') rfl rfl (λ_ _ _ _ e=>e) λa o x _ _ e=>⟨λq=>x (.inl q),λq=>x (.inr q),e⟩
theorem aU.step{C:Cx}{T:aC}{h h':Heap}{W:Addr->Prop}(Y:aU C T h)(hWX:∀a,W a->C.X a\/C.F a)(hlW:∀l,C.hl=some l->¬W l)(hk:∀a o,¬W a->h.get? a=some o->h'.get? a=some o):aU C T h':=
 Y.move rfl rfl (λl _ _ q e=>hk l _ (hlW l q) e) λa o x f _ e=>⟨x,f,hk a o (λw=>(hWX a w).elim x f) e⟩
noncomputable def E.len:E->Nat
 |.cons _ b=>b.len+1
 |_=>0
noncomputable def gS(nm:Nat->Str):List (Nat×Kd)->Bool
 |[]=>true
 |x :: r=>(r.all λy=> !(nm x.1==nm y.1))&&gS nm r
theorem qT{nm:Nat->Str}{x r}:gS nm (x :: r)=((r.all λy=> !(nm x.1==nm y.1))&&gS nm r):=rfl
noncomputable def en:Tg->List Nat
 |.one i _=>[i]
 |.many ts _ _=>ts.map (·.1)
noncomputable def nY:Tg->Bool
 |.one _ _=>true
 |_=>false
noncomputable def fo:E->Bool
 |.callb .enumerate _ _ _=>true
 |.callb .zip _ _ _=>true
 |_=>false
noncomputable def bc(x:Str):Bool:= !(x==("__debug__":Str)) && !(x==("__classdict__":Str))
noncomputable abbrev gM:=List (Str×NameKind)
noncomputable def DS(ns:gM)(x:Str):Bool:=(ns.lookup x==some .globalImplicit)&&bc x
noncomputable def wU(ns:gM)(x:Str):Option Kd:=match ns.lookup x with
 |some .local=>some .loc
 |some .cell=>some .cell
 |_=>none
noncomputable def hH(nm:Nat->Str)(ns:gM):List Nat->Option SC
 |[]=>some []
 |i :: r=>(wU ns (nm i)).bind λk=>(hH nm ns r).map ((i,k) :: ·)
noncomputable def BR(nm:Nat->Str)(ns:gM)(caps:List Nat)(tg:Tg):Option SC:=(hH nm ns (en tg)).map ((caps.map λi=>(i,.cap)) ++ ·)
noncomputable def mi:List (Str×NameKind)->Bool
 |[]=>true
 |x :: r=>(r.all λy=> !(x.1==y.1))&&mi r
theorem Cc{x r}:mi (x :: r)=((r.all λy=> !(x.1==y.1))&&mi r):=rfl
noncomputable def oR(nm:Nat->Str)(N:Nat)(sc:SC)(scope:Scope)(caps:List Nat)(tg:Tg):Bool:=
 scope.kind==.function&&mi scope.names
 && (scope.names.all λx=> !(x.2==.local)||scope.names.lookup x.1==some .local)
 && (scope.names.all λx=> !(x.2==.free)||caps.any λi=>nm i==x.1)
 && (caps.all λi=>scope.names.lookup (nm i)==some .free&&sc.any λy=>y.1==i && !(y.2==.loc))
 && ((en tg).all λi=>Nat.blt i N)
 && (caps.all λi=>Nat.blt i N)
 && (match BR nm scope.names caps tg with|some sc'=>gS nm sc'|none=>false)
noncomputable def E.ok(nm:Nat->Str)(N:Nat):E->gM->SC->Bool
 |.cst _ _ _,_,_=>true
 |.var i _,_,sc=>sc.any (·.1==i)&&bc (nm i)
 |.gint g _,ns,_=>DS ns g.nm
 |.bin _ a b _,ns,sc=>a.ok nm N ns sc&&b.ok nm N ns sc
 |.cmp _ a b _,ns,sc=>a.ok nm N ns sc&&b.ok nm N ns sc
 |.neg a _,ns,sc=>a.ok nm N ns sc
 |.not a _,ns,sc=>a.ok nm N ns sc
 |.bool _ es _,ns,sc=>es.ok nm N ns sc
 |.ite c a b _,ns,sc=>c.ok nm N ns sc&&(a.ok nm N ns sc&&b.ok nm N ns sc)
 |.nil,_,_=>true
 |.cons a b,ns,sc=>a.ok nm N ns sc&&b.ok nm N ns sc
 |.list es _,ns,sc=>es.ok nm N ns sc
 |.tuple es _ _,ns,sc=>es.ok nm N ns sc
 |.sub a i _,ns,sc=>a.ok nm N ns sc&&i.ok nm N ns sc
 |.slc a l u s _ _,ns,sc=>a.ok nm N ns sc&&(l.ok nm N ns sc&&(u.ok nm N ns sc&&s.ok nm N ns sc))
 |.miss,_,_=>true
 |.callb f _ es _,ns,sc=>DS ns f.nm&&es.ok nm N ns sc
 |.callu f _ es _,ns,sc=>DS ns f.nm&&es.ok nm N ns sc
 |.meth o _ ap es p,ns,sc=>(ap.endLine==p.line)&&(Nat.blt es.len 20&&(o.ok nm N ns sc&&es.ok nm N ns sc))
 |.tokIn a _ _,ns,sc=>DS ns "EXACT_TOKEN_TYPES" && a.ok nm N ns sc
 |.tokAt a _ _,ns,sc=>DS ns "EXACT_TOKEN_TYPES" && a.ok nm N ns sc
 |.flagGet _ ap a b p,ns,sc=>(ap.endLine==p.line)&&(DS ns "COMPILER_FLAG_NAMES" && (a.ok nm N ns sc&&b.ok nm N ns sc))
 |.gni _ a i _ _ b _ _,ns,sc=>DS ns "_get_name_info" && (sc.any (·.1==i)&&bc (nm i)&&(a.ok nm N ns sc&&b.ok nm N ns sc))
 |.comp elt tg src ifs caps scope _,ns,sc=>oR nm N sc scope caps tg&&(!(nY tg&&fo src)&&(src.ok nm N ns sc&&match BR nm scope.names caps tg with
  |some sc'=>ifs.ok nm N scope.names sc'&&elt.ok nm N scope.names sc'
  |none=>false))
section
variable{B:aX}{C:Cx}{A:Around}{env:Env}{nm:Nat->Str}{sc:SC}{σ:aF}{mt:List (Nat×Addr)}{s:Shared}
structure At(B:aX)(C:Cx)(env:Env)(nm:Nat->Str)(sc:SC)(σ:aF)(mt:List (Nat×Addr))(T:aC)(h:Heap):Prop where
 sim:dY B C env nm sc σ mt h
 tab:aU C T h
theorem At.kept{T:aC}{s':Shared}(Y:At B C env nm sc σ mt T s.heap)(x:a9 none s s'):At B C env nm sc σ mt T s'.heap:=
 ⟨Y.sim.keep (λa o _ e=>x.all a o e) (λa l=>by
  have:=Y.sim.vol.liveL a l;cases e:s.heap.get? a with
  |none=>exact absurd e this
  |some o=>rw[x.all a o e];exact λq=>nomatch q),Y.tab.kept x⟩
theorem At.live{T:aC}{h:Heap}(Y:At B C env nm sc σ mt T h):ef C h:=Y.sim.vol.toLive
noncomputable abbrev A7(B:aX)(C:Cx)(env:Env)(nm:Nat->Str)(sc:SC)(σ:aF)(mt:List (Nat×Addr))(s:Shared)(p:PV)(T:aC)(Q:aJ Value):Prop:=
 ∀v s',a9 C.hl s s'->At B C env nm sc σ mt T s'.heap->an C s'.heap p v->Q v s'
noncomputable abbrev BW(B:aX)(C:Cx)(env:Env)(nm:Nat->Str)(sc:SC)(σ:aF)(mt:List (Nat×Addr))(s:Shared)(T:aC)(Q:Shared->Prop):Prop:=
 ∀s',a9 C.hl s s'->At B C env nm sc σ mt T s'.heap->Q s'
noncomputable abbrev Ho(B:aX)(C:Cx)(env:Env)(nm:Nat->Str)(sc:SC)(σ:aF)(mt:List (Nat×Addr))(s:Shared)(ps:List PV)(T:aC)(Q:List Value->Shared->Prop):Prop:=
 ∀vs s',a9 C.hl s s'->At B C env nm sc σ mt T s'.heap->aH C s'.heap ps vs->Q vs s'
noncomputable abbrev mW(B:aX)(C:Cx)(s:Shared)(p:PV)(T:aC)(Q:aJ Value):Prop:=
 ∀v s',a9 C.hl s s'->cV B C s'.heap->an C s'.heap p v->aU C T s'.heap->Q v s'
theorem At.called{T T':aC}{s':Shared}(Y:At B C env nm sc σ mt T s.heap)(x:a9 C.hl s s')(V:cV B C s'.heap)(t:aU C T' s'.heap):At B C env nm sc σ mt T' s'.heap:=
 ⟨Y.sim.keep x.keep V.liveL,t⟩
theorem an.ext{s':Shared}(x:a9 C.hl s s'){p:PV}{v:Value}(r:an C s.heap p v):an C s'.heap p v:=r.keep x.keep
theorem aH.ext{s':Shared}(x:a9 C.hl s s'){p:List PV}{v:List Value}(r:aH C s.heap p v):aH C s'.heap p v:=r.keep x.keep
end
noncomputable def bn(B:aX)(K:Nat)(a:Addr)(φ:List PV->aC->Option (PV×aC)):Prop:=
 ∀{C:Cx} {A:Around} {s:Shared} {ps:List PV} {vs:List Value} {T:aC} {r:PV×aC} {Q:aJ Value},φ ps T=some r->bJ K A->cV B C s.heap->aU C T s.heap->aH C s.heap ps vs->aA ps=true ->
  mW B C s r.1 r.2 Q->WP B A (call (.ref a) vs) Q s
noncomputable def IS(h:Heap)(bm f a:Addr):Prop:=h.get? bm=some { cls:=.type "method",data:=.fields #[.ref f,.ref a] }
noncomputable def fe(B:aX)(C:Cx)(A:Around)(s₀ s:Shared)(tup fix:Bool)(xs:List PV)(it:Value):Prop:=
 ∃(W:Addr->Prop) (fp:List Addr),(∀a,W a->s₀.heap.get? a=none/\s.heap.get? a≠none)/\(∀a∈fp,s.heap.get? a≠none/\C.hl≠some a/\(fix=true->¬C.F a))/\aA xs=true /\
  ∀C':Cx,C'.hl=C.hl->(∀a,W a->C'.X a)->(∀a∈fp,¬C'.F a)->(∀p v,clean p=true->an C s₀.heap p v->an C' s.heap p v)->∃St,St 0 s.heap/\It B C' s.heap A tup W xs it St
structure bV(B:aX)(Φ:fA)(K:Nat):Prop where
 bf:∀f:BF,(B.mg f.nm).or (B.mb f.nm)=some f.val
 gint:∀g:GI,∃t,(B.mg g.nm).or (B.mb g.nm)=some (.int g.val t)
 uf:∀f:UF,∃a o fd,(B.mg f.nm).or (B.mb f.nm)=some (.ref a)/\B.hb.get? a=some o/\o.data=.func fd/\bn B K a (Φ f)
 tok:∃d,(B.mg ("EXACT_TOKEN_TYPES":Str)).or (B.mb ("EXACT_TOKEN_TYPES":Str))=some (.ref d) /\
  (∀{C A s x u} {Q:aJ Value},cV B C s.heap->(∀s',a9 none s s'->Q (.bool (ce dN x).isSome) s')->WP B A (compareOp .In (.str x u) (.ref d)) Q s) /\
  (∀{C A s x u i slice value} {Q:aJ Value},cV B C s.heap->ce dN x=some i->(∀v s',a9 none s s'->an C s'.heap (.int i) v->Q v s')->WP B A (subscriptTail value slice (.ref d) (.str x u)) Q s)
 flag:∃d,(B.mg ("COMPILER_FLAG_NAMES":Str)).or (B.mb ("COMPILER_FLAG_NAMES":Str))=some (.ref d) /\
  (∀{C A s p q r args pos pl} {Q:aJ Value},cV B C s.heap->(∀x∈args,x.1=false)->AL p q=some r ->
   WP B A (spliced args) (λvs s'=>cV B C s'.heap/\aH C s'.heap [p,q] vs/\lW C s' r Q) s ->
   WP B A (getMethod (.ref d) "get" pl) (λf s₂=>WP B A (callWith pos f.1 f.2 args []) Q s₂) s)
 tabM:∀{C A s a m ps T T1 r args pos pl} {Q:aJ Value},C.ta=some a->bJ K A->cV B C s.heap->aU C T s.heap->(∀x∈args,x.1=false)->mH m .tab ps T1=some r ->
   WP B A (spliced args) (λvs s'=>cV B C s'.heap/\aU C T1 s'.heap/\aH C s'.heap ps vs/\mW B C s' r.1 r.2 Q) s ->
   WP B A (getMethod (.ref a) m.nm pl) (λf s₂=>WP B A (callWith pos f.1 f.2 args []) Q s₂) s
 tabDel:∀{C A s a k u T} {Q:aJ Unit},C.ta=some a->bJ K A->cV B C s.heap->aU C T s.heap->aS k=true->T.length<=1000 ->
   (∀s',a9 C.hl s s'->cV B C s'.heap->aU C (fg T k) s'.heap->Q () s')->WP B A (delItem (.ref a) (.str k u)) Q s
 tabItems:∀{C A s a T pos pl} {Q:aJ Value},C.ta=some a->bJ K A->cV B C s.heap->aU C T s.heap->T.length<=1000 ->
   (∀l s' vs n,a9 none s s'->s.heap.get? l=none->s'.heap.get? l=some (aT vs n)->vs.length=T.length->Q (.ref l) s') ->
   WP B A (getMethod (.ref a) "items" pl) (λf s₂=>WP B A (callWith pos f.1 f.2 [] []) Q s₂) s
 zipT:∀{C A s p xs ys v w} {Q:aJ Value},A.handled=none->ef C s.heap->eM p=some xs->an C s.heap p v->an C s.heap (.tuple ys) w->aA xs=true->aA ys=true->xs.length<=ys.length ->
   (∀it s',a9 none s s'->fe B C A s s' true (fN p) (jJ xs ys) it->Q it s')->WP B A (call (.type "zip") [v,w]) (λz s₁=>WP B A (pyIter z) Q s₁) s
 gniV:∃v,(B.mg ("_get_name_info":Str)).or (B.mb ("_get_name_info":Str))=some v
 gni:∀{C A s a env T1 p q r np ip ap bp pos x ae be} {Q:aJ Value},(∀es,starEach (ae :: es) env=(false,eval ae env) :: starEach es env)->C.ta=some a->bJ K A->cV B C s.heap ->
   (∀{Q':aJ Value} {s':Shared},cV B C s'.heap->(∀v,(B.mg ("_get_name_info":Str)).or (B.mb ("_get_name_info":Str))=some v->Q' v s')->WP B A (loadName env "_get_name_info") Q' s') ->
   CJ p (some (.val .tab)) q T1=some r ->
   WP B A (eval ae env) (λv s1=>WP B A (eval (.Name x ip) env) (λtv s2=>tv=.ref a/\cV B C s2.heap/\(∃T0,aU C T0 s2.heap) /\
    ∀s3,a9 none s2 s3->WP B A (eval be env) (λw s4=>cV B C s4.heap/\aU C T1 s4.heap/\an C s4.heap p v/\an C s4.heap q w /\
     (∀b o,C.hl≠some b->s3.heap.get? b=some o->s4.heap.get? b=some o)/\lW C s4 r Q) s3) s1) s ->
   WP B A (eval (.Call (.Name "_get_name_info" np) [ae,.Attribute (.Name x ip) "get" ap] [⟨some "default",be,bp⟩] pos) env) Q s
structure fi(B:aX)(K N:Nat)(A:Around)(env:Env)(ns:gM)(σ:aF):Prop where
 fine:bJ K A
 glob:∀x,ns.lookup x=some .globalImplicit->env.kindOf x=some .globalImplicit
 len:σ.length=N
section
variable(B:aX)(nm:Nat->Str)(N:Nat)(Φ:fA)(K:Nat)
noncomputable def bL(X:E):Prop:=∀{ns sc C A env σ mt T s p} {Q:aJ Value},X.ok nm N ns sc=true->fi B K N A env ns σ->(X.sm Φ).ev σ T=some p->At B C env nm sc σ mt T s.heap ->
 A7 B C env nm sc σ mt s p.1 p.2 Q->WP B A (eval (X.toE nm) env) Q s
noncomputable def mn(X:E):Prop:=∀{ns sc C A env σ mt T s t} {Q:aJ Bool},X.ok nm N ns sc=true->fi B K N A env ns σ->(X.sm Φ).evT σ T=some t->At B C env nm sc σ mt T s.heap ->
 BW B C env nm sc σ mt s t.2 (Q t.1)->WP B A (isTrue (X.toE nm) env (eval (X.toE nm) env)) Q s
noncomputable def rC(X:E):Prop:=∀{ns sc C A env σ mt T s ps pos} {Q:List Value->Shared->Prop},X.ok nm N ns sc=true->fi B K N A env ns σ->(X.sm Φ).evs σ T=some ps->At B C env nm sc σ mt T s.heap ->
 Ho B C env nm sc σ mt s ps.1 ps.2 Q->WP B A (spliced (backTo pos (starEach (X.toEs nm) env))) Q s
noncomputable def CV(X:E):Prop:=∀{ns sc C A env σ mt T s t op} {Q:aJ Bool},X.ok nm N ns sc=true->fi B K N A env ns σ->(X.sm Φ).evAll op σ T=some t->At B C env nm sc σ mt T s.heap ->
 BW B C env nm sc σ mt s t.2 (Q t.1)->WP B A (allTrue op (X.toEs nm) env) Q s
noncomputable def E5(X:E):Prop:=∀{ns sc C A env σ mt T s p op pos} {Q:aJ Value},X.ok nm N ns sc=true->fi B K N A env ns σ->(X.sm Φ).evOr op σ T=some p->At B C env nm sc σ mt T s.heap ->
 A7 B C env nm sc σ mt s p.1 p.2 Q->WP B A (boolOp pos op (evalEach (X.toEs nm) env)) Q s
noncomputable def xT(X:E):Prop:=∀{ns sc C A env σ mt T s t} {Q:aJ Bool},X.ok nm N ns sc=true->fi B K N A env ns σ->(X.sm Φ).evIfs σ T=some t->At B C env nm sc σ mt T s.heap ->
 BW B C env nm sc σ mt s t.2 (Q t.1) ->
 WP B A (forIn (X.toEs nm) true λc r=>if r=true then do let ok <-isTrue c env (eval c env);pure (ForInStep.yield ok)else pure (ForInStep.yield r)) Q s
noncomputable def A9(X:E):Prop:=∀{ns sc C A env σ mt T s xs} {Q:aJ Value},X.ok nm N ns sc=true->fi B K N A env ns σ->(X.sm Φ).evSrc σ T=some xs->At B C env nm sc σ mt T s.heap ->
 (∀it s₁ s',a9 C.hl s s₁->At B C env nm sc σ mt xs.2 s₁.heap->a9 none s₁ s'->fe B C A s₁ s' (fo X) xs.1.2 xs.1.1 it->Q it s')->WP B A (eval (X.toE nm) env) (λv s₁=>WP B A (pyIter v) Q s₁) s
structure qv(X:E):Prop where
 v:bL B nm N Φ K X
 t:mn B nm N Φ K X
 l:rC B nm N Φ K X
 a:CV B nm N Φ K X
 o:E5 B nm N Φ K X
 i:xT B nm N Φ K X
 s:A9 B nm N Φ K X
end
section
variable{B:aX}{nm:Nat->Str}{N:Nat}{Φ:fA}{K:Nat}
theorem rO(op:CmpOp)(X:E):behindInMarks op (X.toE nm)=false:=by cases X<;>rfl
theorem kE(X:E)(es:List Expr)(env:Env):starEach (X.toE nm :: es) env=(false,eval (X.toE nm) env) :: starEach es env:=by cases X<;>rfl
noncomputable def NC(X:E):Prop:=(∀nm,X.toEs nm=[])/\X.len=0/\(X=.nil\/∀Φ σ T,(X.sm Φ).evs σ T=none)
theorem E.lrec{M:E->Prop}(h1:∀a b,M b->M (.cons a b))(h0:∀X,NC X->M X)(X:E):M X:=by
 induction X with
 |cons a b _ ih=>exact h1 a b ih
 |nil=>exact h0 _ ⟨λ_=>rfl,rfl,.inl rfl⟩
 |_=>exact h0 _ ⟨λ_=>rfl,rfl,.inr λ_ _ _=>rfl⟩
theorem fG(env:Env)(pos:Pos):∀X:E,∀x∈backTo pos (starEach (X.toEs nm) env),x.1=false:=
 E.lrec (λa b ih x hx=>by
  replace hx:=(mr ..)▸hx;replace hx:=(kE ..)▸hx;rcases ah.mp hx with rfl|hx
  ·rfl
  ·exact ih x hx) λX n x hx=>by replace hx:=n.1 nm▸hx;exact nomatch hx
theorem u9:∀X:E,(X.toEs nm).length=X.len:=
 E.lrec (λa b ih=>congrArg (· + 1) ih) λX n=>by rw[n.1 ..];rw[n.2.1];rfl
theorem yW{c:Const}{k:Nat}{p:Pos}:bL B nm N Φ K (.cst c k p):=by intro ns sc C A env σ mt T s r Q _ _ e Y h;refine mE e λq e1 qq=>?_;subst qq;refine(?_:WP B A (constValue env c) Q s);exact Ci e1 λv s' x r=>h v s' x.up (Y.kept x) r
theorem FY{sc:SC}{i:Nat}(h:sc.any (·.1==i)=true):∃c,(i,c)∈sc:=by
 obtain⟨⟨j,c⟩,hj,e⟩:=ls.mp h;have:j=i:=by simpa using e
 subst this;exact⟨c,hj⟩
theorem au{x:Str}(h:bc x=true):(x==("__debug__":Str))=false/\(x==("__classdict__":Str))=false:=by simpa[bc]using h
theorem fk{i:Nat}{p:Pos}:bL B nm N Φ K (.var i p):=by intro ns sc C A env σ mt T s r Q o _ e Y h;refine mE e λav e1 qq=>?_;subst qq;replace o:=a2 o;refine af (FY o.1) λc hc=>?_;have hp:=au o.2;exact wpAny_Name (Y.sim.load hc e1 hp.2 λv r=>h v s (.refl _ _) Y r) hp.1
theorem gu{ns:gM}{C:Cx}{A:Around}{env:Env}{sc:SC}{σ:aF}{mt:List (Nat×Addr)}{T:aC}{s:Shared}{x:Str}{v:Value}{p:Pos}{Q:aJ Value}(F:fi B K N A env ns σ)(g:DS ns x=true)
  (Y:At B C env nm sc σ mt T s.heap) (hv:(B.mg x).or (B.mb x)=some v) (h:Q v s):WP B A (eval (.Name x p) env) Q s:=by
 simp only[DS,cC,beq_iff_eq]at g;exact wpAny_Name (Y.sim.loadG (F.glob x g.1) hv h) (au g.2).1
theorem AK(P:bV B Φ K){g:GI}{p:Pos}:bL B nm N Φ K (.gint g p):=by intro ns sc C A env σ mt T s r Q o F e Y h;replace e:=iS e;subst e;refine af (P.gint g) λt hv=>?_;exact gu F o Y hv (h _ s (.refl _ _) Y ⟨t,rfl⟩)
theorem Ea{op:Operator}{a b:E}{p:Pos}(ha:bL B nm N Φ K a)(hb:bL B nm N Φ K b):bL B nm N Φ K (.bin op a b p):=by intro ns sc C A env σ mt T s r Q o F e Y h;refine bE e λx ex e=>?_;refine bE e λy ey e=>?_;refine mE e λz ez qq=>?_;subst qq;replace o:=a2 o;refine wpAny_BinOp (ha o.1 F ex Y λv s1 x1 Y1 r1=>hb o.2 F ey Y1 λw s2 x2 Y2 r2=>?_);exact Du Y2.live ez (r1.ext x2) r2 λu s3 x3 r3=>h u s3 ((x1.trans x2).trans x3.up) (Y2.kept x3) r3
theorem ED{op:CmpOp}{a b:E}{p:Pos}(ha:bL B nm N Φ K a)(hb:bL B nm N Φ K b)(hK:1<=K):bL B nm N Φ K (.cmp op a b p):=by intro ns sc C A env σ mt T s r Q o F e Y h;refine bE e λx ex e=>?_;refine bE e λy ey e=>?_;refine mE e λz ez qq=>?_;subst qq;replace o:=a2 o;refine wpAny_Compare1 (ha o.1 F ex Y λv s1 x1 Y1 r1=>hb o.2 F ey Y1 λw s2 x2 Y2 r2=>?_) (rO op b);exact yg (k:=0) (F.fine.mono hK) ez (r1.ext x2) r2 λs3 x3=>h _ s3 ((x1.trans x2).trans x3.up) (Y2.kept x3) rfl
theorem tZ{op:CmpOp}{a b:E}{p:Pos}(ha:bL B nm N Φ K a)(hb:bL B nm N Φ K b)(hK:1<=K):mn B nm N Φ K (.cmp op a b p):=by intro ns sc C A env σ mt T s r Q o F e Y h;refine bE e λu e e'=>?_;refine bE e λx ex e=>?_;refine bE e λy ey e=>?_;refine mE e λz ez qq=>?_;subst qq;replace e':=iS e';subst e';replace o:=a2 o;refine wpAny_isTrue_Compare1 (ha o.1 F ex Y λv s1 x1 Y1 r1=>hb o.2 F ey Y1 λw s2 x2 Y2 r2=>?_) (rO op b);exact yg (k:=0) (F.fine.mono hK) ez (r1.ext x2) r2 λs3 x3=>wpAny_truthy_bool (h s3 ((x1.trans x2).trans x3.up) (Y2.kept x3))
theorem Ec{a:E}{p:Pos}(ha:bL B nm N Φ K a):bL B nm N Φ K (.neg a p):=by intro ns sc C A env σ mt T s r Q o F e Y h;refine bE e λx ex e=>?_;refine mE e λz ez qq=>?_;subst qq;refine wpAny_UnaryOp (ha o F ex Y λv s1 x1 Y1 r1=>?_);exact D1 ez r1 λu s3 x3 r3=>h u s3 (x1.trans x3.up) (Y1.kept x3) r3
theorem E0{a:E}{p:Pos}(ha:mn B nm N Φ K a):mn B nm N Φ K (.not a p):=by intro ns sc C A env σ mt T s r Q o F e Y h;refine mE e λx ex qq=>?_;subst qq;exact wpAny_isTrue_Not (ha o F ex Y λs1 x1 Y1=>h s1 x1 Y1)
theorem EY{c a b:E}{p:Pos}(hc:mn B nm N Φ K c)(ha:bL B nm N Φ K a)(hb:bL B nm N Φ K b):bL B nm N Φ K (.ite c a b p):=by
 intro ns sc C A env σ mt T s r Q o F e Y h;refine bE e λt et e=>?_;replace o:=a3 o;refine wpAny_IfExp (hc o.1 F et Y λs1 x1 Y1=>?_);obtain⟨t,T1⟩:=t;cases t with
 |true=>exact ha o.2.1 F e Y1 λv s2 x2 Y2 r2=>h v s2 (x1.trans x2) Y2 r2
 |false=>exact hb o.2.2 F e Y1 λv s2 x2 Y2 r2=>h v s2 (x1.trans x2) Y2 r2
theorem yd:rC B nm N Φ K .nil:=by intro ns sc C A env σ mt T s r pos Q o F e Y h;replace e:=iS e;subst e;exact wpAny_pure (h [] s (.refl _ _) Y rfl)
theorem qH{a b:E}(ha:bL B nm N Φ K a)(hb:rC B nm N Φ K b):rC B nm N Φ K (.cons a b):=by intro ns sc C A env σ mt T s r pos Q o F e Y h;refine bE e λx ex e=>?_;refine mE e λy ey qq=>?_;subst qq;replace o:=a2 o;rw[mr ..];rw[kE ..];refine(?_:WP B A (spliced ((false,eval (a.toE nm) env) :: backTo pos (starEach (b.toEs nm) env))) Q s);exact df (ha o.1 F ex Y λv s1 x1 Y1 r1=>hb o.2 F ey Y1 λvs s2 x2 Y2 r2=>h (v :: vs) s2 (x1.trans x2) Y2 ⟨v,vs,rfl,r1.ext x2,r2⟩)
theorem A2{es:E}{p:Pos}(hl:rC B nm N Φ K es):bL B nm N Φ K (.list es p):=by intro ns sc C A env σ mt T s r Q o F e Y h;refine bE e λps ep e=>?_;refine bA e λg e=>?_;refine jF e λgz e=>?_;replace e:=iS e;subst e;refine wpAny_List (hl o F ep Y λvs s1 x1 Y1 r1=>⟨by rw[r1.length];exact gz,?_⟩);exact h _ _ (x1.trans (a9.lay' (s:=s1)).up) (Y1.kept .lay') (an.newList Y1.live r1)
theorem zN{es:E}{k:Nat}{p:Pos}(hl:rC B nm N Φ K es):bL B nm N Φ K (.tuple es k p):=by intro ns sc C A env σ mt T s r Q o F e Y h;refine bE e λps ep e=>?_;refine jF e λgz e=>?_;replace e:=iS e;subst e;refine wpAny_Tuple (hl o F ep Y λvs s1 x1 Y1 r1=>⟨by rw[r1.length];exact gz,?_⟩);exact h _ _ (x1.trans (a9.lay' (s:=s1)).up) (Y1.kept .lay') (an.newTuple Y1.live r1)
theorem xn{a i:E}{p:Pos}(ha:bL B nm N Φ K a)(hi:bL B nm N Φ K i):bL B nm N Φ K (.sub a i p):=by intro ns sc C A env σ mt T s r Q o F e Y h;refine bE e λx ex e=>?_;refine bE e λy ey e=>?_;refine mE e λz ez qq=>?_;subst qq;replace o:=a2 o;refine Subscript_ (ha o.1 F ex Y λv s1 x1 Y1 r1=>hi o.2 F ey Y1 λw s2 x2 Y2 r2=>?_);exact FI ez (r1.ext x2) r2 λu s3 x3 r3=>h u s3 ((x1.trans x2).trans x3.up) (Y2.kept x3) r3
theorem BQ:bL B nm N Φ K .miss:=by intro ns sc C A env σ mt T s r Q o F e Y h;replace e:=iS e;subst e;exact wpAny_pure (h _ _ (.refl _ _) Y rfl)
theorem Eu{x:E}{env:Env}{A:Around}{s:Shared}{Q:aJ Value}(h:WP B A (eval (x.toE nm) env) Q s)(hm:x=.miss->WP B A (pure .none) Q s):WP B A (evalPart (x.opt (x.toE nm)) env) Q s:=by
 cases x<;>first
  |exact h
  |exact hm rfl
theorem Ei{a l u st:E}{sp p:Pos}(ha:bL B nm N Φ K a)(hl:bL B nm N Φ K l)(hu:bL B nm N Φ K u)(hs:bL B nm N Φ K st):bL B nm N Φ K (.slc a l u st sp p):=by
 intro ns sc C A env σ mt T s r Q o F e Y h;refine bE e λx ex e=>?_;refine bE e λy ey e=>?_;refine bE e λz ez e=>?_;refine bE e λt et e=>?_;refine mE e λq eq qq=>?_;subst qq;replace o:=a4 o;refine Subscript_ (ha o.1 F ex Y λv s1 x1 Y1 r1=>wpAny_Slice ?_);have part:∀{X:E} {s':Shared} {T':aC} {p':PV×aC} {Q':aJ Value},bL B nm N Φ K X->X.ok nm N ns sc=true->(X.sm Φ).ev σ T'=some p'->At B C env nm sc σ mt T' s'.heap->A7 B C env nm sc σ mt s' p'.1 p'.2 Q' ->
   WP B A (evalPart (X.opt (X.toE nm)) env) Q' s':=λhX oX eX YX hQ=>Eu (hX oX F eX YX hQ) λem=>by subst em;replace eX:=iS eX;subst eX;exact wpAny_pure (hQ _ _ (.refl _ _) YX rfl)
 refine part hl o.2.1 ey Y1 λlv s2 x2 Y2 r2=>part hu o.2.2.1 ez Y2 λuv s3 x3 Y3 r3=>part hs o.2.2.2 et Y3 λsv s4 x4 Y4 r4=>?_;exact Dd Y4.live eq (((r1.ext x2).ext x3).ext x4) ((r2.ext x3).ext x4) (r3.ext x4) r4 λw s5 x5 r5=>h w s5 ((((x1.trans x2).trans x3).trans x4).trans x5.up) (Y4.kept x5) r5
end
section
variable{B:aX}{nm:Nat->Str}{N:Nat}{Φ:fA}{K:Nat}
theorem sU(P:bV B Φ K)(hK:1<=K){f:BF}{fp p:Pos}{es:E}(hl:rC B nm N Φ K es):bL B nm N Φ K (.callb f fp es p):=by intro ns sc C A env σ mt T s r Q o F e Y h;refine bE e λps ep e=>?_;refine mE e λz ez qq=>?_;subst qq;replace o:=a2 o;refine(?_:WP B A (eval (.Name f.nm fp) env >>= λfv=>callWith p fv [] (backTo p (starEach (es.toEs nm) env)) []) Q s);refine wpAny_bind (gu F (by simpa using o.1) Y (P.bf f) (pq (fG env p es) (hl o.2 F ep Y λvs s1 x1 Y1 r1=>?_)));exact uu (k:=0) (F.fine.mono hK) ez r1 λv s2 x2 r2=>h v s2 (x1.trans x2.up) (Y1.kept x2) r2
theorem zb(P:bV B Φ K){f:UF}{fp p:Pos}{es:E}(hl:rC B nm N Φ K es):bL B nm N Φ K (.callu f fp es p):=by intro ns sc C A env σ mt T s r Q o F e Y h;refine bE e λps ep e=>?_;refine bA e λg ez=>?_;replace o:=a2 o;refine Ht (P.uf f) λa ob fd ha ho hd hc=>?_;refine(?_:WP B A (eval (.Name f.nm fp) env >>= λfv=>callWith p fv [] (backTo p (starEach (es.toEs nm) env)) []) Q s);refine wpAny_bind (gu F (by simpa using o.1) Y ha (d0 (fG env p es) (hl o.2 F ep Y λvs s1 x1 Y1 r1=>⟨⟨Y1.sim.vol.base a ob ho,hd⟩,?_⟩)));exact hc ez F.fine Y1.sim.vol Y1.tab r1 g λv s2 x2 V2 r2 t2=>h v s2 (x1.trans x2) (Y1.called x2 V2 t2) r2
theorem xt{env:Env}{A:Around}{s:Shared}{name:Str}{Q:aJ Value}:∀X:E,WP B A (eval (X.toE nm) env) Q s->WP B A (attributeBase (X.toE nm) name env (eval (X.toE nm) env)) Q s:=by
 have key:∀(f:Str) (fp p:Pos) (es:List Expr) (w:Sem Value),(f != "super")=true->WP B A w Q s->WP B A (attributeBase (.Call (.Name f fp) es [] p) name env w) Q s:=by
  intro f fp p es w hf h;cases es with
  |nil=>unfold attributeBase;exact wpAny_ite_true (by rw[hf];rfl) h
  |cons x r=>exact h
 intro X h;cases X<;>first
  |exact h
  |(rename_i f fp es p;exact key f.nm fp p _ _ (by cases f<;>decide) h)
theorem sR{m:MF}{x:Str}{ps:List PV}{T T':aC}{r:PV}(e:Bs T x m ps=some (r,T')):T'=T:=by
 cases m with
 |join=>refine eK e λp e=>?_;refine bE e λxs e1 e=>?_;refine bE e λss e2 e=>?_;exact(iP (eO e).2).2.symm
 |split=>exact eK e λp e=>i4 e λy e=>(iP (eO e).2).2.symm
 |index=>
  refine eK e λp e=>i4 e λy e=>?_;unfold wo at e;cases ho:Builtin.Str.occurrences x y 0 x.length 1 with
  |nil=>replace e:=ho▸e;exact nS e
  |cons i is=>replace e:=ho▸e;exact(iP e).2.symm
 |lower=>exact uI e λe=>(iP (eO e).2).2.symm
 |_=>exact nS e
theorem xK{m:MF}{xs ps:List PV}{T:aC}{r:PV×aC}(e:FS T xs m ps=some r):
  ∃y,m=.index/\ps=[.str y]/\xf T xs y=some r:=by
 cases m with
 |index=>exact eK e λp e=>i4 e λy e=>⟨y,rfl,rfl,e⟩
 |_=>exact nS e
theorem Ae(P:bV B Φ K){o:E}{m:MF}{ap p:Pos}{es:E}(ho:bL B nm N Φ K o)(hl:rC B nm N Φ K es):bL B nm N Φ K (.meth o m ap es p):=by
 intro ns sc C A env σ mt T s r Q ok F e Y h;refine bE e λx ex e=>?_;refine bE e λps ep e=>?_;replace ok:=a4 ok;obtain⟨q,T1⟩:=x;obtain⟨ps,T2⟩:=ps;obtain⟨r,T3⟩:=r;have hs:=fG (nm:=nm) env p es;have hlen:(es.toEs nm).length<29:=by rw[u9 ..];have:=ok.2.1;simp[Nat.blt_eq]at this;lia
 refine dy (xt o) hs hlen ok.1 (ho ok.2.2.1 F ex Y λv s1 x1 Y1 r1 pl=>?_);have list1:∀{xs:List PV} {y:Str} {l:Addr} {ws:List Value} {n:Nat},m=.index->ps=[.str y]->xf T2 xs y=some (r,T3)->v=.ref l ->
   s1.heap.get? l=some (aT ws n)->aH C s1.heap xs ws->C.hl≠some l->WP B A (getMethod v m.nm pl) (λf s₂=>WP B A (callWith p f.1 f.2 (backTo p (starEach (es.toEs nm) env)) []) Q s₂) s1:=by
  rintro xs y l ws n rfl rfl e2 rfl g rs nl;refine bE e2 λss es1 e2=>?_;refine bA e2 λgz e2=>?_;refine mE e2 λj ej e2=>?_;cases e2;refine tD (l:=l) hs es1 ej (fn gz) ⟨_,g,rfl,rfl⟩ (hl ok.2.2.2 F ep Y1 λvs s2 x2 Y2 r2=>⟨r2,⟨ws,n,x2.keep l _ nl g,rs.ext x2⟩,λu s3 x3 r3=>?_⟩);exact h u s3 ((x1.trans x2).trans x3.up) (Y2.kept x3) r3
 cases q with
 |str t=>
  refine af r1 ?_;clear r1;intro u q1q;subst q1q;have:=qt (B:=B) (C:=C) (A:=A) (s:=s1) (Q:=Q) (u:=u) (pos:=p) (pl:=pl) hs e (hl ok.2.2.2 F ep Y1 λvs s2 x2 Y2 r2=>⟨Y2.live,r2,λw s3 x3 r3=>?_⟩)
  ·exact this.2
  ·exact h w s3 ((x1.trans x2).trans x3.up) (sR e▸Y2.kept x3) r3
 |list xs=>obtain⟨l,ws,n,rfl,_,_,nl,g,rs⟩:=r1;refine d1 (xK e) λy em ep' e2=>?_;exact list1 em ep' e2 rfl g rs nl
 |tab=>refine aP r1 ?_;clear r1;intro a ha q1q;subst q1q;exact P.tabM ha F.fine Y1.sim.vol Y1.tab hs e (hl ok.2.2.2 F ep Y1 λvs s2 x2 Y2 r2=>⟨Y2.sim.vol,Y2.tab,r2,λw s3 x3 V3 r3 t3=>h w s3 ((x1.trans x2).trans x3) (Y2.called x3 V3 t3) r3⟩)
 |_=>exact nS e
theorem zK(P:bV B Φ K){a:E}{tp p:Pos}(ha:bL B nm N Φ K a):bL B nm N Φ K (.tokIn a tp p):=by
 intro ns sc C A env σ mt T s r Q o F e Y h;refine bE e λx ex e=>?_;refine mE e λz ez qq=>?_;subst qq;replace o:=a2 o;refine d1 P.tok λd hd hin _=>?_;obtain⟨q,T1⟩:=x;cases q<;>first|exact nS ez|(replace ez:=iS ez;subst ez)
 refine wpAny_Compare1 (ha o.2 F ex Y λv s1 x1 Y1 r1=>gu F o.1 Y1 hd ?_) rfl;refine af r1 ?_;clear r1;intro u q1q;subst q1q;exact hin Y1.sim.vol λs2 x2=>h _ s2 (x1.trans x2.up) (Y1.kept x2) rfl
theorem yn(P:bV B Φ K){a:E}{tp p:Pos}(ha:bL B nm N Φ K a):mn B nm N Φ K (.tokIn a tp p):=by
 intro ns sc C A env σ mt T s r Q o F e Y h;refine bE e λu e e'=>?_;refine bE e λx ex e=>?_;refine mE e λz ez qq=>?_;subst qq;replace o:=a2 o;refine d1 P.tok λd hd hin _=>?_;obtain⟨q,T1⟩:=x;cases q<;>first|exact nS ez|(replace ez:=iS ez;subst ez)
 replace e':=iS e';subst e';refine wpAny_isTrue_Compare1 (ha o.2 F ex Y λv s1 x1 Y1 r1=>gu F o.1 Y1 hd ?_) rfl;refine af r1 ?_;clear r1;intro u q1q;subst q1q;exact hin Y1.sim.vol λs2 x2=>wpAny_truthy_bool (h s2 (x1.trans x2.up) (Y1.kept x2))
theorem zx(P:bV B Φ K){a:E}{tp p:Pos}(ha:bL B nm N Φ K a):bL B nm N Φ K (.tokAt a tp p):=by
 intro ns sc C A env σ mt T s r Q o F e Y h;refine bE e λx ex e=>?_;refine mE e λz ez qq=>?_;subst qq;replace o:=a2 o;refine d1 P.tok λd hd _ hat=>?_;obtain⟨q,T1⟩:=x;cases q<;>try exact nS ez
 refine mE ez λi ei qq=>?_;subst qq;refine Subscript_ (gu F o.1 Y hd (ha o.2 F ex Y λv s1 x1 Y1 r1=>?_));refine af r1 ?_;clear r1;intro u q1q;subst q1q;exact hat Y1.sim.vol ei λv s2 x2 r2=>h _ s2 (x1.trans x2.up) (Y1.kept x2) r2
theorem Ay(P:bV B Φ K){a b:E}{np ap p:Pos}(ha:bL B nm N Φ K a)(hb:bL B nm N Φ K b):bL B nm N Φ K (.flagGet np ap a b p):=by
 intro ns sc C A env σ mt T s r Q o F e Y h;refine bE e λx ex e=>?_;refine bE e λy ey e=>?_;refine mE e λz ez qq=>?_;subst qq;replace o:=a4 o;refine aP P.flag λd hd hf=>?_;have hs:=fG (nm:=nm) env p (.cons a (.cons b .nil));refine(?_:WP B A (eval (.Call (.Attribute (.Name "COMPILER_FLAG_NAMES" np) "get" ap) ((E.cons a (.cons b .nil)).toEs nm) [] p) env) Q s);refine dy (λ{Q} hQ=>hQ) hs (eE (eE (dh 26))) o.1 (gu F o.2.1 Y hd λpl=>?_);refine hf Y.sim.vol hs ez (qH ha (qH hb yd) (ns:=ns) (sc:=sc) (aI o.2.2.1 (aI o.2.2.2 rfl)) F (T:=T) (ps:=([x.1,y.1],y.2)) (by refine(?_:((a.sm Φ).ev σ T).bind _=_);rw[ex];refine(?_:((((b.sm Φ).ev σ x.2).bind λp=>(some (([]:List PV),p.2)).map λq=>(p.1 :: q.1,q.2)).map λq=>(x.1 :: q.1,q.2))=_);rw[ey];rfl) Y λvs s1 x1 Y1 r1=>⟨Y1.sim.vol,r1,λv s2 x2 r2=>h v s2 (x1.trans x2.up) (Y1.kept x2) r2⟩)
theorem Di(P:bV B Φ K){a b:E}{i:Nat}{np ip ap bp p:Pos}(ha:bL B nm N Φ K a)(hb:bL B nm N Φ K b):bL B nm N Φ K (.gni np a i ip ap b bp p):=by
 intro ns sc C A env σ mt T s r Q o F e Y h;refine bE e λx ex e=>?_;refine bE e λy ey e=>?_;refine mE e λz ez qq=>?_;subst qq;replace o:=ag o;refine af (FY o.2.1.1) λc hc=>?_;have hp:=au o.2.1.2;cases hi:σ.getD i none with
 |none=>replace ez:=hi▸ez;obtain⟨q,T1⟩:=x;cases q<;>exact nS ez
 |some av=>
  have hav:av=.val .tab:=by
   replace ez:=hi▸ez;obtain⟨q,T1⟩:=x;cases q<;>try exact nS ez
   cases av with
   |own xs=>exact nS ez
   |val t=>cases t<;>first|rfl|exact nS ez
  subst hav;replace ez:=hi▸ez;have hta:∃a,C.ta=some a:=by refine aP Y.sim.ex λm _ e=>?_;have:=(e i c hc).2;replace this:=hi▸this;obtain⟨_,v,_,a,ea,_⟩:=this;exact⟨a,ea⟩
  refine af hta ?_;clear hta;intro ad hta;refine(?_:WP B A (eval (.Call (.Name "_get_name_info" np) [a.toE nm,.Attribute (.Name (nm i) ip) "get" ap] [⟨some "default",b.toE nm,bp⟩] p) env) Q s);simp only[DS,cC,beq_iff_eq]at o;refine af P.gniV λvg hvg=>?_;refine P.gni (λes=>kE a es env) hta F.fine Y.sim.vol (λ{Q' s'} V hq=>?_) ez (ha o.2.2.1 F ex Y λv s1 x1 Y1 r1=>?_)
  ·exact A6 Y.sim V (F.glob _ o.1.1) hvg (hq _ hvg)
  ·refine wpAny_Name (Y1.sim.load hc hi hp.2 λtv rt=>?_) hp.1;refine aP rt ?_;clear rt;intro ad' ea q1q;subst q1q;replace ea:=hta▸ea;replace ea:=iS ea;subst ea;refine⟨rfl,Y1.sim.vol,⟨_,Y1.tab⟩,λs3 x3=>hb o.2.2.2 F ey (Y1.kept x3) λw s4 x4 Y4 r4=>⟨Y4.sim.vol,Y4.tab,(r1.kept x3).ext x4,r4,λb o hn e=>x4.keep b o hn e,λv' s5 x5 r5=>?_⟩⟩;exact h v' s5 (((x1.trans x3.up).trans x4).trans x5.up) (Y4.kept x5) r5
end
section
variable{B:aX}{nm:Nat->Str}{N:Nat}{Φ:fA}{K:Nat}
theorem E8:CV B nm N Φ K .nil:=by intro ns sc C A env σ mt T s t op Q o F e Y h;replace e:=iS e;subst e;refine(?_:WP B A (pure (op==.And)) Q s);exact wpAny_pure (h s (.refl _ _) Y)
theorem BZ{a b:E}(ha:mn B nm N Φ K a)(hb:CV B nm N Φ K b):CV B nm N Φ K (.cons a b):=by
 intro ns sc C A env σ mt T s t op Q o F e Y h;refine bE e λx ex e=>?_;replace o:=a2 o;obtain⟨tb,T1⟩:=x;rw[mr ..];cases op with
 |And=>
  refine wpAny_allTrue_And_cons (ha o.1 F ex Y λs1 x1 Y1=>?_);cases tb with
  |true=>exact hb o.2 F e Y1 λs2 x2 Y2=>h s2 (x1.trans x2) Y2
  |false=>replace e:=iS e;subst e;exact h s1 x1 Y1
 |Or=>
  refine wpAny_allTrue_Or_cons (ha o.1 F ex Y λs1 x1 Y1=>?_);cases tb with
  |false=>exact hb o.2 F e Y1 λs2 x2 Y2=>h s2 (x1.trans x2) Y2
  |true=>replace e:=iS e;subst e;exact h s1 x1 Y1
theorem zD:∀X:E,(∃a b,X=.cons a b)\/(X.toEs nm=[]/\(X=.nil\/∀op σ T,(X.sm Φ).evOr op σ T=none))
 |.cons a b=>.inl ⟨a,b,rfl⟩
 |.nil=>.inr ⟨rfl,.inl rfl⟩
 |.cst .. | .var .. | .gint .. | .bin .. | .cmp .. | .neg .. | .not .. | .bool .. | .ite .. | .list .. | .tuple .. | .sub .. | .slc .. | .miss|.callb .. | .callu .. | .meth .. | .tokIn .. | .tokAt .. | .flagGet .. | .gni .. | .comp ..=>.inr ⟨rfl,.inr λ_ _ _=>rfl⟩
set_option backward.match.sparseCases true in
theorem AX{a b:E}(ha:bL B nm N Φ K a)(hb:E5 B nm N Φ K b):E5 B nm N Φ K (.cons a b):=by
 intro ns sc C A env σ mt T s r op pos Q o F e Y h;refine bE e λx ex e=>?_;replace o:=a2 o;rw[mr ..];have last:r=x->b.toEs nm=[]->WP B A (boolOp pos op (evalEach (a.toE nm :: b.toEs nm) env)) Q s:=λer eb=>by subst er;rw[eb];exact ha o.1 F ex Y h
 rcases zD (nm:=nm) (Φ:=Φ) b with⟨b1,b2,rfl⟩|⟨eb,hn⟩
 ·change ((eS x.1).bind λt=>match HK op t with|true=>some x|false=>((E.cons b1 b2).sm Φ).evOr op σ x.2)=some r at e;refine bE e λt et e=>?_;show WP B A (eval (a.toE nm) env >>= λv=>standAt pos >>= λ_=>holding [v] (truthy v) >>= λt=>match op,t with
   |.And,false|.Or,true=>pure v
   |_,_=>boolOp pos op (evalEach ((E.cons b1 b2).toEs nm) env)) Q s
  refine wpAny_bind (ha o.1 F ex Y λv s1 x1 Y1 r1=>wpAny_bind (wpAny_standAt (wpAny_bind (wpAny_holding (v5 et r1 λs2 x2=>?_)))));have r2:=r1.kept x2;have more:HK op t=false->WP B A (boolOp pos op (evalEach ((E.cons b1 b2).toEs nm) env)) Q s2:=λho=>by rw[ho]at e;exact hb o.2 F e (Y1.kept x2) λw s3 x3 Y3 r3=>h w s3 ((x1.trans x2.up).trans x3) Y3 r3
  have stop:HK op t=true->Q v s2:=λho=>by rw[ho]at e;cases e;exact h v s2 (x1.trans x2.up) (Y1.kept x2) r2
  cases op<;>cases t
  ·exact wpAny_pure (stop rfl)
  ·exact more rfl
  ·exact more rfl
  ·exact wpAny_pure (stop rfl)
 ·rcases hn with rfl|hn
  ·replace e:=iS e;subst e;exact last rfl rfl
  ·have hnil:b.isNil=false\/b.isNil=true:=by cases b.isNil<;>simp
   rcases hnil with hb0|hb0
   ·replace e:=hb0▸e;refine bE e λt et e=>?_;cases ho:HK op t with
    |true=>replace e:=ho▸e;replace e:=iS e;subst e;exact last rfl eb
    |false=>replace e:=ho▸e;replace e:=(hn ..)▸e;exact nS e
   ·replace e:=hb0▸e;replace e:=iS e;subst e;exact last rfl eb
theorem Ce{op:BoolOp}{es:E}{p:Pos}(ho:E5 B nm N Φ K es):bL B nm N Φ K (.bool op es p):=by intro ns sc C A env σ mt T s r Q o F e Y h;exact ho (pos:=p) o F e Y h
theorem Ad{op:BoolOp}{es:E}{p:Pos}(ho:CV B nm N Φ K es):mn B nm N Φ K (.bool op es p):=by intro ns sc C A env σ mt T s r Q o F e Y h;exact wpAny_isTrue_BoolOp (ho o F e Y h)
theorem yY:xT B nm N Φ K .nil:=by intro ns sc C A env σ mt T s t Q o F e Y h;replace e:=iS e;subst e;exact wpAny_tests_nil (h s (.refl _ _) Y)
theorem ut{a b:E}(ha:mn B nm N Φ K a):xT B nm N Φ K (.cons a b):=by
 intro ns sc C A env σ mt T s t Q o F e Y h;replace o:=a2 o;cases b<;>try exact nS e
 exact wpAny_tests_one (ha o.1 F e Y h)
theorem yj{X:E}{f:Ev}(hsm:(X.sm Φ).evT=(Sm.val f).evT)(hsv:(X.sm Φ).ev=f)(ht:∀env whole,isTrue (X.toE nm) env whole=(do let v <-whole;standAt (X.toE nm).pos;holding [v] (truthy v)))(hv:bL B nm N Φ K X):mn B nm N Φ K X:=by intro ns sc C A env σ mt T s t Q o F e Y h;replace e:=hsm▸e;refine bE e λx ex e=>?_;refine mE e λz ez qq=>?_;subst qq;replace ex:=hsv.symm▸ex;exact wpAny_isTrue_value (hv o F ex Y λv s1 x1 Y1 r1=>v5 ez r1 λs2 x2=>h s2 (x1.trans x2.up) (Y1.kept x2)) (ht _ _)
theorem aH.moves{C C':Cx}{h h':Heap}(hm:∀p v,clean p=true->an C h p v->an C' h' p v):∀{ps:List PV} {vs:List Value},aA ps=true->aH C h ps vs->aH C' h' ps vs
 |[],_,_,r=>r
 |p :: ps,vs,c,r=>by obtain⟨v,w,e,r1,r2⟩:=r;simp only[bb,bR,cC]at c;exact⟨v,w,e,hm p v c.1 r1,aH.moves hm c.2 r2⟩
theorem BY{C:Cx}{A:Around}{s:Shared}{p:PV}{xs:List PV}{v:Value}{Q:aJ Value}(hh:A.handled=none)(L:ef C s.heap)(e:mL p=some xs)(c:aA xs=true)(r:an C s.heap p v)
  (h:∀it s',a9 none s s'->fe B C A s s' false (fN p) xs it->Q it s'):WP B A (pyIter v) Q s:=by
 have n0:=L.new (aV s.heap);have main:∀{l:Addr} {vs:List Value} {nmT:String},(fN p=true->¬C.F l)->C.hl≠some l->s.heap.get? l≠none->aH C s.heap xs vs ->
   (∀C':Cx,C'.hl=C.hl->C'.X s.heap.objs.size->¬C'.F s.heap.objs.size->¬C'.F l->(aH C' (s.heap.push { cls:=.type nmT,data:=.fields #[.ref l,.int 0 0] }) xs vs) ->
    ∃St,St 0 (s.heap.push { cls:=.type nmT,data:=.fields #[.ref l,.int 0 0] })/\It B C' (s.heap.push { cls:=.type nmT,data:=.fields #[.ref l,.int 0 0] }) A false (·∈[s.heap.objs.size]) xs (.ref s.heap.objs.size) St) ->
   fe B C A s { s with heap:=s.heap.push { cls:=.type nmT,data:=.fields #[.ref l,.int 0 0] } } false (fN p) xs (.ref s.heap.objs.size):=by
  intro l vs nmT hfl hll hlive rs hit;have hI:(s.heap.push { cls:=.type nmT,data:=.fields #[.ref l,.int 0 0] }).get? s.heap.objs.size=some _:=cZ _ rfl;refine⟨(·∈[s.heap.objs.size]),[s.heap.objs.size,l],λa ha=>?_,λa ha=>?_,c,λC' h1 h2 h3 h4=>?_⟩
  ·rcases ah.mp ha with rfl|ha
   ·exact⟨aV _,(by rw[hI];exact λq=>nomatch q)⟩
   ·cases ha
  ·rcases ah.mp ha with rfl|ha
   ·exact⟨(by rw[hI];exact λq=>nomatch q),n0.2.2,λ_=>n0.2.1⟩
   ·rcases ah.mp ha with rfl|ha
    ·refine⟨?_,hll,hfl⟩;cases el:s.heap.get? a with
     |none=>exact absurd el hlive
     |some o=>rw[bK _ el];exact λq=>nomatch q
    ·cases ha
  ·exact hit C' h1 (h2 _ iW) (h3 _ iW) (h3 _ kl) (aH.moves h4 c rs)
 have lne:∀{l:Addr},s.heap.get? l≠none->l≠s.heap.objs.size:=λhl e=>hl (e▸aV _);have lst:∀{l:Addr} {vs:List Value} {n:Nat},(fN p=true->¬C.F l)->C.hl≠some l->s.heap.get? l=some (aT vs n)->aH C s.heap xs vs->v=.ref l->WP B A (pyIter v) Q s:=by rintro l vs n hfl hll g rs rfl;have hl:s.heap.IsList l vs.toArray:=⟨_,g,rfl,n,rfl⟩;refine wpAny_pyIter_list hl (h _ _ .lay' (main hfl hll (by rw[g];exact λq=>nomatch q) rs λC' h1 h2 h3 h4 h5=>?_));exact⟨_,⟨⟨⟨_,cZ _ rfl,rfl,rfl⟩,hl.push _⟩,λ_ _ _ _ _ e=>e⟩,yM hh (lne (by rw[g];exact λq=>nomatch q)) ⟨h3,h1▸n0.2.2,(by rw[cZ _ rfl];exact λq=>nomatch q)⟩ h2 ⟨h4,h1▸hll,(by rw[bK _ g];exact λq=>nomatch q)⟩ c h5⟩
 cases p with
 |list ys=>replace e:=iS e;subst e;obtain⟨a,vs,n,rfl,_,f,l,g,rs⟩:=r;exact lst (λ_=>f) l g rs rfl
 |view ys=>replace e:=iS e;subst e;obtain⟨a,vs,n,rfl,_,l,g,rs⟩:=r;exact lst (λq=>nomatch q) l g rs rfl
 |tuple ys=>
  replace e:=iS e;subst e;obtain⟨a,vs,rfl,_,f,l,ht,rs⟩:=r;have hlive:s.heap.get? a≠none:=by refine aP ht ?_;clear ht;intro o ho _;rw[ho];exact λq=>nomatch q
  refine wpAny_pyIter_tuple ht (h _ _ .lay' (main (λ_=>f) l hlive rs λC' h1 h2 h3 h4 h5=>?_));exact⟨_,⟨⟨⟨_,cZ _ rfl,rfl,rfl⟩,ht.push _⟩,λ_ _ _ _ _ e=>e⟩,CO hh (lne hlive) ⟨h3,h1▸n0.2.2,(by rw[cZ _ rfl];exact λq=>nomatch q)⟩ h2 ⟨h4,h1▸l,(by refine aP ht ?_;clear ht;intro o ho _;rw[bK _ ho];exact λq=>nomatch q)⟩ c h5⟩
 |_=>exact nS e
theorem xy{X:E}{f:Ev}(hsm:(X.sm Φ).evSrc=(Sm.val f).evSrc)(hsv:(X.sm Φ).ev=f)(hp:fo X=false)(hv:bL B nm N Φ K X):A9 B nm N Φ K X:=by intro ns sc C A env σ mt T s xs Q o F e Y h;replace e:=hsm▸e;refine bE e λx ex e=>?_;refine bE e λys ey e=>?_;refine bA e λg e=>?_;refine jF e λgz e=>?_;replace e:=iS e;subst e;replace ex:=hsv.symm▸ex;refine hv o F ex Y λv s1 x1 Y1 r1=>BY F.fine.hd Y1.live ey g r1 λit s2 x2 R=>h it s1 s2 x1 Y1 x2 ?_;rw[hp];exact R
end
section
variable{B:aX}{nm:Nat->Str}{N:Nat}{Φ:fA}{K:Nat}
theorem ak{h:Heap}{a:Addr}{o:Obj}(e:h.get? a=some o):h.get? a≠none:=by rw[e];exact λq=>nomatch q
theorem oA{C:Cx}{A:Around}{s:Shared}{a:Int}{n:Nat}{o:Obj}(hh:A.handled=none)(L:ef C s.heap)
  (hsz:Builtin.Range.rangeSize a (a+n) 1=n) {t:Nat}:
  fe B C A s { s with heap:=(s.heap.push o).push { cls:=.type "range_iterator",data:=.fields #[rawInt a,rawInt (Builtin.Range.rangeSize a (a+n) 1),rawInt 1] },toks:=t } false true (dA a n) (.ref (s.heap.objs.size+1)):=by
 have z1:(s.heap.push o).objs.size=s.heap.objs.size+1:=fE ..;have hI:((s.heap.push o).push { cls:=.type "range_iterator",data:=.fields #[rawInt a,rawInt (Builtin.Range.rangeSize a (a+n) 1),rawInt 1] }).get? (s.heap.objs.size+1)=some _:=z1▸cZ _ rfl;have nI:s.heap.get? (s.heap.objs.size+1)=none:=gi (Nat.le_succ _);have n0:=L.new nI;refine⟨(·∈[s.heap.objs.size+1]),[s.heap.objs.size+1],λb hb=>?_,λb hb=>?_,lq n a,λC' h1 h2 h3 _=>?_⟩
 ·rcases ah.mp hb with rfl|hb
  ·exact⟨nI,ak hI⟩
  ·cases hb
 ·rcases ah.mp hb with rfl|hb
  ·exact⟨ak hI,n0.2.2,λ_=>n0.2.1⟩
  ·cases hb
 ·refine⟨_,⟨?_,λ_ _ _ _ _ e=>e⟩,Bl hh ⟨h3 _ iW,h1▸n0.2.2,ak hI⟩ (h2 _ iW)⟩;rw[hsz]at hI ⊢;have e1:a+((0:Nat):Int)*1=a:=by simp
  have e2:(n:Int)-((0:Nat):Int)=n:=rfl;rw[e1];rw[e2];exact hI
theorem fj{a:Int}{n:Nat}:Builtin.Range.rangeSize a (a+n) 1=n:=by
 unfold Builtin.Range.rangeSize;rw[if_pos (by decide)];by_cases h:a<a+n
 ·rw[if_pos h];rw[Int.ediv_one ..];lia
 ·rw[if_neg h];lia
theorem jv{a:Int}{n:Nat}(ha:0<=a)(hb:a+n<1000000):Builtin.Range.small a (a+n) 1=true:=by unfold Builtin.Range.small;rw[fj];simp[Builtin.Range.rangeFitsLong];omega
theorem wX{C:Cx}{A:Around}{s:Shared}{n:Nat}{t:Tok}{Q:aJ Value}(hh:A.handled=none)(L:ef C s.heap)(hn:n<1000000)
  (h:∀it s',a9 none s s'->fe B C A s s' false true (dA 0 n) it->Q it s'):WP B A (call (.type "range") [.int n t]) (λv s₁=>WP B A (pyIter v) Q s₁) s:=by
 have e0:((0:Int)+(n:Int))=n:=by lia
 refine call_range_1 (wpAny_pyIter_range (a:=0) (b:=n) (c:=1) (cZ _ rfl) (by have:=jv (a:=0) (n:=n) (by decide) (by lia);rwa [e0]at this) ?_);have R:=oA (B:=B) (C:=C) (A:=A) (s:=s) (a:=0) (n:=n) (t:=s.toks+1+1) (o:={ cls:=.type "range",data:=.fields #[.int 0 s.toks,.int n t,.int 1 (s.toks+1)] }) hh L fj;replace R:=e0▸R;have:=h _ _ (.mk' λa o e=>bK _ (bK _ e)) R;rw[show(s.heap.push { cls:=.type "range",data:=.fields #[.int 0 s.toks,.int n t,.int 1 (s.toks+1)] }).objs.size=s.heap.objs.size+1 from fE ..];exact this
theorem xO{C:Cx}{A:Around}{s:Shared}{a:Int}{n:Nat}{t u:Tok}{Q:aJ Value}(hh:A.handled=none)(L:ef C s.heap)(ha:0<=a)(hn:a+n<1000000)
  (h:∀it s',a9 none s s'->fe B C A s s' false true (dA a n) it->Q it s'):WP B A (call (.type "range") [.int a t,.int (a+n) u]) (λv s₁=>WP B A (pyIter v) Q s₁) s:=by
 refine call_range_2 (wpAny_pyIter_range (a:=a) (b:=a+n) (c:=1) (cZ _ rfl) (jv ha hn) ?_);have R:=oA (B:=B) (C:=C) (A:=A) (s:=s) (a:=a) (n:=n) (t:=s.toks+1) (o:={ cls:=.type "range",data:=.fields #[.int a t,.int (a+n) u,.int 1 s.toks] }) hh L fj;have:=h _ _ (.mk' λa o e=>bK _ (bK _ e)) R;rw[show(s.heap.push { cls:=.type "range",data:=.fields #[.int a t,.int (a+n) u,.int 1 s.toks] }).objs.size=s.heap.objs.size+1 from fE ..];exact this
inductive H3(C:Cx)(h:Heap)(p:PV)(xs:List PV)(v:Value):Prop
 |mk (l:Addr) (vs:List Value) (n:Nat) (e:v=.ref l) (g:h.get? l=some (aT vs n)) (r:aH C h xs vs) (nl:C.hl≠some l) (fl:fN p=true->¬C.F l)
theorem qJ{C:Cx}{h:Heap}(L:ef C h)(FX:∀a,C.F a->C.hl≠some a){p:PV}{xs:List PV}{v:Value}(e:eM p=some xs)(r:an C h p v):H3 C h p xs v:=by
 cases p with
 |list ys=>replace e:=iS e;subst e;obtain⟨a,vs,n,rfl,_,f,l,g,rs⟩:=r;exact⟨a,vs,n,rfl,g,rs,l,λ_=>f⟩
 |view ys=>replace e:=iS e;subst e;obtain⟨a,vs,n,rfl,_,l,g,rs⟩:=r;exact⟨a,vs,n,rfl,g,rs,l,λq=>nomatch q⟩
 |_=>exact nS e
theorem Bq{C:Cx}{A:Around}{s:Shared}{p:PV}{xs:List PV}{v:Value}{Q:aJ Value}(hh:A.handled=none)(L:ef C s.heap)(FX:∀a,C.F a->C.hl≠some a)(e:eM p=some xs)(c:aA xs=true)(r:an C s.heap p v)
  (h:∀it s',a9 none s s'->fe B C A s s' true (fN p) (ii 0 xs) it->Q it s'):WP B A (call (.type "enumerate") [v]) (λv s₁=>WP B A (pyIter v) Q s₁) s:=by
 obtain⟨l,vs,n,rfl,g,rs,nl,fl⟩:=qJ L FX e r;have hl:s.heap.IsList l vs.toArray:=⟨_,g,rfl,n,rfl⟩;have ll:=gB g;refine call_enumerate_list hl λh' he hit hsz hk=>wpAny_pyIter_enum he (h _ _ (.mk' hk) ?_);have ne:s.heap.get? (s.heap.objs.size+1)=none:=gi (Nat.le_succ _);have ni:s.heap.get? s.heap.objs.size=none:=aV _;have n1:=L.new ne;have n2:=L.new ni;refine⟨(·∈[s.heap.objs.size+1,s.heap.objs.size]),[s.heap.objs.size+1,s.heap.objs.size,l],λb hb=>?_,λb hb=>?_,nk xs 0 c,λC' h1 h2 h3 h4=>?_⟩
 ·rcases ah.mp hb with rfl|hb
  ·exact⟨ne,ak he⟩
  ·rcases ah.mp hb with rfl|hb
   ·refine aP hit ?_;clear hit;intro o ho _;exact⟨ni,ak ho⟩
   ·cases hb
 ·rcases ah.mp hb with rfl|hb
  ·exact⟨ak he,n1.2.2,λ_=>n1.2.1⟩
  ·rcases ah.mp hb with rfl|hb
   ·refine aP hit ?_;clear hit;intro o ho _;exact⟨ak ho,n2.2.2,λ_=>n2.2.1⟩
   ·rcases ah.mp hb with rfl|hb
    ·exact⟨ak (hk _ _ g),nl,fl⟩
    ·cases hb
 ·refine⟨_,⟨⟨⟨.none,he⟩,hit,hl.at λo e=>hk l o e⟩,λ_ _ _ _ _ e=>e⟩,E4 (l:=l) hh (Nat.succ_ne_self _) (Nat.ne_of_lt (Nat.lt_succ_of_lt ll)) (Nat.ne_of_lt ll) (λb hb=>⟨h3 b hb,?_⟩) ⟨h2 _ iW,h2 _ kl⟩ c (aH.moves h4 c rs)⟩;rw[h1];rcases ah.mp hb with rfl|hb
  ·exact⟨n1.2.2,ak he⟩
  ·rcases ah.mp hb with rfl|hb
   ·refine aP hit ?_;clear hit;intro o ho _;exact⟨n2.2.2,ak ho⟩
   ·rcases ah.mp hb with rfl|hb
    ·exact⟨nl,ak (hk _ _ g)⟩
    ·cases hb
theorem D9{C:Cx}{A:Around}{s:Shared}{p q:PV}{xs ys:List PV}{v w:Value}{Q:aJ Value}(hh:A.handled=none)(L:ef C s.heap)(FX:∀a,C.F a->C.hl≠some a)(e:eM p=some xs)(e2:eM q=some ys)(c:aA xs=true)(c2:aA ys=true)
  (r:an C s.heap p v) (r2:an C s.heap q w)
  (h:∀it s',a9 none s s'->fe B C A s s' true (fN p&&fN q) (jJ xs ys) it->Q it s'):WP B A (call (.type "zip") [v,w]) (λv s₁=>WP B A (pyIter v) Q s₁) s:=by
 obtain⟨l,vs,n,rfl,g,rs,nl,fl⟩:=qJ L FX e r;obtain⟨m,ws,n2,rfl,g2,rs2,nl2,fl2⟩:=qJ L FX e2 r2;have hl:s.heap.IsList l vs.toArray:=⟨_,g,rfl,n,rfl⟩;have hl2:s.heap.IsList m ws.toArray:=⟨_,g2,rfl,n2,rfl⟩;have ll:=gB g;have ll2:=gB g2;refine call_zip_2 hl hl2 λh' hz hTI hTO hi1 hi2 hsz hk=>wpAny_pyIter_zip hz (h _ _ (.mk' hk) ?_);have nn:∀k:Nat,s.heap.get? (s.heap.objs.size+k)=none:=λk=>gi (Nat.le_add_right _ _);have D:=zipApart_new ll ll2;have lv:∀k:Nat,k<5->h'.get? (s.heap.objs.size+k)≠none:=
  Hs (let ⟨_,ho,_⟩:=hi1;ak ho) (let ⟨_,ho,_⟩:=hi2;ak ho) (ak hTI) (ak hTO) (ak hz)
 let nb:Nat:=s.heap.objs.size
 have mem:∀b,b∈[nb+4,nb+3,nb,nb+1]->∃k:Nat,k<5/\b=nb+k:=λ_=>zm;have mem2:∀b,b∈[nb+4,nb+2,nb+3,nb,nb+1,l,m]->(∃k:Nat,k<5/\b=nb+k)\/b=l\/b=m:=λ_=>JS;have hlm:∀b,b∈[nb+4,nb+2,nb+3,nb,nb+1,l,m]->C.hl≠some b:=by
  intro b hb;rcases mem2 b hb with⟨k,_,rfl⟩|rfl|rfl
  ·exact(L.new (nn k)).2.2
  ·exact nl
  ·exact nl2
 refine⟨(·∈[nb+4,nb+3,nb,nb+1]),[nb+4,nb+2,nb+3,nb,nb+1,l,m],λb hb=>?_,λb hb=>⟨?_,hlm b hb,λfx=>?_⟩,la xs ys c c2,λC' h1 h2 h3 h4=>?_⟩
 ·refine aP (mem b hb) λk hk' q1q=>?_;subst q1q;exact⟨nn k,lv k hk'⟩
 ·rcases mem2 b hb with⟨k,hk',rfl⟩|rfl|rfl
  ·exact lv k hk'
  ·exact ak (hk _ _ g)
  ·exact ak (hk _ _ g2)
 ·simp only[cC]at fx;rcases mem2 b hb with⟨k,hk',rfl⟩|rfl|rfl
  ·exact(L.new (nn k)).2.1
  ·exact fl fx.1
  ·exact fl2 fx.2
 ·refine⟨_,⟨⟨hz,hTI,⟨_,_,hTO⟩,hi1,hi2,hl.at λo e=>hk l o e,hl2.at λo e=>hk m o e⟩,λ_ _ _ _ _ e=>e⟩,
   Fj (l1:=l) (l2:=m) hh D (λb hb=>⟨h3 b hb,h1▸hlm b hb,?_⟩) h2 c c2 (aH.moves h4 c rs) (aH.moves h4 c2 rs2)⟩
  rcases mem2 b hb with⟨k,hk',rfl⟩|rfl|rfl
  ·exact lv k hk'
  ·exact ak (hk _ _ g)
  ·exact ak (hk _ _ g2)
@[elab_as_elim] theorem E9{f:BF}{ps ys:List PV}{M:BF->List PV->List PV->Prop}(e:sh f ps=some ys)(h1:∀n:Nat,n<1000000->M .range [.int n] (dA 0 n))(h2:∀(a:Int) (n:Nat),0<=a->a+n<1000000->M .range [.int a,.int (a+n)] (dA a n))
  (h3:∀q zs,eM q=some zs->aA zs=true->M .enumerate [q] (ii 0 zs)) (h4:∀q zs ws,eM q=some zs->aA zs=true->aA ws=true->zs.length<=ws.length->M .zip [q,.tuple ws] (jJ zs ws))
  (h5:∀q q2 zs ws,eM q=some zs->eM q2=some ws->aA zs=true->aA ws=true->M .zip [q,q2] (jJ zs ws)):M f ps ys:=by
 cases f with
 |range=>
  refine F4 e (λp e=>ch e λn e=>?_) λp q e=>ch e λa e=>ch e λn e=>?_
  ·refine bA e λg e=>?_;obtain rfl:=iS e;refine af (Int.eq_ofNat_of_zero_le (of_decide_eq_true (a2 g).1)) λk q1q=>?_;subst q1q;exact h1 k (Int.ofNat_lt.mp (of_decide_eq_true (a2 g).2))
  ·refine bA e λg e=>?_;obtain rfl:=iS e;refine af (Int.eq_ofNat_of_zero_le (Int.sub_nonneg_of_le (of_decide_eq_true (a3 g).2.1))) λk hk=>?_;obtain rfl:n=a+k:=by omega
   rw[hk];exact h2 a k (of_decide_eq_true (a3 g).1) (of_decide_eq_true (a3 g).2.2)
 |enumerate=>refine eK e λp e=>?_;refine bE e λzs e1 e=>?_;refine bA e λg e=>?_;obtain rfl:=iS (kG e).2;exact h3 p zs e1 g
 |zip=>
  refine wh e λp q e=>?_;refine bE e λzs e1 e=>?_;refine Gk e (λws e=>?_) λe=>?_
  ·refine bA e λg e=>?_;obtain rfl:=iS (kG e).2;exact h4 p zs ws e1 (a3 g).1 (a3 g).2.1 (fn (a3 g).2.2)
  ·refine bE e λus e2 e=>?_;refine bA e λg e=>?_;obtain rfl:=iS (kG e).2;exact h5 p q zs us e1 e2 (a2 g).1 (a2 g).2
 |_=>exact nS e
theorem yr(P:bV B Φ K){f:BF}{fp p:Pos}{es:E}(hl:rC B nm N Φ K es):A9 B nm N Φ K (.callb f fp es p):=by
 intro ns sc C A env σ mt T s xs Q o F e Y h;refine bE e λps ep e=>?_;refine mE e λys ey qq=>?_;subst qq;replace o:=a2 o;refine(?_:WP B A (eval (.Name f.nm fp) env >>= λfv=>callWith p fv [] (backTo p (starEach (es.toEs nm) env)) []) _ s);refine wpAny_bind (gu F (by simpa using o.1) Y (P.bf f) (pq (fG env p es) (hl o.2 F ep Y λvs s1 x1 Y1 r1=>?_)));refine(?_:WP B A (call f.val vs) (λv s₁=>WP B A (pyIter v) Q s₁) s1);have hh:=F.fine.hd;have L:=Y1.live;have FX:∀a,C.F a->C.hl≠some a:=λa f l=>Y1.sim.vol.lf a l f;obtain⟨ps,T1⟩:=ps;revert h r1;refine E9 ey (λn hn h r1=>?_) (λa n ha hn h r1=>?_) (λq zs e1 g h r1=>?_) (λq zs ws e1 g1 g2 g3 h r1=>?_) λq q2 zs ws e1 e2 g1 g2 h r1=>?_
 ·refine oI r1 λv r1=>?_;refine af r1 ?_;clear r1;intro t q1q;subst q1q;exact wX hh L hn λit s' x R=>h it s1 s' x1 Y1 x R
 ·refine Af r1 λv w r1 r2=>?_;refine af r1 ?_;clear r1;intro t q1q;subst q1q;refine af r2 ?_;clear r2;intro u q1q;subst q1q;exact xO hh L ha hn λit s' x R=>h it s1 s' x1 Y1 x R
 ·refine oI r1 λv r2=>Bq hh L FX e1 g r2 λit s' x R=>h it s1 s' x1 Y1 x ?_;exact IF (M:=λb=>fe B C A s1 s' true b _ it) (Bool.and_true (fN q)) R
 ·refine Af r1 λv w r2 r3=>P.zipT hh L e1 r2 r3 g1 g2 g3 λit s' x R=>h it s1 s' x1 Y1 x ?_;exact IF (M:=λb=>fe B C A s1 s' true b _ it) (Bool.and_true (fN q)) R
 ·refine Af r1 λv w r2 r3=>D9 hh L FX e1 e2 g1 g2 r2 r3 λit s' x R=>h it s1 s' x1 Y1 x ?_;exact IF (M:=λb=>fe B C A s1 s' true (fN q&&b) _ it) (Bool.and_true (fN q2)) R
end
section
variable{B:aX}{C:Cx}{A:Around}{env:Env}{nm:Nat->Str}{sc:SC}{σ:aF}{mt:List (Nat×Addr)}{s:Shared}
theorem dY.poke{h h':Heap}{D:Addr}(S:dY B C env nm sc σ mt h)(hD:C.F D)(h1:D≠env.locals)(h2:∀x a,env.cells.lookup x=some a->a≠D)(h3:∀i a,(i,a)∈mt->a≠D)
  (hk:∀a o,a≠D->h.get? a=some o->h'.get? a=some o) (hl:h'.get? D≠none):dY B C env nm sc σ mt h':=by
 have V:=S.vol;have live:∀a,h.get? a≠none->h'.get? a≠none:=λa q=>by
  by_cases w:a=D
  ·subst w;exact hl
  ·cases e:h.get? a with
   |none=>exact absurd e q
   |some o=>rw[hk a o w e];exact λz=>nomatch z
 exact {
  vol:=⟨λa o e=>hk a o (λw=>by subst w;replace e:=V.baseF a hD▸e;exact nS e) (V.base a o e),V.baseX,V.baseF,V.baseL,λa x=>live a (V.liveX a x),λa x=>live a (V.liveF a x),λa x=>live a (V.liveL a x),V.fx,V.lf,V.lx⟩
  fF:=S.fF
  cF:=S.cF
  mF:=S.mF
  mlist:=λi a q=>by refine eV (S.mlist i a q) λvs n e=>?_;exact⟨vs,n,hk a _ (h3 i a q) e⟩
  minj:=S.minj
  ex:=by
   refine aP S.ex λm F e=>?_;refine⟨m,F.keep (λa=>a=env.locals\/∃x,env.cells.lookup x=some a) (.inl rfl) (λx a e=>.inr ⟨x,e⟩) λa o x g=>hk a o (x.elim (λq=>q▸h1.symm) λ⟨x,e⟩=>h2 x a e) g,λi c q=>⟨(e i c q).1,?_⟩⟩;have y:=(e i c q).2;cases z:σ.getD i none with
   |none=>trivial
   |some av=>
    replace y:=z▸y;cases av with
    |val p=>obtain⟨c,v,e,r⟩:=y;exact⟨c,v,e,r.move (λa o x f l g=>⟨x,f,l,hk a o (λw=>f (w▸hD)) g⟩) (λ_ e=>e) c⟩
    |own xs=>obtain⟨c,b,vs,n,e,q,g,r⟩:=y;exact⟨c,b,vs,n,e,q,hk b _ (h3 i b q) g,r.move (λa o x f l g=>⟨x,f,l,hk a o (λw=>f (w▸hD)) g⟩) (λ_ e=>e) c⟩ }
theorem eR.refl(C:Cx)(s:Shared):eR C s s:=⟨rfl,rfl,rfl,λ_ _ _ _ e=>e,λ_ e=>e⟩
theorem eR.trans{s' s'':Shared}(x:eR C s s')(y:eR C s' s''):eR C s s'':=⟨y.gens.trans x.gens,y.drawn.trans x.drawn,y.os.trans x.os,λa o f l e=>y.keep a o f l (x.keep a o f l e),λa e=>y.live a (x.live a e)⟩
theorem a9.chg{s':Shared}(x:a9 C.hl s s')(hl:∀a,C.hl=some a->s'.heap.get? a≠none):eR C s s':=⟨x.gens,x.drawn,x.os,λa o _ l e=>x.keep a o l e,λa q=>by
 by_cases l:C.hl=some a
 ·exact hl a l
 ·cases e:s.heap.get? a with
  |none=>exact absurd e q
  |some o=>rw[x.keep a o l e];exact λz=>nomatch z⟩
noncomputable def ug(s s':Shared):Prop:=∀a vs n,s.heap.get? a=some (aT vs n)->s'.heap.get? a=some (aT vs n)
theorem pX{N:Nat}(hn:bU nm sc):∀{ts:List (Nat×Pos)} {ps:List PV} {vs:List Value} {σ σ':aF} {mt:List (Nat×Addr)} {s:Shared} {Q:aJ Unit},
  aq σ ts ps=some σ'->dY B C env nm sc σ mt s.heap->σ.length=N->(∀t∈ts,t.1<N/\∃c,c≠.cap/\(t.1,c)∈sc)->aH C s.heap ps vs ->
  (∀s' mt',(∀x∈mt',x∈mt)->dY B C env nm sc σ' mt' s'.heap->σ'.length=N->eR C s s'->ug s s'->Q () s')->WP B A (assignInOrder ((assignEach (tN nm ts) env).map (·.2)) vs) Q s
 |[],[],vs,σ,σ',mt,s,Q,e,S,hl,_,r,h=>by replace e:=iS e;subst e;cases r;exact wpAny_assignInOrder_none (h s mt (λ_ x=>x) S hl (.refl _ _) λ_ _ _ e=>e)
 |[],_ :: _,_,_,_,_,_,_,e,_,_,_,_,_=>nS e
 |_ :: _,[],_,_,_,_,_,_,e,_,_,_,_,_=>nS e
 |t :: ts,p :: ps,vs,σ,σ',mt,s,Q,e,S,hl,ht,r,h=>by
  refine bA e λc e=>?_;obtain⟨v,w,rfl,r1,r2⟩:=r;obtain⟨h1,k,hk,hi⟩:=ht t bW;refine wpAny_assignInOrder_more (wpAny_assign_Name (S.store (av:=.val p) hi hn (hl▸h1) hk ⟨c,r1⟩ λs1 S1 c1 l1=>?_));refine pX hn e S1 (by simpa using hl) (λt' h'=>ht t' (bZ _ h')) ?_ λs2 mt2 m2 S2 n2 c2 l2=>h s2 mt2 (λx hx=>?_) S2 n2 (c1.trans c2) λa vs n e=>l2 a vs n (l1 a vs n e)
  ·by_cases hcl:aA ps=true
   ·exact r2.move (λa o x f l g=>⟨x,f,l,c1.keep a o f l g⟩) (λ_ e=>e) hcl
   ·exfalso;clear S1 c1 l1 h r1 r2 S c;have:∀(ts:List (Nat×Pos)) (ps:List PV) (σ σ':aF),aq σ ts ps=some σ'->aA ps=true:=by
     intro ts ps
     induction ps generalizing ts with
     |nil=>intro _ _ _;rfl
     |cons p ps ih=>
      intro σ σ' e;cases ts with
      |nil=>exact nS e
      |cons t ts=>refine cL (eO e) λc e=>?_;simp only[bb,bR,c,ih _ _ _ e,Bool.and_self]
    exact hcl (this _ _ _ _ e)
  ·have:=m2 x hx;exact(cf.mp this).1
theorem dU(ts:List (Nat×Pos)):(assignEach (tN nm ts) env).length=ts.length/\(assignEach (tN nm ts) env).findIdx? (·.1)=none:=by
 induction ts with
 |nil=>exact⟨rfl,rfl⟩
 |cons t ts ih=>have e:assignEach (tN nm (t :: ts)) env=(false,assign (.Name (nm t.1) t.2) env) :: assignEach (tN nm ts) env:=rfl;rw[e];refine⟨by simp[ih.1],?_⟩;rw[List.findIdx?_cons];simp[ih.2]
theorem jx:∀{ts:List (Nat×Pos)} {ps:List PV} {σ σ':aF},aq σ ts ps=some σ'->ts.length=ps.length
 |[],[],_,_,_=>rfl
 |[],_ :: _,_,_,e=>nS e
 |_ :: _,[],_,_,e=>nS e
 |_ :: _,_ :: _,_,_,e=>by simp[jx (eO e).2]
theorem kT{N:Nat}{tg:Tg}{p:PV}{v:Value}{σ':aF}{Q:aJ Unit}(hh:A.handled=none)(hn:bU nm sc)(e:cN σ tg p=some σ')(S:dY B C env nm sc σ mt s.heap)(hl:σ.length=N)
  (ht:∀i∈en tg,i<N/\∃c,c≠.cap/\(i,c)∈sc) (r:an C s.heap p v)
  (h:∀s' mt',(∀x∈mt',x∈mt)->dY B C env nm sc σ' mt' s'.heap->σ'.length=N->eR C s s'->ug s s'->Q () s'):WP B A (assign (tg.toE nm) env v) Q s:=by
 cases tg with
 |one i q=>refine bA e λc e=>?_;replace e:=iS e;subst e;obtain⟨h1,k,hk,hi⟩:=ht i iW;refine wpAny_assign_Name (S.store (av:=.val p) hi hn (hl▸h1) hk ⟨c,r⟩ λs1 S1 c1 l1=>h s1 _ (λx hx=>(cf.mp hx).1) S1 (by simpa using hl) c1 l1)
 |many ts k q=>
  cases p<;>try exact nS e
  rename_i ps
  obtain⟨a,vs,rfl,_,_,_,htup,rs⟩:=r;have hlen:ts.length=vs.length:=by rw[jx e];rw[rs.length];rfl
  refine wpAny_assign_Tuple hh htup (by rw[show(ts.map λt=>Expr.Name (nm t.1) t.2)=tN nm ts from rfl];rw[(dU ts).1];simpa using hlen) (dU ts).2 λh' hx=>?_;have x1:a9 none s { s with heap:=h' }:=⟨rfl,rfl,rfl,λb o _ eb=>hx b o (λq=>by subst q;replace eb:=(aV ..)▸eb;exact nS eb) eb⟩;have S1:dY B C env nm sc σ mt h':=S.keep (λb o _ eb=>x1.all b o eb) λb lb=>by
   have:=S.vol.liveL b lb;cases eb:s.heap.get? b with
   |none=>exact absurd eb this
   |some o=>rw[show h'.get? b=some o from x1.all b o eb];exact λq=>nomatch q
  refine pX (s:={ s with heap:=h' }) hn e S1 hl (λt ht'=>ht t.1 (dJ ht')) (rs.kept x1) λs2 mt2 m2 S2 n2 c2 l2=>h s2 mt2 m2 S2 n2 ?_ λb ws n eb=>l2 b ws n (x1.all b _ eb);exact eR.trans (s':={ s with heap:=h' }) (x1.up.chg λb lb=>S1.vol.liveL b lb) c2
noncomputable def mM(cells:List (Str×Addr)):gM->List (Str×Addr)->List (Str×Addr)
 |[],acc=>acc
 |(x,k) :: r,acc=>if k==.free then mM cells r ((x,(cells.lookup x).getD 0) :: acc)else mM cells r acc
theorem xN{cells:List (Str×Addr)}{x k r acc}:mM cells ((x,k) :: r) acc=(if k==.free then mM cells r ((x,(cells.lookup x).getD 0) :: acc)else mM cells r acc):=rfl
theorem wI{scope:Scope}(hf:∀x,(x,NameKind.free)∈scope.names->∃a,env.cells.lookup x=some a):closureFor scope env=pure (mM env.cells scope.names []):=by
 have key:∀(l:gM) (acc:List (Str×Addr)),(∀x,(x,NameKind.free)∈l->∃a,env.cells.lookup x=some a) ->
   (forIn l acc λ(x:Str×NameKind) (cs:List (Str×Addr))=>(if x.2==.free then(do let a <-cellOf env x.1;pure (ForInStep.yield ((x.1,a) :: cs)))else pure (ForInStep.yield cs):Sem (ForInStep (List (Str×Addr)))))=pure (mM env.cells l acc):=by
  intro l
  induction l with
  |nil=>intro acc _;rfl
  |cons y r ih=>
   intro acc h;obtain⟨x,k⟩:=y;rw[List.forIn_cons ..];rw[xN];by_cases hk:(k==NameKind.free)=true
   ·have hk':k=.free:=by simpa using hk
    subst hk';refine af (h x bW) λa ha=>?_;simp only[beq_self_eq_true,if_true];have e1:cellOf env x=pure a:=by unfold cellOf;rw[ha];rfl
    have i1:=ih ((x,a) :: acc) λz hz=>h z (bZ _ hz);rw[e1];rw[ha];simp only[pure_bind];exact i1
   ·simp only[hk,Bool.false_eq_true,if_false];have i1:=ih acc λz hz=>h z (bZ _ hz);simp only[pure_bind];exact i1
 have:=key scope.names [] hf;have e2:closureFor scope env=(forIn scope.names ([]:List (Str×Addr)) λ(x:Str×NameKind) (cs:List (Str×Addr))=>(if x.2==.free then(do let a <-cellOf env x.1;pure (ForInStep.yield ((x.1,a) :: cs)))else pure (ForInStep.yield cs):Sem (ForInStep (List (Str×Addr))))):=by unfold closureFor;simp
 replace this:=e2.symm▸this;exact this
end
theorem jk{cells:List (Str×Addr)}:∀{names:gM} {acc:List (Str×Addr)} {x:Str} {a:Addr},(mM cells names acc).lookup x=some a->acc.lookup x=some a\/((x,NameKind.free)∈names/\a=(cells.lookup x).getD 0)
 |[],_,_,_,e=>.inl e
 |(y,k) :: r,acc,x,a,e=>by
  replace e:=xN▸e;by_cases hk:(k==NameKind.free)=true
  ·replace e:=if_pos hk▸e;have hk':k=.free:=by simpa using hk
   subst hk';rcases jk e with e|⟨m,e⟩
   ·rewrite[fh]at e;cases hb:x==y with
    |true=>
     replace e:=hb▸e;have:x=y:=by simpa using hb
     subst this;replace e:=iS e;subst e;exact .inr ⟨bW,rfl⟩
    |false=>replace e:=hb▸e;exact .inl e
   ·exact .inr ⟨bZ _ m,e⟩
  ·replace e:=if_neg hk▸e;rcases jk e with e|⟨m,e⟩
   ·exact .inl e
   ·exact .inr ⟨bZ _ m,e⟩
theorem qC{cells:List (Str×Addr)}:∀{names:gM} {acc:List (Str×Addr)} {x:Str},((∃a,acc.lookup x=some a)\/(x,NameKind.free)∈names)->∃a,(mM cells names acc).lookup x=some a
 |[],_,_,e=>by rcases e with e|e;exact e;cases e
 |(y,k) :: r,acc,x,e=>by
  rw[xN];by_cases hk:(k==NameKind.free)=true
  ·rw[if_pos hk];refine qC ?_;by_cases hb:x=y
   ·subst hb;exact .inl ⟨(cells.lookup x).getD 0,by simp⟩
   ·rcases e with⟨a,e⟩|e
    ·exact .inl ⟨a,by rw[fh];rw[show(x==y)=false by simpa using hb];exact e⟩
    ·rcases ah.mp e with e|e
     ·cases e;exact absurd rfl hb
     ·exact .inr e
  ·rw[if_neg hk];refine qC ?_;rcases e with e|e
   ·exact .inl e
   ·rcases ah.mp e with e|e
    ·cases e;simp at hk
    ·exact .inr e
theorem bu:∀(names:gM) (n:Nat) (acc:List (Str×Addr)),cellsFrom n names acc=cellsFrom n names []++acc
 |[],_,_=>rfl
 |(x,k) :: r,n,acc=>by
  unfold cellsFrom;by_cases hk:(k==NameKind.cell)=true
  ·rw[if_pos hk];rw[if_pos hk];rw[bu r (n+1) ((x,n) :: acc)];rw[bu r (n+1) [(x,n)]];simp
  ·rw[if_neg hk];rw[if_neg hk];rw[bu r n acc];rfl
theorem iC:∀{names:gM} {n:Nat} {x:Str} {a:Addr},(x,a)∈cellsFrom n names []->(x,NameKind.cell)∈names
 |[],_,_,_,e=>by cases e
 |(y,k) :: r,n,x,a,e=>by
  unfold cellsFrom at e;by_cases hk:(k==NameKind.cell)=true
  ·replace e:=if_pos hk▸e;replace e:=(bu ..)▸e;have hk':k=.cell:=by simpa using hk
   subst hk';rcases jU.mp e with e|e
   ·exact bZ _ (iC e)
   ·rcases ah.mp e with e|e
    ·cases e;exact bW
    ·cases e
  ·replace e:=if_neg hk▸e;exact bZ _ (iC e)
theorem iJ:∀{names:gM} {n:Nat} {x:Str},(x,NameKind.cell)∈names->∃a,(cellsFrom n names []).lookup x=some a
 |[],_,_,e=>by cases e
 |(y,k) :: r,n,x,e=>by
  unfold cellsFrom;by_cases hk:(k==NameKind.cell)=true
  ·rw[if_pos hk];rw[bu ..];rw[List.lookup_append];by_cases hb:x=y
   ·subst hb;cases (cellsFrom (n+1) r []).lookup x with
    |some a=>exact⟨a,rfl⟩
    |none=>exact⟨n,by simp⟩
   ·rcases ah.mp e with e|e
    ·cases e;exact absurd rfl hb
    ·refine af (iJ (n:=n+1) e) λa ha=>?_;exact⟨a,by rw[ha];rfl⟩
  ·rw[if_neg hk];rcases ah.mp e with e|e
   ·cases e;simp at hk
   ·exact iJ e
theorem fm:∀{names:gM} {x:Str} {k:NameKind},mi names=true->(x,k)∈names->names.lookup x=some k
 |[],_,_,_,e=>by cases e
 |(y,j) :: r,x,k,h,e=>by
  simp only[Cc,cC]at h;rw[fh];rcases ah.mp e with e|e
  ·cases e;simp
  ·have:=bD.mp h.1 _ e;have hne:(x==y)=false:=by
    cases hb:x==y with
    |false=>rfl
    |true=>
     have:x=y:=by simpa using hb
     subst this;simp at *
   rw[hne];exact fm h.2 e
theorem qA{scope:Scope}{env:Env}{x:Str}{k:NameKind}(h:(relabel scope env).names.lookup x=some k):scope.names.lookup x=some k\/(scope.names.lookup x=some .free/\k=.cell):=by
 have key:∀names:gM,(names.map λ(n,k)=>if (k==NameKind.free&&env.scope.kind==.function&&env.kindOf n==some .cell)then(n,NameKind.cell)else(n,k)).lookup x=some k ->
   names.lookup x=some k\/(names.lookup x=some .free/\k=.cell):=by
  intro names
  induction names with
  |nil=>intro h;exact nS h
  |cons y r ih=>
   obtain⟨n,j⟩:=y;intro h;replace h:=bh▸h;rw[fh];by_cases hc:(j==NameKind.free&&env.scope.kind==.function&&env.kindOf n==some .cell)=true
   ·simp only[hc,if_true,fh]at h;cases hb:x==n with
    |true=>replace h:=hb▸h;replace h:=iS h;subst h;simp only[cC,beq_iff_eq]at hc;exact .inr ⟨by rw[hc.1.1];rfl,rfl⟩
    |false=>replace h:=hb▸h;exact ih h
   ·simp only[hc,Bool.false_eq_true,if_false,fh]at h;cases hb:x==n with
    |true=>replace h:=hb▸h;exact .inl h
    |false=>replace h:=hb▸h;exact ih h
 exact key scope.names h
theorem jP{scope:Scope}{env:Env}{x:Str}{k:NameKind}(h:scope.names.lookup x=some k):(relabel scope env).names.lookup x=some k\/(k=.free/\(relabel scope env).names.lookup x=some .cell):=by
 have key:∀names:gM,names.lookup x=some k ->
   (names.map λ(n,k)=>if (k==NameKind.free&&env.scope.kind==.function&&env.kindOf n==some .cell)then(n,NameKind.cell)else(n,k)).lookup x=some k \/
   (k=.free/\(names.map λ(n,k)=>if (k==NameKind.free&&env.scope.kind==.function&&env.kindOf n==some .cell)then(n,NameKind.cell)else(n,k)).lookup x=some .cell):=by
  intro names
  induction names with
  |nil=>intro h;exact nS h
  |cons y r ih=>
   obtain⟨n,j⟩:=y;intro h;rewrite[fh]at h;rw[bh];by_cases hc:(j==NameKind.free&&env.scope.kind==.function&&env.kindOf n==some .cell)=true
   ·simp only[hc,if_true,fh];cases hb:x==n with
    |true=>replace h:=hb▸h;replace h:=iS h;subst h;simp only[cC,beq_iff_eq]at hc;exact .inr ⟨hc.1.1,rfl⟩
    |false=>replace h:=hb▸h;exact ih h
   ·simp only[hc,Bool.false_eq_true,if_false,fh];cases hb:x==n with
    |true=>replace h:=hb▸h;exact .inl h
    |false=>replace h:=hb▸h;exact ih h
 exact key scope.names h
section
variable{B:aX}{C:Cx}{A:Around}{env:Env}{nm:Nat->Str}{sc:SC}{σ:aF}{mt:List (Nat×Addr)}{s:Shared}
theorem uc{scope:Scope}{globals:Addr}{cl:List (Str×Addr)}{qual:Str}{Q:aJ Env}
  (h:Q (newEnv scope s.heap.objs.size globals (cellsFrom (s.heap.objs.size+1) scope.names cl) qual none .none (some env) builtinsNs) { s with heap:=pushCells (s.heap.push { cls:=.type "dict",data:=.dict #[] }) scope.names }):
  WP B A (newFunctionEnv scope globals cl [] qual none .none (some env)) Q s:=by
 simp only[newFunctionEnv,Option.isSome_some,if_true];refine wpAny_bind (wpAny_alloc ?_);refine wpAny_bind (wpAny_layCells _ (λname kind cells=>by cases hkc:kind==NameKind.cell<;>simp[hkc]) _ _ _ _ ?_);rw[show({ s with heap:=s.heap.push { cls:=.type "dict",data:=.dict #[] } }:Shared).heap.objs.size=s.heap.objs.size+1 from fE ..];refine wpAny_bind (wpAny_pure ?_);exact wpAny_pure h
theorem pt:∀(caps:List Nat) (σ:aF) (k i:Nat),(iG caps k σ).getD i none=match caps.contains (k+i),σ.getD i none with|true,some (.val p)=>some (.val p)|_,_=>none
 |caps,[],k,i=>by have e:([]:aF).getD i none=none:=rfl;rw[pb];rw[e];cases caps.contains (k+i)<;>rfl
 |caps,a :: r,k,0=>by refine(?_:((match caps.contains k,a with|true,some (.val p)=>some (AV.val p)|_,_=>none) :: iG caps (k+1) r).getD 0 none=_);rw[Nat.add_zero ..];cases caps.contains k<;>cases a<;>(try rename_i av;cases av)<;>rfl
 |caps,a :: r,k,i+1=>by have:=pt caps r (k+1) i;replace this:=(show k+1+i=k+(i+1) by omega)▸this;simpa[pb,uZ]using this
theorem pi:∀(caps:List Nat) (σ:aF) (k:Nat),(iG caps k σ).length=σ.length
 |_,[],_=>rfl
 |caps,a :: r,k=>by simp[pb,uZ,pi caps r]
theorem nt{nm:Nat->Str}:∀{l:SC},gS nm l=true->bU nm l
 |[],_=>λi c j d h _ _=>by cases h
 |x :: r,h=>by
  simp only[qT,cC]at h;intro i c j d hi hj e;rcases ah.mp hi with hi|hi<;>rcases ah.mp hj with hj|hj
  ·replace hj:=hi.symm▸hj;cases hj;rfl
  ·have:=bD.mp h.1 _ hj;replace this:=hi.symm▸this;simp[e]at this
  ·have:=bD.mp h.1 _ hi;replace this:=hj.symm▸this;simp[e]at this
  ·exact nt h.2 i c j d hi hj e
theorem nw{nm:Nat->Str}{c d:Kd}{i:Nat}:∀{l:SC},gS nm l=true->(i,c)∈l->(i,d)∈l->c=d
 |[],_,h,_=>by cases h
 |x :: r,h,hi,hj=>by
  simp only[qT,cC]at h;rcases ah.mp hi with hi|hi<;>rcases ah.mp hj with hj|hj
  ·replace hj:=hi.symm▸hj;cases hj;rfl
  ·have:=bD.mp h.1 _ hj;replace this:=hi.symm▸this;simp at this
  ·have:=bD.mp h.1 _ hi;replace this:=hj.symm▸this;simp at this
  ·exact nw h.2 hi hj
theorem jC{ns:gM}:∀{l:List Nat} {r:SC},hH nm ns l=some r->(∀i∈l,∃k,(i,k)∈r)/\∀i k,(i,k)∈r->wU ns (nm i)=some k/\i∈l
 |[],r,e=>by replace e:=iS e;subst e;exact⟨λ_ h=>(nomatch h),λ_ _ h=>(nomatch h)⟩
 |i :: l,r,e=>by
  refine bE e λk ek e=>?_;refine mE e λr' er qq=>?_;subst qq;refine cL (jC er) λh1 h2=>?_;refine⟨λj hj=>?_,λj d hj=>?_⟩
  ·rcases ah.mp hj with rfl|hj
   ·exact⟨k,bW⟩
   ·refine af (h1 j hj) λd hd=>?_;exact⟨d,bZ _ hd⟩
  ·rcases ah.mp hj with hj|hj
   ·cases hj;exact⟨ek,bW⟩
   ·exact⟨(h2 j d hj).1,bZ _ (h2 j d hj).2⟩
theorem nO{ns:gM}{x:Str}{k:Kd}(h:wU ns x=some k):(k=.loc/\ns.lookup x=some .local)\/(k=.cell/\ns.lookup x=some .cell):=by
 have q:∀o:Option NameKind,(match o with|some .local=>some Kd.loc|some .cell=>some .cell|_=>none)=some k->(k=.loc/\o=some .local)\/(k=.cell/\o=some .cell):=λo h=>by
  cases o<;>try exact nS h
  rename_i o
  cases o<;>first|exact nS h|(replace h:=iS h;subst h)
  ·exact .inl ⟨rfl,rfl⟩
  ·exact .inr ⟨rfl,rfl⟩
 exact q _ h
end
noncomputable abbrev jY(h:Heap)(names:gM):Heap:=pushCells ((h.push (aT [] 0)).push { cls:=.type "dict",data:=.dict #[] }) names
noncomputable abbrev jn(h:Heap)(env:Env)(names:gM):List (Str×Addr):=cellsFrom (h.objs.size+1+1) names (mM env.cells names [])
noncomputable abbrev wa(h:Heap)(env:Env)(scope:Scope):Env:=
 { scope:=relabel scope env,locals:=h.objs.size+1,globals:=env.globals,cells:=jn h env scope.names,qual:=env.qual,func:=none,code:=env.code,frame:=env.frame,builtins:=env.builtins }
noncomputable def lT(h:Heap)(env:Env)(scope:Scope)(a:Addr):Prop:=a=h.objs.size\/a=h.objs.size+1\/∃x,(jn h env scope.names).lookup x=some a/\h.objs.size+1<a
structure gn(nm:Nat->Str)(N:Nat)(sc:SC)(scope:Scope)(caps:List Nat)(tg:Tg)(sc':SC):Prop where
 kind:scope.kind=.function
 nodup:mi scope.names=true
 locals:∀x∈scope.names,x.2=.local->scope.names.lookup x.1=some .local
 frees:∀x,(x,NameKind.free)∈scope.names->∃i∈caps,nm i=x
 capsOk:∀i∈caps,scope.names.lookup (nm i)=some .free/\∃k,(i,k)∈sc/\k≠.loc
 slots:∀i∈en tg,i<N
 capsN:∀i∈caps,i<N
 own:hH nm scope.names (en tg)=some (sc'.drop caps.length)
 eq:sc'=(caps.map λi=>(i,Kd.cap))++sc'.drop caps.length
 nn:gS nm sc'=true
theorem i3{nm:Nat->Str}{N:Nat}{sc:SC}{scope:Scope}{caps:List Nat}{tg:Tg}{sc':SC}(h:oR nm N sc scope caps tg=true)(e:BR nm scope.names caps tg=some sc'):gn nm N sc scope caps tg sc':=by
 simp only[oR,cC,e]at h;obtain⟨⟨⟨⟨⟨⟨⟨h1,h2⟩,h3⟩,h4⟩,h5⟩,h6⟩,h7⟩,h8⟩:=h;refine mE e λo eo qq=>?_;subst qq;have hd:((caps.map λi=>(i,Kd.cap))++o).drop caps.length=o:=by
  have:caps.length=(caps.map λi=>(i,Kd.cap)).length:=by simp
  rw[this];rw[List.drop_left];rfl
 refine⟨by simpa using h1,h2,λx hx hl=>?_,λx hx=>?_,λi hi=>?_,λi hi=>?_,λi hi=>?_,by rw[hd];exact eo,by rw[hd];rfl,h8⟩
 ·have:=bD.mp h3 x hx;replace this:=hl▸this;simpa using this
 ·have:=bD.mp h4 _ hx;simp only[beq_self_eq_true,Bool.not_true,Bool.false_or]at this;refine aP (ls.mp this) λi hi e=>?_;exact⟨i,hi,by simpa using e⟩
 ·have:=bD.mp h5 i hi;simp only[cC,beq_iff_eq]at this;obtain⟨⟨j,k⟩,hj,e⟩:=ls.mp this.2;simp only[cC,beq_iff_eq,kJ,beq_eq_false_iff_ne]at e;refine cL e ?_;clear e;intro q1q hk;subst q1q;exact⟨this.1,k,hj,hk⟩
 ·have:=bD.mp h6 i hi;simpa[Nat.blt_eq]using this
 ·have:=bD.mp h7 i hi;simpa[Nat.blt_eq]using this
section
variable{B:aX}{C:Cx}{A:Around}{env:Env}{nm:Nat->Str}{sc sc':SC}{σ:aF}{mt:List (Nat×Addr)}{scope:Scope}{caps:List Nat}{tg:Tg}{N:Nat}{h:Heap}
theorem dM{names:gM}:∀a o,h.get? a=some o->(jY h names).get? a=some o:=λa o e=>pushCells_keeps _ _ a o (bK _ (bK _ e))
theorem oo{names:gM}:(jY h names).get? h.objs.size=some (aT [] 0):=pushCells_keeps _ _ _ _ (bK _ (cZ _ rfl))
theorem ph{names:gM}:(jY h names).get? (h.objs.size+1)=some { cls:=.type "dict",data:=.dict #[] }:=
 pushCells_keeps _ _ _ _ (by
  have:((h.push (aT [] 0)).push { cls:=.type "dict",data:=.dict #[] }).get? (h.push (aT [] 0)).objs.size=some { cls:=.type "dict",data:=.dict #[] }:=cZ _ rfl
  rwa [fE]at this)
theorem kK(names:gM):CellsOk (jY h names) (h.objs.size+1+1) (cellsFrom (h.objs.size+1+1) names []):=by
 have:=cellsFrom_ok names ((h.push (aT [] 0)).push { cls:=.type "dict",data:=.dict #[] }) (h.objs.size+1+1) [] ⟨λ_ _ hm=>(nomatch hm),List.Pairwise.nil⟩ (by rw[fE ..];rw[fE ..];exact d4 _)
 rwa [fE,fE]at this
theorem Bn{C:Cx}{k:Kd}{x:Str}(hk:k≠.loc)(K:w9 C env x k):(env.kindOf x=some .cell\/env.kindOf x=some .free)/\∃a,env.cells.lookup x=some a/\(C.F a\/C.X a):=by
 cases k with
 |loc=>exact absurd rfl hk
 |cell=>obtain⟨h1,a,h2,h3⟩:=K;exact⟨h1,a,h2,.inl h3⟩
 |cap=>obtain⟨h1,a,h2,h3⟩:=K;exact⟨h1,a,h2,.inr h3⟩
theorem cm(S:dY B C env nm sc σ mt h)(O:gn nm N sc scope caps tg sc'){x:Str}(hx:(x,NameKind.free)∈scope.names):
  (env.kindOf x=some .cell\/env.kindOf x=some .free)/\∃a,env.cells.lookup x=some a/\(C.F a\/C.X a):=by
 refine aP (O.frees x hx) λi hi q1q=>?_;subst q1q;obtain⟨_,k,hk,hne⟩:=O.capsOk i hi;refine aP S.ex λm F e=>?_;exact Bn hne (e i k hk).1
theorem bw(S:dY B C env nm sc σ mt h)(O:gn nm N sc scope caps tg sc'){x:Str}{a:Addr}(e:(jn h env scope.names).lookup x=some a):
  ((x,NameKind.cell)∈scope.names/\h.objs.size+1<a/\(jY h scope.names).IsCell a none/\(x,a)∈cellsFrom (h.objs.size+1+1) scope.names [])\/((x,NameKind.free)∈scope.names/\env.cells.lookup x=some a):=by
 rewrite[jn]at e;replace e:=(bu ..)▸e;rewrite[List.lookup_append]at e;cases h1:(cellsFrom (h.objs.size+1+1) scope.names []).lookup x with
 |some b=>replace e:=h1▸e;cases (e);have hm:=mem_of_lookup h1;have:=(kK (h:=h) scope.names).empty x a hm;exact .inl ⟨iC hm,this.2,this.1,hm⟩
 |none=>
  replace e:=h1▸e;have e:(mM env.cells scope.names []).lookup x=some a:=e;rcases jk e with e|⟨hf,e⟩
  ·exact nS e
  ·obtain⟨_,b,hb,_⟩:=cm S O hf;replace e:=hb▸e;cases e;exact .inr ⟨hf,hb⟩
theorem mY(S:dY B C env nm sc σ mt h)(O:gn nm N sc scope caps tg sc'):∀a,lT h env scope a->h.get? a=none/\(jY h scope.names).get? a≠none:=by
 intro a ha;rcases ha with rfl|rfl|⟨x,e,hlt⟩
 ·exact⟨aV _,ak oo⟩
 ·exact⟨gi (Nat.le_succ _),ak ph⟩
 ·refine⟨gi (Nat.le_of_lt (Nat.lt_trans (ie _) hlt)),?_⟩;rcases bw S O e with⟨_,_,⟨o,ho,_⟩,_⟩|⟨hf,e2⟩
  ·exact ak ho
  ·exfalso;obtain⟨_,b,hb,hfx⟩:=cm S O hf;replace hb:=e2▸hb;replace hb:=iS hb;subst hb;have:h.get? a≠none:=hfx.elim (S.vol.liveF a) (S.vol.liveX a);exact this (gi (Nat.le_of_lt (Nat.lt_trans (ie _) hlt)))
theorem Cs{T:aC}(Y:At B C env nm sc σ mt T h)(O:gn nm N sc scope caps tg sc'):
  At B (C.enter (lT h env scope)) (wa h env scope) nm sc' (jT caps σ) [] T (jY h scope.names):=by
 have S:=Y.sim;have hF:=mY S O;have V:=S.vol.enter dM hF;have hF0:∀a,lT h env scope a->h.get? a=none:=λa x=>(hF a x).1;refine⟨?_,(Y.tab.enter hF0).move rfl rfl (λl vs n _ e=>dM l _ e) λa o x f _ e=>⟨x,f,dM a o e⟩⟩;refine aP S.ex λm F e=>?_;have cellIn:∀x a,(wa h env scope).cells.lookup x=some a->lT h env scope a\/(C.X a\/C.F a):=λx a ex=>by
  rcases bw S O ex with⟨_,hlt,_,_⟩|⟨hf,e2⟩
  ·exact .inl (.inr (.inr ⟨x,ex,hlt⟩))
  ·obtain⟨_,b,hb,hfx⟩:=cm S O hf;replace hb:=e2▸hb;replace hb:=iS hb;subst hb;exact .inr hfx.symm
 refine⟨V,.inr (.inl rfl),cellIn,λ_ _ q=>(nomatch q),λ_ _ q=>(nomatch q),λ_ _ _ q=>(nomatch q),λx=>if scope.names.lookup x=some .free then m x else none,?_,?_⟩
 ·refine⟨O.kind,F.gl,F.bt,⟨λ_=>none,?_,λx hx=>?_⟩,λx c hk ec=>?_,λx y a ex ey=>?_⟩
  ·exact⟨_,#[],0,ph,rfl,by intro e he;simp at he,λn=>rfl⟩
  ·have:(relabel scope env).names.lookup x=some .local:=hx;rcases qA this with h1|⟨_,h2⟩
   ·rw[if_neg (by rw[h1];decide)];rfl
   ·cases h2
  ·rcases bw S O ec with⟨hc,_,hi,_⟩|⟨hf,e2⟩
   ·have h1:=fm O.nodup hc;rw[if_neg (by rw[h1];decide)];exact hi
   ·have h1:=fm O.nodup hf;rw[if_pos h1];exact(F.cell x c (cm S O hf).1 e2).keeps dM
  ·rcases bw S O ex with⟨hc,hlt,_,hm⟩|⟨hf,e2⟩<;>rcases bw S O ey with⟨hc',hlt',_,hm'⟩|⟨hf',e2'⟩
   ·exact name_of_addr (kK (h:=h) scope.names).apart hm hm'
   ·exfalso;obtain⟨_,b,hb,hfx⟩:=cm S O hf';replace hb:=e2'▸hb;replace hb:=iS hb;subst hb;exact(hfx.elim (S.vol.liveF a) (S.vol.liveX a)) (gi (Nat.le_of_lt (Nat.lt_trans (ie _) hlt)))
   ·exfalso;obtain⟨_,b,hb,hfx⟩:=cm S O hf;replace hb:=e2▸hb;replace hb:=iS hb;subst hb;exact(hfx.elim (S.vol.liveF a) (S.vol.liveX a)) (gi (Nat.le_of_lt (Nat.lt_trans (ie _) hlt')))
   ·exact F.apart x y a e2 e2'
 ·intro i c hi;have hi':(i,c)∈(caps.map λi=>(i,Kd.cap))++sc'.drop caps.length:=O.eq▸hi;have mask:(jT caps σ).getD i none=match caps.contains i,σ.getD i none with|true,some (.val p)=>some (.val p)|_,_=>none:=by
   have:=pt caps σ 0 i
   rwa [Nat.zero_add]at this
  rcases jU.mp hi' with hi1|hi1
  ·refine aP (cH.mp hi1) λj hj ej=>?_;cases ej;obtain⟨hl,k,hk,hne⟩:=O.capsOk i hj;have hkk:=Bn hne (e i k hk).1;obtain⟨hkind,a,ha,hfx⟩:=hkk;have hfr:(nm i,NameKind.free)∈scope.names:=mem_of_lookup hl;refine⟨⟨?_,a,?_,hfx.symm⟩,?_⟩
   ·rcases jP (env:=env) hl with h1|⟨_,h1⟩
    ·exact .inr h1
    ·exact .inl h1
   ·obtain⟨b,hb⟩:∃b,(jn h env scope.names).lookup (nm i)=some b:=by
     rewrite[jn];rw[bu ..];rw[List.lookup_append];cases (cellsFrom (h.objs.size+1+1) scope.names []).lookup (nm i)with
     |some b=>exact⟨b,rfl⟩
     |none=>exact qC (.inr hfr)
    rcases bw S O hb with⟨hc,_⟩|⟨_,e2⟩
    ·have:=fm O.nodup hc;replace this:=hl▸this;cases this
    ·replace ha:=e2▸ha;replace ha:=iS ha;subst ha;exact hb
   ·rw[mask];rw[show caps.contains i=true by simpa using hj];have y:=(e i k hk).2;cases z:σ.getD i none with
    |none=>trivial
    |some av=>
     replace y:=z▸y;cases av with
     |own xs=>trivial
     |val p=>obtain⟨c,v,ev,r⟩:=y;refine⟨c,v,(if_pos hl).trans ev,?_⟩;exact(r.enter hF0 c).keep (C:=C.enter (lT h env scope)) λa o _ e=>dM a o e
  ·refine cL ((jC O.own).2 i c hi1) λhkd hsl=>?_;have nocap:caps.contains i=false:=by
    cases hc:caps.contains i with
    |false=>rfl
    |true=>
     have hj:i∈caps:=by simpa using hc
     have hm:(i,Kd.cap)∈sc':=by rw[O.eq];exact List.mem_append_left _ (cH.mpr ⟨i,hj,rfl⟩)
     have:=nw O.nn hm hi;subst this;rcases nO hkd with⟨h1,_⟩|⟨h1,_⟩<;>cases h1
   refine⟨?_,by rw[mask];rw[nocap];trivial⟩;rcases nO hkd with⟨rfl,hl⟩|⟨rfl,hl⟩
   ·rcases jP (env:=env) hl with h1|⟨h1,_⟩
    ·exact h1
    ·cases h1
   ·have hm:(nm i,NameKind.cell)∈scope.names:=mem_of_lookup hl;refine af (iJ (n:=h.objs.size+1+1) hm) λa ha=>?_;have hca:(jn h env scope.names).lookup (nm i)=some a:=by rewrite[jn];rw[bu ..];rw[List.lookup_append];rw[ha];rfl
    have hlt:=((kK (h:=h) scope.names).empty _ a (mem_of_lookup ha)).2;refine⟨?_,a,hca,.inr (.inr ⟨_,hca,hlt⟩)⟩;rcases jP (env:=env) hl with h1|⟨h1,_⟩
    ·exact .inl h1
    ·cases h1
end
section
variable{B:aX}{A:Around}
noncomputable def DQ(B:aX)(A:Around)(R:aJ Result)(elt target:Expr)(ifs:List Expr)(it acc:Value)(env:Env)(I:aJ Nat)(n:Nat)(s:Shared):Prop:=
 WP B A (pyNext it) (Nd λs₁=>R (.ok .next) s₁) s\/WP B A (pyNext it) (Nx λv s₁=>WP B A (letOwnedTupleGo target it v) (λ_ s₁'=>WP B A (assign target env v) (λ_ s₂=>
     WP B A (forIn ifs true λc r=>if r=true then do let ok <-isTrue c env (eval c env);pure (ForInStep.yield ok)else pure (ForInStep.yield r)) (λok s₃=>
      match ok with
      |true=>WP B A (eval elt env) (λx s₄=>WP B A (call (.builtin "list.append") [acc,x]) (λ_ s₅=>∃m,m<n/\I m s₅) s₄) s₃
      |false=>∃m,m<n/\I m s₃) s₂) s₁') s₁) s
theorem vL{R:aJ Result}{elt target iter:Expr}{ifs:List Expr}{scope:Scope}{pos:Pos}{it acc:Value}{env:Env}(I:aJ Nat)
  (turn:∀n s,I n s->DQ B A R elt target ifs it acc env I n s)
  (n:Nat) (s:Shared) (h:I n s):codeAny (model B.prog B.w) A (.compLoop (.ListComp elt [⟨target,iter,ifs,0⟩] scope pos) 0 it acc env) R s:=by
 refine codeAny_loop rfl I (λn s hI=>?_) n h;show wpAny _ A ((compTurn (.ListComp elt [⟨target,iter,ifs,0⟩] scope pos) 0 it acc env).onRaise (λx=>do noteFrame x env;theTreesLotGoes x)) _ _ s;refine wpAny_noted ?_;rw[compTurn_list ..];refine wpAny_bind (wpAny_standAt (wpAny_bind ?_));rcases turn n s hI with h|h
 ·refine wpAny_mono h (λr s₁ h₁=>?_) λ_ _ f=>f.elim;cases r with
  |none=>exact wpAny_pure h₁
  |some v=>exact h₁.elim
 refine wpAny_mono h (λr s₁ h₁=>?_) λ_ _ f=>f.elim;cases r with
 |none=>exact h₁.elim
 |some v=>
  refine wpAny_bind (wpAny_mono (show WP B A _ _ _ from h₁) (λ_ s₁' h₁'=>?_) λ_ _ f=>f.elim);refine wpAny_bind (wpAny_mono h₁' (λ_ s₂ h₂=>wpAny_bind (wpAny_mono h₂ (λok s₃ h₃=>?_) λ_ _ f=>f.elim)) λ_ _ f=>f.elim);cases ok with
  |false=>exact wpAny_pure ⟨rfl,h₃⟩
  |true=>exact wpAny_bind (wpAny_bind (wpAny_mono h₃ (λx s₄ h₄=>wpAny_bind (wpAny_mono h₄ (λ_ s₅ h₅=>wpAny_pure (wpAny_pure ⟨rfl,h₅⟩)) λ_ _ f=>f.elim)) λ_ _ f=>f.elim))
section
variable{nm:Nat->Str}{N:Nat}{Φ:fA}{K:Nat}
theorem ye{tg:Tg}{σ σ':aF}{p:PV}{tup:Bool}(e:cN σ tg p=some σ')(h:(nY tg&&tup)=false):HX tup (tg.toE nm) p:=by
 cases tg with
 |one i q=>exact .inl ⟨by simpa[nY]using h,_,_,rfl⟩
 |many ts k q=>
  cases p<;>try exact nS e
  exact .inr ⟨_,_,_,_,rfl,rfl⟩
structure wQ(B:aX)(A:Around)(C:Cx)(D:Addr)(tup:Bool)(W:Addr->Prop)(xs:List PV)(it:Value)(St:Nat->Heap->Prop)(env:Env)(nm:Nat->Str)(sc:SC)(N:Nat)(s₀:Shared)
  (i:Nat) (σ:aF) (T:aC) (ys:List PV) (s:Shared):Prop where
 at':At B C env nm sc σ [] T s.heap
 len:σ.length=N
 st:St i s.heap
 acc:∃vs n,s.heap.get? D=some (aT vs n)/\aH C s.heap ys vs
 clean:aA ys=true
 gens:s.gens=s₀.gens
 drawn:s.drawn=s₀.drawn
 os:s.os=s₀.os
 keep:∀a o,¬C.F a->¬W a->C.hl≠some a->s₀.heap.get? a=some o->s.heap.get? a=some o
theorem cW:∀(a b:List PV),aA (a++b)=(aA a&&aA b)
 |[],_=>rfl
 |x :: a,b=>by simp[bb,bR,cW a b,Bool.and_assoc]
theorem aH.but{C:Cx}{h h':Heap}{ps:List PV}{vs:List Value}(c:aA ps=true)(r:aH C h ps vs)(hk:∀a o,¬C.X a->¬C.F a->C.hl≠some a->h.get? a=some o->h'.get? a=some o):aH C h' ps vs:=r.stay c hk
structure tX(B:aX)(C:Cx)(D:Addr)(W:Addr->Prop)(env:Env)(s₀:Shared)(T:aC)(ys:List PV)(s:Shared):Prop where
 tab:aU C T s.heap
 acc:∃vs n,s.heap.get? D=some (aT vs n)/\aH C s.heap ys vs
 clean:aA ys=true
 ns:∃m,s.heap.Ns env.locals m
 hl:∀a,C.hl=some a->s.heap.get? a≠none
 gens:s.gens=s₀.gens
 drawn:s.drawn=s₀.drawn
 os:s.os=s₀.os
 keep:∀a o,¬C.F a->¬W a->C.hl≠some a->s₀.heap.get? a=some o->s.heap.get? a=some o
theorem tI{C:Cx}{D:Addr}{tup:Bool}{W:Addr->Prop}{xs:List PV}{I:Value}{St:Nat->Heap->Prop}{env:Env}{ns:gM}{sc:SC}{elt ifs:E}{srcX:Expr}{tg:Tg}{scope:Scope}{pos:Pos}{s₀:Shared}
  {R:aJ Result} (F:∀σ:aF,σ.length=N->fi B K N A env ns σ) (he:bL B nm N Φ K elt) (hi:xT B nm N Φ K ifs) (oe:elt.ok nm N ns sc=true) (oi:ifs.ok nm N ns sc=true)
  (hn:bU nm sc) (ht:∀i∈en tg,i<N/\∃c,c≠.cap/\(i,c)∈sc) (hone:(nY tg&&tup)=false)
  {hb:Heap} (IT:It B C hb A tup W xs I St) (hWX:∀a,W a->C.X a) (hcW:∀x a,env.cells.lookup x=some a->¬W a)
  (hD:C.F D) (hDl:D≠env.locals) (hDc:∀x a,env.cells.lookup x=some a->a≠D) (hsz:xs.length<=cap) (hA:A.handled=none)
  {r:List PV×aC} {σ₀:aF} {T₀:aC} (e:bq (ifs.sm Φ).evIfs (elt.sm Φ).ev tg xs σ₀ T₀=some r)
  (h0:wQ B A C D tup W xs I St env nm sc N s₀ 0 σ₀ T₀ [] s₀)
  (hR:∀s',tX B C D W env s₀ r.2 r.1 s'->R (.ok .next) s'):
  codeAny (model B.prog B.w) A (.compLoop (.ListComp (elt.toE nm) [⟨tg.toE nm,srcX,ifs.toEs nm,0⟩] scope pos) 0 I (.ref D) env) R s₀:=by
 obtain⟨J,jI,jE⟩:∃J:aJ Nat,(∀i σ T ys r' s,i<=xs.length->ys.length<=i->wQ B A C D tup W xs I St env nm sc N s₀ i σ T ys s ->
   bq (ifs.sm Φ).evIfs (elt.sm Φ).ev tg (xs.drop i) σ T=some r'->ys++r'.1=r.1->r'.2=r.2->J (xs.length+1-i) s) /\
  ∀(G:aJ Nat),(∀i σ T ys r' s,i<=xs.length->ys.length<=i->wQ B A C D tup W xs I St env nm sc N s₀ i σ T ys s ->
   bq (ifs.sm Φ).evIfs (elt.sm Φ).ev tg (xs.drop i) σ T=some r'->ys++r'.1=r.1->r'.2=r.2->G (xs.length+1-i) s)->∀k s,J k s->G k s:=
  ⟨λk s=>∀G:aJ Nat,_->G k s,λi σ T ys r' s a b c d e f G h=>h i σ T ys r' s a b c d e f,λG h k s j=>j G h⟩
 refine vL J ?_ (xs.length+1) s₀ (jI 0 σ₀ T₀ [] r s₀ (Nat.zero_le _) (d4 _) h0 e rfl rfl);refine λk s=>jE _ (λi σ T ys r' s hil hyl Z er ey eT=>?_) k s;have Y:=Z.at';have Dw:¬W D:=λw=>Y.sim.vol.fx D hD (hWX D w);have Dhl:C.hl≠some D:=λl=>Y.sim.vol.lf D l hD;refine lV Z.acc λvs n gD rD=>?_;by_cases hlt:i<xs.length
 ·have hd:xs.drop i=xs[i] :: xs.drop (i+1):=List.drop_eq_getElem_cons hlt;replace er:=hd▸er;refine aP (Option.bind_eq_some_iff.mp er) λσ1 e1 er=>?_;refine bE er λbT e2 er=>?_;refine Or.inr (IT.next C (.refl _ _) (tg.toE nm) i xs[i] s _ (ye e1 hone) (rh hlt) Z.st Y.live λv s1 o1 r1 st1=>?_);have S1:dY B C env nm sc σ [] s1.heap:=Y.sim.step hWX hcW o1.keep (IT.live _ _ st1);have Y1:aU C T s1.heap:=Y.tab.step (λa w=>.inl (hWX a w)) (λl q w=>Y.sim.vol.lx l q (hWX l w)) o1.keep;have g1:s1.heap.get? D=some (aT vs n):=o1.keep D _ Dw gD;have rD1:aH C s1.heap ys vs:=rD.but Z.clean λa o x _ _ e=>o1.keep a o (λw=>x (hWX a w)) e;refine kT (N:=N) hA hn e1 S1 Z.len ht r1 λs2 mt2 m2 S2 n2 c2 l2=>?_;have hmt:mt2=[]:=by cases mt2 with|nil=>rfl|cons x _=>exact absurd (m2 x bW) (λh=>nomatch h)
  subst hmt;have Y2:aU C T s2.heap:=Y1.move rfl rfl (λl ws m _ e=>l2 l ws m e) λa o x f l e=>⟨x,f,c2.keep a o f l e⟩;have st2:=IT.frame C (.refl _ _) (i+1) _ s2.heap st1 c2.keep;have g2:s2.heap.get? D=some (aT vs n):=l2 D vs n g1;have rD2:aH C s2.heap ys vs:=rD1.but Z.clean λa o _ f l e=>c2.keep a o f l e;refine hi oi (F σ1 n2) e2 ⟨S2,Y2⟩ λs3 x3 Y3=>?_;have st3:=IT.frame C (.refl _ _) (i+1) _ s3.heap st2 λa o _ l e=>x3.keep a o l e;have g3:s3.heap.get? D=some (aT vs n):=x3.keep D _ Dhl g2;have rD3:=rD2.ext x3;have kp3:∀a o,¬C.F a->¬W a->C.hl≠some a->s₀.heap.get? a=some o->s3.heap.get? a=some o:=λa o f w l e=>x3.keep a o l (c2.keep a o f l (o1.keep a o w (Z.keep a o f w l e)));have gn3:s3.gens=s₀.gens:=x3.gens.trans (c2.gens.trans (o1.gens.trans Z.gens));have dr3:s3.drawn=s₀.drawn:=x3.drawn.trans (c2.drawn.trans (o1.drawn.trans Z.drawn));have os3:s3.os=s₀.os:=x3.os.trans (c2.os.trans (o1.os.trans Z.os));obtain⟨b,T1⟩:=bT;cases b with
  |false=>exact⟨xs.length+1-(i+1),su hlt,jI (i+1) σ1 T1 ys r' s3 hlt (Nat.le_succ_of_le hyl) ⟨Y3,n2,st3,⟨vs,n,g3,rD3⟩,Z.clean,gn3,dr3,os3,kp3⟩ er ey eT⟩
  |true=>
   refine bE er λy e4 er=>?_;refine bA er λcy er=>?_;refine mE er λz e5 er=>?_;cases er;refine he oe (F σ1 n2) e4 Y3 λu s4 x4 Y4 r4=>?_;have g4:s4.heap.get? D=some (aT vs n):=x4.keep D _ Dhl g3;have rD4:=rD3.ext x4;have vlen:vs.length<=cap:=by rw[rD.length];exact de hyl (de hil hsz)
   refine wpAny_list_append_plain (l:=D) (items:=vs.toArray) ⟨n,g4⟩ (λh5 hl5 hs5=>?_) (show _<=cap by simpa using vlen);refine af hl5 ?_;clear hl5;intro n5 g5;have S5:dY B C env nm sc σ1 [] h5:=Y4.sim.poke hD hDl hDc (λ_ _ q=>nomatch q) (λa o ne e=>(hs5.2 a ne).trans e) (by rw[g5];exact λq=>nomatch q);have T5:aU C y.2 h5:=Y4.tab.step (W:=(·=D)) (λa w=>.inr (w▸hD)) (λl q w=>Dhl (w▸q)) λa o ne e=>(hs5.2 a ne).trans e;refine⟨xs.length+1-(i+1),su hlt,jI (i+1) σ1 y.2 (ys++[y.1]) z _ hlt (by rw[List.length_append];exact Nat.succ_le_succ hyl) ⟨⟨S5,T5⟩,n2,?_,⟨vs++[u],n5,by simpa using g5,?_⟩,?_,gn3▸x4.gens,dr3▸x4.drawn,os3▸x4.os,λa o f w l e=>(hs5.2 a λq=>f (q▸hD)).trans (x4.keep a o l (kp3 a o f w l e))⟩ e5 ?_ eT⟩
   ·exact IT.frame C (.refl _ _) (i+1) _ h5 st3 λa o f l e=>(hs5.2 a λq=>f (q▸hD)).trans (x4.keep a o l e)
   ·have r5:aH C h5 [y.1] [u]:=⟨u,[],rfl,r4.move (λa o x f l e=>⟨x,f,l,(hs5.2 a λq=>f (q▸hD)).trans e⟩) (λ_ e=>e) cy,rfl⟩;exact(rD4.but Z.clean λa o _ f _ e=>(hs5.2 a λq=>f (q▸hD)).trans e).append r5
   ·rw[cW ..];rw[Z.clean];simp[bb,bR,cy]
   ·rw[ey.symm];simp
 ·have hil':i=xs.length:=JQ hil hlt;subst hil';replace er:=List.drop_eq_nil_of_le (d4 _)▸er;replace er:=iS er;subst er;refine Or.inl (IT.done s _ Z.st λs1 o1=>?_);refine hR s1 ?_;have ey':ys=r.1:=by simpa using ey
  subst ey';rw[eT.symm];refine⟨Y.tab.step (λa w=>.inl (hWX a w)) (λl q w=>Y.sim.vol.lx l q (hWX l w)) o1.keep,⟨vs,n,o1.keep D _ Dw gD,rD.but Z.clean λa o x _ _ e=>o1.keep a o (λw=>x (hWX a w)) e⟩,Z.clean,?_,λa l=>?_,o1.gens.trans Z.gens,o1.drawn.trans Z.drawn,o1.os.trans Z.os,λa o f w l e=>o1.keep a o w (Z.keep a o f w l e)⟩
  ·refine aP Y.sim.ex λm Fm _=>?_;refine aP Fm.ns λml hns _=>?_;exact⟨ml,hns.at' λo e=>o1.keep _ o (λw=>Y.sim.vol.fx _ Y.sim.fF (hWX _ w)) e⟩
  ·have:=Y.sim.vol.liveL a l;cases el:s.heap.get? a with
   |none=>exact absurd el this
   |some o=>rw[o1.keep a o (λw=>Y.sim.vol.lx a l (hWX a w)) el];exact λq=>nomatch q
end
end
section
variable{B:aX}{A:Around}{nm:Nat->Str}{N:Nat}{Φ:fA}{K:Nat}
structure tL(B:aX)(C:Cx)(env:Env)(nm:Nat->Str)(sc:SC)(σ:aF)(mt:List (Nat×Addr))(s₁:Shared)(T:aC)(ys:List PV)(D:Addr)(s':Shared):Prop where
 at':At B C env nm sc σ mt T s'.heap
 rep:an C s'.heap (.list ys) (.ref D)
 ext:a9 C.hl s₁ s'
theorem vD{C:Cx}{env:Env}{sc:SC}{σ:aF}{mt:List (Nat×Addr)}{scope:Scope}{caps:List Nat}{tg:Tg}{sc':SC}{T T':aC}{s₁ s₂ s':Shared}{W:Addr->Prop}{ys:List PV}{hf:Heap}
  (Y:At B C env nm sc σ mt T s₁.heap) (x12:a9 none s₁ s₂) (hW:∀a,W a->s₁.heap.get? a=none/\s₂.heap.get? a≠none) (S2:dY B (C.addX W) env nm sc σ mt s₂.heap) (O:gn nm N sc scope caps tg sc')
  (E:tX B ((C.addX W).enter (lT s₂.heap env scope)) s₂.heap.objs.size W (wa s₂.heap env scope) { s₂ with heap:=jY s₂.heap scope.names } T' ys s')
  (hs:∀a,a≠s₂.heap.objs.size+1->hf.get? a=s'.heap.get? a):
  tL B C env nm sc σ mt s₁ T' ys s₂.heap.objs.size { s' with heap:=hf }:=by
 have hF:=mY S2 O;have fresh1:∀a,lT s₂.heap env scope a->s₁.heap.get? a=none:=λa f=>by
  cases e:s₁.heap.get? a with
  |none=>rfl
  |some o=>have:=x12.all a o e;replace this:=(hF a f).1▸this;exact nS this
 have L1:s₁.heap.get? (s₂.heap.objs.size+1)=none:=fresh1 _ (.inr (.inl rfl));have keep:∀a o,C.hl≠some a->s₁.heap.get? a=some o->hf.get? a=some o:=λa o l e=>by
  have ne:a≠s₂.heap.objs.size+1:=λq=>by subst q;replace e:=L1▸e;exact nS e
  rw[hs a ne];exact E.keep a o (λf=>by replace e:=fresh1 a f▸e;exact nS e) (λw=>by replace e:=(hW a w).1▸e;exact nS e) l (dM a o (x12.all a o e))
 have hl1:∀a,C.hl=some a->hf.get? a≠none:=λa l=>by
  have ne:a≠s₂.heap.objs.size+1:=λq=>by subst q;exact Y.sim.vol.liveL _ l L1
  rw[hs a ne];exact E.hl a l
 have nD:=Y.live.new (fresh1 _ (.inl rfl));refine⟨⟨Y.sim.keep keep hl1,?_⟩,?_,⟨E.gens.trans x12.gens,E.drawn.trans x12.drawn,E.os.trans x12.os,keep⟩⟩
 ·have t1:=E.tab.step (W:=(·=s₂.heap.objs.size+1)) (h':=hf) (λa w=>.inr (w▸.inr (.inl rfl))) (λl q w=>by have:C.hl=some l:=q;exact(Y.live.new L1).2.2 (w▸this)) λa o ne e=>(hs a ne).trans e
  exact t1.leave.dropX
 ·refine lV E.acc λvs n g r=>?_;refine⟨_,vs,n,rfl,nD.1,nD.2.1,nD.2.2,?_,?_⟩
  ·rw[show hf.get? s₂.heap.objs.size=s'.heap.get? s₂.heap.objs.size from hs _ (Nat.ne_of_lt (ie _))];exact g
  ·have r1:aH ((C.addX W).enter (lT s₂.heap env scope)) hf ys vs:=r.stay E.clean λa o _ f _ e=>(hs a λq=>f (q▸.inr (.inl rfl))).trans e;exact(r1.leave' E.clean).dropX E.clean
structure uG(B:aX)(C:Cx)(env:Env)(nm:Nat->Str)(sc:SC)(σ:aF)(mt:List (Nat×Addr))(s₁:Shared)(T:aC)(ys:List PV)(D L:Addr)(s':Shared):Prop where
 at':At B (C.addX (·=L)) env nm sc σ mt T s'.heap
 rep:an (C.addX (·=L)) s'.heap (.list ys) (.ref D)
 cells:∀x a,env.cells.lookup x=some a->a≠L
 xs:∀a,C.X a->a≠L
 fs:∀a,C.F a->a≠L
 hl:C.hl≠some L
 ext:a9 C.hl s₁ s'
theorem BM{C:Cx}{env:Env}{sc:SC}{σ:aF}{mt:List (Nat×Addr)}{scope:Scope}{caps:List Nat}{tg:Tg}{sc':SC}{T T':aC}{s₁ s₂ s':Shared}{W:Addr->Prop}{ys:List PV}
  (Y:At B C env nm sc σ mt T s₁.heap) (x12:a9 none s₁ s₂) (hW:∀a,W a->s₁.heap.get? a=none/\s₂.heap.get? a≠none) (S2:dY B (C.addX W) env nm sc σ mt s₂.heap) (O:gn nm N sc scope caps tg sc')
  (E:tX B ((C.addX W).enter (lT s₂.heap env scope)) s₂.heap.objs.size W (wa s₂.heap env scope) { s₂ with heap:=jY s₂.heap scope.names } T' ys s'):
  uG B C env nm sc σ mt s₁ T' ys s₂.heap.objs.size (s₂.heap.objs.size+1) s':=by
 have hF:=mY S2 O;have fresh1:∀a,lT s₂.heap env scope a->s₁.heap.get? a=none:=λa f=>by
  cases e:s₁.heap.get? a with
  |none=>rfl
  |some o=>have:=x12.all a o e;replace this:=(hF a f).1▸this;exact nS this
 have L1:s₁.heap.get? (s₂.heap.objs.size+1)=none:=fresh1 _ (.inr (.inl rfl));have g:=vD Y x12 hW S2 O E (hf:=s'.heap) λ_ _=>rfl;have nL:=Y.live.new L1;have hL':s'.heap.get? (s₂.heap.objs.size+1)≠none:=by obtain⟨m,o,_,_,e,_⟩:=E.ns;exact ak e
 have into:∀a o,¬((C.addX W).enter (lT s₂.heap env scope)).X a->¬((C.addX W).enter (lT s₂.heap env scope)).F a->C.hl≠some a->s'.heap.get? a=some o ->
   ¬(C.addX (·=s₂.heap.objs.size+1)).X a/\¬(C.addX (·=s₂.heap.objs.size+1)).F a/\(C.addX (·=s₂.heap.objs.size+1)).hl≠some a/\s'.heap.get? a=some o:=λa o x f l e=>
  ⟨λq=>q.elim (λq=>x (.inl (.inl q))) λq=>f (q▸.inr (.inl rfl)),λq=>x (.inr q),l,e⟩
 refine⟨⟨Y.sim.addX (λa o l e=>g.ext.keep a o l e) (λa l=>E.hl a l) λa w=>⟨w▸L1,w▸hL'⟩,?_⟩,?_,λx a ex q=>?_,λa x q=>nL.1 (q▸x),λa x q=>nL.2.1 (q▸x),nL.2.2,g.ext⟩
 ·exact E.tab.move (C:=(C.addX W).enter (lT s₂.heap env scope)) rfl rfl (λ_ _ _ _ e=>e) λa o x f l e=>⟨(into a o x f l e).1,(into a o x f l e).2.1,e⟩
 ·refine lV E.acc λvs n gg r=>?_;have nD:=Y.live.new (fresh1 _ (.inl rfl));exact⟨_,vs,n,rfl,λq=>q.elim nD.1 λq=>Nat.ne_of_lt (ie _) q,nD.2.1,nD.2.2,gg,r.move (C:=(C.addX W).enter (lT s₂.heap env scope)) (C':=C.addX (·=s₂.heap.objs.size+1)) into (λ_ e=>e) E.clean⟩
 ·subst q;have:=(Y.sim.cF x _ ex).elim (Y.sim.vol.liveF _) (Y.sim.vol.liveX _);exact this L1
theorem zB{caps:List Nat}{σ:aF}:(jT caps σ).length=σ.length:=pi caps σ 0
theorem qV{C:Cx}{env:Env}{ns:gM}{sc sc':SC}{σ:aF}{mt:List (Nat×Addr)}{s:Shared}{elt ifs:E}{srcX:Expr}{tup:Bool}{xs:(List PV×Bool)×aC}{tg:Tg}{caps:List Nat}{scope:Scope}{p pos:Pos}{use:Option (Value->Sem Unit)}{ysT:List PV×aC}{Q:aJ Value}
  (hset:∀x,foldedSetIterable srcX env x=pure x)
  (hsrc:∀{Q':aJ Value},(∀it s₁ s',a9 C.hl s s₁->At B C env nm sc σ mt xs.2 s₁.heap->a9 none s₁ s'->fe B C A s₁ s' tup xs.1.2 xs.1.1 it->Q' it s')->WP B A (eval srcX env) (λv s₁=>WP B A (pyIter v) Q' s₁) s)
  (he:bL B nm N Φ K elt) (hi:xT B nm N Φ K ifs) (O:gn nm N sc scope caps tg sc') (oe:elt.ok nm N scope.names sc'=true) (oi:ifs.ok nm N scope.names sc'=true) (hone:(nY tg&&tup)=false)
  (F:fi B K N A env ns σ) (gz:xs.1.1.length<=cap) (ey:bq (ifs.sm Φ).evIfs (elt.sm Φ).ev tg xs.1.1 (jT caps σ) xs.2=some ysT) {T₀:aC} (Y₀:At B C env nm sc σ mt T₀ s.heap)
  (h:∀ys D L s₁ s',PV.list ysT.1=.list ys->aA ys=true->a9 C.hl s s₁->s₁.heap.get? L=none->(∃m,s'.heap.Ns L m)->(∀hf:Heap,(∀a,a≠L->hf.get? a=s'.heap.get? a)->tL B C env nm sc σ mt s₁ ysT.2 ys D { s' with heap:=hf })->uG B C env nm sc σ mt s₁ ysT.2 ys D L s' ->
   compPost (model B.prog B.w) A (λ_ _=>False) use Q (.ref D) L (.ok .next) s'):
  WP B A (comprehension (.ListComp (elt.toE nm) [⟨tg.toE nm,srcX,ifs.toEs nm,0⟩] scope p) scope env pos (newList []) false (eval srcX env) use) Q s:=by
  have Y:=Y₀;have hclos:closureFor scope env=pure (mM env.cells scope.names []):=wI λx hx=>by obtain⟨_,a,ha,_⟩:=cm Y.sim O hx;exact⟨a,ha⟩
  refine wpAny_comprehension_free rfl hset hclos O.kind O.locals ?_;refine hsrc λit s₁ s₂ x1 Y1 x2 R=>?_;refine vh R ?_;clear R;intro W fp hW hfp cx hit;refine wpAny_newList (items:=[]) ?_ (Nat.zero_le _);refine uc ?_;have z1:(s₂.heap.push (aT [] 0)).objs.size=s₂.heap.objs.size+1:=fE ..;have S2:dY B (C.addX W) env nm sc σ mt s₂.heap:=Y1.sim.addX (λa o _ e=>x2.all a o e) (λa l=>by
   have:=Y1.sim.vol.liveL a l;cases el:s₁.heap.get? a with
   |none=>exact absurd el this
   |some o=>rw[x2.all a o el];exact λq=>nomatch q) hW
  have Y2:At B (C.addX W) env nm sc σ mt xs.2 s₂.heap:=⟨S2,(Y1.tab.addX λa w=>(hW a w).1).move rfl rfl (λl vs n _ e=>x2.all l _ e) λa o x f _ e=>⟨x,f,x2.all a o e⟩⟩;have FA:=Cs Y2 O;have hF:=mY S2 O;obtain⟨St,st0,IT⟩:=hit ((C.addX W).enter (lT s₂.heap env scope)) rfl (λa w=>.inl (.inr w)) (λa ha f=>(hfp a ha).1 (hF a f).1) (λq v c r1=>by have r2:an (C.addX W) s₁.heap q v:=r1.addX (λa w=>(hW a w).1) c;exact(r2.keep (C:=C.addX W) (h':=s₂.heap) λa o _ e=>x2.all a o e).enter (λa f=>(hF a f).1) c)
  show codeAny (model B.prog B.w) A (.compStart (.ListComp (elt.toE nm) [⟨tg.toE nm,srcX,ifs.toEs nm,0⟩] scope p) 0 it (.ref s₂.heap.objs.size)
   { newEnv scope (s₂.heap.push (aT [] 0)).objs.size env.globals (cellsFrom ((s₂.heap.push (aT [] 0)).objs.size+1) scope.names (mM env.cells scope.names [])) env.qual none .none (some env) builtinsNs with scope:=relabel scope env })
   (compPost (model B.prog B.w) A (λ_ _=>False) use Q (.ref s₂.heap.objs.size) (s₂.heap.push (aT [] 0)).objs.size)
   { s₂ with heap:=pushCells ((s₂.heap.push (aT [] 0)).push { cls:=.type "dict",data:=.dict #[] }) scope.names }
  rw[z1];have st1:St 0 (jY s₂.heap scope.names):=IT.frame _ (.refl _ _) 0 _ _ st0 λa o _ _ e=>dM a o e;have cenvE:({ newEnv scope (s₂.heap.objs.size+1) env.globals (cellsFrom (s₂.heap.objs.size+1+1) scope.names (mM env.cells scope.names [])) env.qual none .none (some env) builtinsNs with scope:=relabel scope env }:Env)=wa s₂.heap env scope:=rfl;rw[cenvE];have loop:codeAny (model B.prog B.w) A (.compLoop (.ListComp (elt.toE nm) [⟨tg.toE nm,srcX,ifs.toEs nm,0⟩] scope p) 0 it (.ref s₂.heap.objs.size) (wa s₂.heap env scope))
    (compPost (model B.prog B.w) A (λ_ _=>False) use Q (.ref s₂.heap.objs.size) (s₂.heap.objs.size+1)) { s₂ with heap:=jY s₂.heap scope.names }:=by
   refine tI (N:=N) (ns:=scope.names) (srcX:=srcX) (λσ' hl=>⟨F.fine,λx hx=>?_,hl⟩) he hi oe oi (nt O.nn) (λi his=>⟨O.slots i his,?_⟩) ?_ IT (λa w=>.inl (.inr w)) (λx a ex w=>?_) (.inl rfl) (Nat.ne_of_lt (ie _))
    (λx a ex q=>?_) gz F.fine.hd ey ⟨FA,by rw[zB];exact F.len,st1,⟨[],0,oo,rfl⟩,rfl,rfl,rfl,rfl,λ_ _ _ _ _ e=>e⟩ λs' E=>?_
   ·rcases jP (env:=env) hx with h1|⟨h1,_⟩
    ·exact h1
    ·cases h1
   ·refine af ((jC O.own).1 i his) λk hk=>?_;refine⟨k,λq=>?_,by rw[O.eq];exact List.mem_append_right _ hk⟩;subst q;rcases nO ((jC O.own).2 i _ hk).1 with⟨h1,_⟩|⟨h1,_⟩<;>cases h1
   ·exact hone
   ·rcases bw S2 O ex with⟨_,hlt,_,_⟩|⟨hf,e2⟩
    ·exact(hW a w).2 (gi (Nat.le_of_lt (Nat.lt_trans (ie _) hlt)))
    ·obtain⟨_,b,hb,hfx⟩:=cm Y1.sim O hf;replace hb:=e2▸hb;replace hb:=iS hb;subst hb;exact(hfx.elim (Y1.sim.vol.liveF a) (Y1.sim.vol.liveX a)) (hW a w).1
   ·subst q;rcases bw S2 O ex with⟨_,hlt,_,_⟩|⟨hf,e2⟩
    ·exact Nat.lt_irrefl _ (Nat.lt_trans (ie _) hlt)
    ·obtain⟨_,b,hb,hfx⟩:=cm S2 O hf;replace hb:=e2▸hb;replace hb:=iS hb;subst hb;exact(hfx.elim (S2.vol.liveF _) (S2.vol.liveX _)) (aV _)
   ·refine h ysT.1 s₂.heap.objs.size (s₂.heap.objs.size+1) s₁ s' rfl E.clean x1 ?_ E.ns (λhf hs=>vD Y1 x2 hW S2 O E hs) (BM Y1 x2 hW S2 O E);cases el:s₁.heap.get? (s₂.heap.objs.size+1)with
    |none=>rfl
    |some o=>have:=x2.all _ o el;replace this:=gi (Nat.le_succ _)▸this;exact nS this
  exact codeAny_compStart_list loop (wpAny_mono (IT.self { s₂ with heap:=jY s₂.heap scope.names } (λit' s'=>codeAny (model B.prog B.w) A (.compLoop (.ListComp (elt.toE nm) [⟨tg.toE nm,srcX,ifs.toEs nm,0⟩] scope p) 0 it' (.ref s₂.heap.objs.size) (wa s₂.heap env scope))
   (compPost (model B.prog B.w) A (λ_ _=>False) use Q (.ref s₂.heap.objs.size) (s₂.heap.objs.size+1)) s') st1 loop) (λ_ _ x=>x) λ_ _ f=>f.elim)
theorem yf{C:Cx}{env:Env}{ns:gM}{sc:SC}{σ:aF}{mt:List (Nat×Addr)}{T:aC}{s:Shared}{elt src ifs:E}{tg:Tg}{caps:List Nat}{scope:Scope}{p pos:Pos}{use:Option (Value->Sem Unit)}{r:PV×aC}{Q:aJ Value}
  (hsrc:A9 B nm N Φ K src) (he:bL B nm N Φ K elt) (hi:xT B nm N Φ K ifs)
  (ok:(E.comp elt tg src ifs caps scope p).ok nm N ns sc=true) (F:fi B K N A env ns σ) (e:((E.comp elt tg src ifs caps scope p).sm Φ).ev σ T=some r) (Y:At B C env nm sc σ mt T s.heap)
  (h:∀ys D L s₁ s',r.1=.list ys->aA ys=true->a9 C.hl s s₁->s₁.heap.get? L=none->(∃m,s'.heap.Ns L m)->(∀hf:Heap,(∀a,a≠L->hf.get? a=s'.heap.get? a)->tL B C env nm sc σ mt s₁ r.2 ys D { s' with heap:=hf })->uG B C env nm sc σ mt s₁ r.2 ys D L s' ->
   compPost (model B.prog B.w) A (λ_ _=>False) use Q (.ref D) L (.ok .next) s'):
  WP B A (comprehension (.ListComp (elt.toE nm) [⟨tg.toE nm,src.toE nm,ifs.toEs nm,0⟩] scope p) scope env pos (newList []) false (eval (src.toE nm) env) use) Q s:=by
 replace ok:=a4 ok;refine kH ok ?_;clear ok;intro ok1 ok2 ok3 ok4;refine bE e λxs ex e=>?_;refine jF e λgz e=>?_;refine mE e λysT ey qq=>?_;subst qq;cases hsc:BR nm scope.names caps tg with
 |none=>replace ok4:=hsc▸ok4;exact fT ok4
 |some sc'=>replace ok4:=hsc▸ok4;simp only[cC]at ok4;exact qV (tup:=fo src) (xs:=xs) (λx=>by cases src<;>rfl) (λ{Q'} hq=>hsrc ok3 F ex Y hq) he hi (i3 ok1 hsc) ok4.2 ok4.1 (by cases h1:nY tg<;>cases h2:fo src<;>simp_all) F gz ey Y h
theorem Cq{elt src ifs:E}{tg:Tg}{caps:List Nat}{scope:Scope}{p:Pos}(hsrc:A9 B nm N Φ K src)(he:bL B nm N Φ K elt)(hi:xT B nm N Φ K ifs):bL B nm N Φ K (.comp elt tg src ifs caps scope p):=by intro ns sc C A env σ mt T s r Q ok F e Y h;refine(?_:WP B A (comprehension (.ListComp (elt.toE nm) [⟨tg.toE nm,src.toE nm,ifs.toEs nm,0⟩] scope p) scope env (src.toE nm).pos (newList []) false (eval (src.toE nm) env)) Q s);refine yf hsrc he hi ok F e Y λys D L s₁ s' er c x1 hL hns G _=>?_;refine af hns ?_;clear hns;intro m hm;refine⟨m,hm,λh' hs=>?_⟩;have g:=G h' λa ne=>hs.2 a ne;replace h:=er▸h;exact h _ _ (x1.trans g.ext) g.at' g.rep
end
section
variable{B:aX}{nm:Nat->Str}{N:Nat}{Φ:fA}{K:Nat}
theorem qv.val{X:E}{f:Ev}(h1:X.sm Φ=Sm.val f)(hp:fo X=false)(ht:∀env whole,isTrue (X.toE nm) env whole=(do let v <-whole;standAt (X.toE nm).pos;holding [v] (truthy v)))
  (hv:bL B nm N Φ K X) (ht':mn B nm N Φ K X\/True:=.inr trivial):qv B nm N Φ K X where
 v:=hv
 t:=yj (f:=f) (by rw[h1];rfl) (by rw[h1];rfl) ht hv
 l:=by intro ns sc C A env σ mt T s ps pos Q _ _ e;replace e:=h1▸e;exact nS e
 a:=by intro ns sc C A env σ mt T s ps pos Q _ _ e;replace e:=h1▸e;exact nS e
 o:=by intro ns sc C A env σ mt T s ps pos op Q _ _ e;replace e:=h1▸e;exact nS e
 i:=by intro ns sc C A env σ mt T s ps Q _ _ e;replace e:=h1▸e;exact nS e
 s:=xy (f:=f) (by rw[h1];rfl) (by rw[h1];rfl) hp hv
theorem qv.cmp{X:E}{f:Ev}(h1:X.sm Φ=Sm.val f)(hp:fo X=false)(hv:bL B nm N Φ K X)(ht:mn B nm N Φ K X):qv B nm N Φ K X where
 v:=hv
 t:=ht
 l:=by intro ns sc C A env σ mt T s ps pos Q _ _ e;replace e:=h1▸e;exact nS e
 a:=by intro ns sc C A env σ mt T s ps pos Q _ _ e;replace e:=h1▸e;exact nS e
 o:=by intro ns sc C A env σ mt T s ps pos op Q _ _ e;replace e:=h1▸e;exact nS e
 i:=by intro ns sc C A env σ mt T s ps Q _ _ e;replace e:=h1▸e;exact nS e
 s:=xy (f:=f) (by rw[h1];rfl) (by rw[h1];rfl) hp hv
theorem bo(P:bV B Φ K)(hK:1<=K):∀X:E,qv B nm N Φ K X:=by
 intro X
 induction X with
 |cst c k p=>exact qv.val rfl rfl (λ_ _=>rfl) yW
 |var i p=>exact qv.val rfl rfl (λ_ _=>rfl) fk
 |gint g p=>exact qv.val rfl rfl (λ_ _=>rfl) (AK P)
 |bin op a b p ha hb=>exact qv.val rfl rfl (λ_ _=>rfl) (Ea ha.v hb.v)
 |cmp op a b p ha hb=>exact qv.cmp rfl rfl (ED ha.v hb.v hK) (tZ ha.v hb.v hK)
 |neg a p ha=>exact qv.val rfl rfl (λ_ _=>rfl) (Ec ha.v)
 |not a p ha=>
  exact⟨(by intro ns sc C A env σ mt T s ps Q _ _ e;exact nS e),E0 ha.t,(by intro ns sc C A env σ mt T s ps pos Q _ _ e;exact nS e),(by intro ns sc C A env σ mt T s ps pos Q _ _ e;exact nS e),
   (by intro ns sc C A env σ mt T s ps pos op Q _ _ e;exact nS e),(by intro ns sc C A env σ mt T s ps Q _ _ e;exact nS e),(by intro ns sc C A env σ mt T s ps Q _ _ e;exact nS e)⟩
 |bool op es p hes=>
  exact⟨Ce hes.o,Ad hes.a,(by intro ns sc C A env σ mt T s ps pos Q _ _ e;exact nS e),(by intro ns sc C A env σ mt T s ps pos Q _ _ e;exact nS e),
   (by intro ns sc C A env σ mt T s ps pos op Q _ _ e;exact nS e),(by intro ns sc C A env σ mt T s ps Q _ _ e;exact nS e),(by intro ns sc C A env σ mt T s ps Q _ _ e;exact nS e)⟩
 |ite c a b p hc ha hb=>
  exact⟨EY hc.t ha.v hb.v,(by intro ns sc C A env σ mt T s ps Q _ _ e;exact nS e),(by intro ns sc C A env σ mt T s ps pos Q _ _ e;exact nS e),(by intro ns sc C A env σ mt T s ps pos Q _ _ e;exact nS e),
   (by intro ns sc C A env σ mt T s ps pos op Q _ _ e;exact nS e),(by intro ns sc C A env σ mt T s ps Q _ _ e;exact nS e),(by intro ns sc C A env σ mt T s ps Q _ _ e;exact nS e)⟩
 |nil=>
  exact⟨(by intro ns sc C A env σ mt T s ps Q _ _ e;exact nS e),(by intro ns sc C A env σ mt T s ps Q _ _ e;exact nS e),yd,E8,
   (by intro ns sc C A env σ mt T s ps pos op Q _ _ e;exact nS e),yY,(by intro ns sc C A env σ mt T s ps Q _ _ e;exact nS e)⟩
 |cons a b ha hb=>exact⟨(by intro ns sc C A env σ mt T s ps Q _ _ e;exact nS e),(by intro ns sc C A env σ mt T s ps Q _ _ e;exact nS e),qH ha.v hb.l,BZ ha.t hb.a,AX ha.v hb.o,ut ha.t,(by intro ns sc C A env σ mt T s ps Q _ _ e;exact nS e)⟩
 |list es p hes=>exact qv.val rfl rfl (λ_ _=>rfl) (A2 hes.l)
 |tuple es k p hes=>exact qv.val rfl rfl (λ_ _=>rfl) (zN hes.l)
 |sub a i p ha hi=>exact qv.val rfl rfl (λ_ _=>rfl) (xn ha.v hi.v)
 |slc a l u st sp p ha hl hu hs=>exact qv.val rfl rfl (λ_ _=>rfl) (Ei ha.v hl.v hu.v hs.v)
 |miss=>
  exact⟨BQ,(by intro ns sc C A env σ mt T s ps Q _ _ e;exact nS e),(by intro ns sc C A env σ mt T s ps pos Q _ _ e;exact nS e),(by intro ns sc C A env σ mt T s ps pos Q _ _ e;exact nS e),
   (by intro ns sc C A env σ mt T s ps pos op Q _ _ e;exact nS e),(by intro ns sc C A env σ mt T s ps Q _ _ e;exact nS e),(by intro ns sc C A env σ mt T s ps Q _ _ e;exact nS e)⟩
 |callb f fp es p hes=>
  exact⟨sU P hK hes.l,yj (f:=λσ T=>((es.sm Φ).evs σ T).bind λps=>(eL f ps.1).map (·,ps.2)) rfl rfl (λ_ _=>rfl) (sU P hK hes.l),
   (by intro ns sc C A env σ mt T s ps pos Q _ _ e;exact nS e),(by intro ns sc C A env σ mt T s ps pos Q _ _ e;exact nS e),(by intro ns sc C A env σ mt T s ps pos op Q _ _ e;exact nS e),(by intro ns sc C A env σ mt T s ps Q _ _ e;exact nS e),yr P hes.l⟩
 |callu f fp es p hes=>exact qv.val rfl rfl (λ_ _=>rfl) (zb P hes.l)
 |meth o m ap es p ho hes=>exact qv.val rfl rfl (λ_ _=>rfl) (Ae P ho.v hes.l)
 |tokIn a tp p ha=>exact qv.cmp rfl rfl (zK P ha.v) (yn P ha.v)
 |tokAt a tp p ha=>exact qv.val rfl rfl (λ_ _=>rfl) (zx P ha.v)
 |flagGet np ap a b p ha hb=>exact qv.val rfl rfl (λ_ _=>rfl) (Ay P ha.v hb.v)
 |gni np a i ip ap b bp p ha hb=>exact qv.val rfl rfl (λ_ _=>rfl) (Di P ha.v hb.v)
 |comp elt tg src ifs caps sc p he hs hi=>exact qv.val rfl rfl (λ_ _=>rfl) (Cq hs.s he.v hi.i)
end
noncomputable def cw(nm:Nat->Str)(N:Nat)(sc:SC)(i:Nat):Bool:=Nat.blt i N&&(sc.any λy=>y.1==i && !(y.2==.cap))&&bc (nm i)
noncomputable def DG:E->Bool
 |.tuple _ _ _=>false
 |_=>true
noncomputable def tU:E->Bool
 |.comp _ _ _ _ _ _ _=>false
 |_=>true
noncomputable def mR(nm:Nat->Str)(ns:gM)(ts:List (Nat×Pos))(es:E):Bool:=
 (ts.length==2||ts.length==3)&&(es.len==ts.length)&&(ts.all λt=>ns.lookup (nm t.1)==some .local&&t.2.line==((ts.head?.map (·.2.line)).getD 0)) && !((es.toEs nm).all (foldedForSure 8))
noncomputable def dS(nm:Nat->Str):List (Nat×Pos)->Bool
 |[]=>true
 |t :: r=>(r.all λu=> !(nm t.1==nm u.1))&&dS nm r
theorem no{nm:Nat->Str}:dS nm []=true:=rfl
theorem jm{nm:Nat->Str}{t r}:dS nm (t :: r)=((r.all λu=> !(nm t.1==nm u.1))&&dS nm r):=rfl
noncomputable def S.ok(nm:Nat->Str)(N:Nat):S->gM->SC->Bool
 |.assign i _ e _,ns,sc=>cw nm N sc i&&e.ok nm N ns sc
 |.own i _ es _ _,ns,sc=>cw nm N sc i&&es.ok nm N ns sc
 |.unpack ts _ _ e _,ns,sc=>(ts.all λt=>cw nm N sc t.1)&&(DG e&&e.ok nm N ns sc)
 |.unpackD ts _ _ es ow _ _ _,ns,sc=>(ts.all λt=>cw nm N sc t.1)&&(es.ok nm N ns sc&&(dS nm ts&&(!(mR nm ns ts es)||(ow.all λb=> !b) && !((es.toEs nm).all (constantsAlone 8)))))
 |.aug i _ _ e _,ns,sc=>cw nm N sc i&&e.ok nm N ns sc
 |.append i _ ap e cp _,ns,sc=>cw nm N sc i&&((ap.endLine==cp.line)&&e.ok nm N ns sc)
 |.extend i _ ap e cp _,ns,sc=>cw nm N sc i&&((ap.endLine==cp.line)&&e.ok nm N ns sc)
 |.appendPop i _ ap j _ jap e jcp cp _,ns,sc=>cw nm N sc i&&(cw nm N sc j&&((ap.endLine==cp.line)&&((jap.endLine==jcp.line)&&e.ok nm N ns sc)))
 |.expr e _,ns,sc=>tU e&&e.ok nm N ns sc
 |.delT i _ e _ _,ns,sc=>cw nm N sc i&&e.ok nm N ns sc
 |.tempApp i _ iap icp ap e cp _,ns,sc=>cw nm N sc i&&((iap.endLine==icp.line)&&((ap.endLine==cp.line)&&e.ok nm N ns sc))
 |.ite c a b _,ns,sc=>c.ok nm N ns sc&&(a.ok nm N ns sc&&b.ok nm N ns sc)
 |.for_ tg src body els _,ns,sc=>((en tg).all λi=>cw nm N sc i)&&(!(nY tg&&fo src)&&(src.ok nm N ns sc&&(body.ok nm N ns sc&&els.ok nm N ns sc)))
 |.ret e _,ns,sc=>e.ok nm N ns sc
 |.brk _,_,_=>true
 |.nil,_,_=>true
 |.seq a b,ns,sc=>a.ok nm N ns sc&&b.ok nm N ns sc
noncomputable def Hr(C:Cx)(h:Heap):Fl->Flow->Prop
 |.next,f=>f=.next
 |.brk,f=>f=.brk
 |.ret p,f=>∃v,f=.ret v/\an C h p v
theorem bC.trans{C C' C'':Cx}{s s':Shared}(g:bC C s.heap C')(c:eR C s s')(g':bC C' s'.heap C''):bC C s.heap C'':=
 ⟨g'.x.trans g.x,g'.hl.trans g.hl,g'.ta.trans g.ta,λa f=>g'.sub a (g.sub a f),λa f=>(g'.f a f).elim (g.f a) λn=>.inr (by
  cases e:s.heap.get? a with
  |none=>rfl
  |some o=>exact absurd n (c.live a (by rw[e];exact λq=>nomatch q)))⟩
theorem eR.grow{C C':Cx}{s s' s'':Shared}(c:eR C s s')(g:bC C s.heap C')(c':eR C' s' s''):eR C s s'':=
 ⟨c'.gens.trans c.gens,c'.drawn.trans c.drawn,c'.os.trans c.os,λa o f l e=>c'.keep a o (λq=>(g.f a q).elim f λn=>by replace n:=e▸n;exact sN n) (g.hl▸l) (c.keep a o f l e),λa e=>c'.live a (c.live a e)⟩
structure bl(env:Env)(ns:gM):Prop where
 kind:env.scope.kind=.function
 names:∀x,env.kindOf x=ns.lookup x
section
variable(B:aX)(nm:Nat->Str)(N:Nat)(Φ:fA)(K:Nat)
noncomputable abbrev qu(C:Cx)(env:Env)(sc:SC)(s:Shared)(o:AE)(Q:aJ Flow):Prop:=
 ∀C' f s' mt',bC C s.heap C'->eR C s s'->At B C' env nm sc o.σ mt' o.T s'.heap->o.σ.length=N->Hr C' s'.heap o.fl f->Q f s'
noncomputable def eP(X:S):Prop:=∀{ns sc C A env σ mt T s o} {Q:aJ Flow},X.ok nm N ns sc=true->bU nm sc->fi B K N A env ns σ->bl env ns->X.ex Φ σ T=some o->At B C env nm sc σ mt T s.heap ->
 qu B nm N C env sc s o Q->WP B A (exec (X.toS nm) env) Q s
noncomputable def iL(X:S):Prop:=∀{ns sc C A env σ mt T s o} {Q:aJ Flow},X.ok nm N ns sc=true->bU nm sc->fi B K N A env ns σ->bl env ns->X.ex Φ σ T=some o->At B C env nm sc σ mt T s.heap ->
 qu B nm N C env sc s o Q->WP B A (execs (X.toSs nm) env) Q s
end
theorem fi.len'{B:aX}{K N:Nat}{A:Around}{env:Env}{ns:gM}{σ σ':aF}(F:fi B K N A env ns σ)(h:σ'.length=N):fi B K N A env ns σ':=⟨F.fine,F.glob,h⟩
section
variable{B:aX}{nm:Nat->Str}{N:Nat}{Φ:fA}{K:Nat}
theorem ay{sc:SC}{i:Nat}(h:cw nm N sc i=true):i<N/\(∃c,c≠.cap/\(i,c)∈sc)/\bc (nm i)=true:=by simp only[cw,cC]at h;obtain⟨⟨h1,h2⟩,h3⟩:=h;obtain⟨⟨j,c⟩,hj,e⟩:=ls.mp h2;simp only[cC,beq_iff_eq,kJ,beq_eq_false_iff_ne]at e;refine cL e ?_;clear e;intro q1q hc;subst q1q;exact⟨by simpa[Nat.blt_eq]using h1,⟨c,hc,hj⟩,h3⟩
theorem a9.chgAt{C:Cx}{env:Env}{sc:SC}{σ:aF}{mt:List (Nat×Addr)}{T:aC}{s s':Shared}(x:a9 C.hl s s')(Y:At B C env nm sc σ mt T s'.heap):eR C s s':=x.chg λa l=>Y.sim.vol.liveL a l
theorem aU.chg{C:Cx}{T:aC}{s s':Shared}(Y:aU C T s.heap)(c:eR C s s')(l:ug s s'):aU C T s'.heap:=
 Y.move rfl rfl (λa vs n _ e=>l a vs n e) λa o x f l e=>⟨x,f,c.keep a o f l e⟩
theorem lh{C:Cx}{A:Around}{env:Env}{sc:SC}{σ:aF}{mt:List (Nat×Addr)}{T:aC}{s s₀:Shared}{i:Nat}{p:PV}{v:Value}{Q:aJ Flow}(hn:bU nm sc)(hi:cw nm N sc i=true)(hl:σ.length=N)(x:a9 C.hl s₀ s)(Y:At B C env nm sc σ mt T s.heap)(c:clean p=true)(r:an C s.heap p v)
  (h:qu B nm N C env sc s₀ ⟨.next,σ.set i (some (.val p)),T⟩ Q):WP B A (storeName env (nm i) v) (λ_=>Q .next) s:=by
 obtain⟨h1,⟨k,hk,hm⟩,_⟩:=ay hi;refine Y.sim.store (av:=.val p) hm hn (hl▸h1) hk ⟨c,r⟩ λs1 S1 c1 l1=>?_;exact h C .next s1 _ (.refl _ _) ((x.chgAt Y).trans c1) ⟨S1,Y.tab.chg c1 l1⟩ (by simpa using hl) rfl
theorem rV{X:E}(h:tU X=true)(t:Option Expr)(line:Nat)(env:Env):swapsWith (X.toE nm) t line env=pure false:=by cases X<;>first|rfl|exact fT h
theorem w0(P:bV B Φ K)(hK:1<=K){i:Nat}{np p:Pos}{e:E}:eP B nm N Φ K (.assign i np e p):=by
 intro ns sc C A env σ mt T s o Q ok hn F EO ex Y h;refine bE ex λr er ex=>?_;refine bA ex λcl ex=>?_;replace ex:=iS ex;subst ex;replace ok:=a2 ok;refine(?_:WP B A (exec (.Assign [.Name (nm i) np] (e.toE nm) p) env) Q s);have plain:swapsWith (e.toE nm) (some (.Name (nm i) np)) p.line env=pure false->WP B A (exec (.Assign [.Name (nm i) np] (e.toE nm) p) env) Q s:=λhs=>
  wpAny_Assign_Name ((bo P hK e).v ok.2 F er Y λv s1 x1 Y1 r1=>lh hn ok.1 F.len x1 Y1 cl r1 h) hs
 cases hc:tU e with
 |true=>exact plain (rV hc _ _ _)
 |false=>
  cases e<;>try exact tF hc
  rename_i elt tg src ifs caps scope cp
  by_cases hb:(env.blockKind==.function&&env.kindOf (nm i)==some .local&&np.line==cp.line && !(scope.names.any λx=>x.1==nm i&&(x.2==.local||x.2==.cell)))=true
  ·have hs:swapsWith ((E.comp elt tg src ifs caps scope cp).toE nm) (some (.Name (nm i) np)) p.line env=pure true:=by
    refine(?_:(pure _:Sem Bool)=pure true)
    congr 1
   rw[exec_Assign_Name_used _ _ _ _ hs];refine wpAny_bind (wpAny_standAt (wpAny_bind ?_));refine(?_:WP B A (comprehension (.ListComp (elt.toE nm) [⟨tg.toE nm,src.toE nm,ifs.toEs nm,0⟩] scope cp) scope env (src.toE nm).pos (newList []) false (eval (src.toE nm) env) (some (assign (.Name (nm i) np) env)) >>= λ_=>pure ()) _ s);refine wpAny_bind ?_;refine yf (Q:=λ_ s'=>WP B A (pure ()) (λ_ s''=>WP B A (pure Flow.next) Q s'') s') (use:=some (assign (.Name (nm i) np) env)) (bo P hK src).s (bo P hK elt).v (bo P hK ifs).i ok.2 F er Y λys D L s₁ s' ey cy x1 hL hns _ M=>?_;obtain⟨h1,⟨k,hk,hm⟩,_⟩:=ay ok.1;refine(?_:WP B A (assign (.Name (nm i) np) env (.ref D)) (λ_ s''=>∃m,s''.heap.Ns L m/\∀h',Heap.SameBut L s''.heap h'->WP B A (pure ()) (λ_ s''=>WP B A (pure Flow.next) Q s'') { s'' with heap:=h' }) s');refine wpAny_assign_Name (M.at'.sim.store (av:=.val (.list ys)) hm hn (F.len▸h1) hk ⟨cy,M.rep⟩ λs2 S2 c2 l2=>?_);obtain⟨m,om,es,ep,hom,hr⟩:=hns;refine⟨m,⟨om,es,ep,c2.keep L om (λf=>M.fs L f rfl) M.hl hom,hr⟩,λh' hs'=>wpAny_pure (wpAny_pure ?_)⟩;have T2:=M.at'.tab.chg c2 l2;have kp:∀a o,a≠L->s2.heap.get? a=some o->h'.get? a=some o:=λa o ne e=>(hs'.2 a ne).trans e;have S3:dY B C env nm sc (σ.set i (some (.val (.list ys)))) (vi mt i (.ref D) (.val (.list ys))) h':=S2.dropX (λx a e q=>M.cells x a e q) (λa x q=>M.xs a x q) kp;have T3:aU C r.2 h':=(T2.step (W:=(·=L)) (λa w=>.inl (.inr w)) (λl q w=>M.hl (w▸q)) kp).dropX;have hlen:(σ.set i (some (AV.val (.list ys)))).length=N:=by simpa using F.len
   have hc2:eR C s { s2 with heap:=h' }:=by
    have a1:eR C s s':=(x1.trans M.ext).chg λa l=>M.at'.sim.vol.liveL a l;refine⟨c2.gens.trans a1.gens,c2.drawn.trans a1.drawn,c2.os.trans a1.os,λa o f l e=>?_,λa q=>?_⟩
    ·have e1:=a1.keep a o f l e;have ne:a≠L:=λq=>by
      subst q;cases e2:s₁.heap.get? a with
      |none=>have:=x1.keep a o l e;replace this:=e2▸this;exact nS this
      |some _=>replace e2:=hL▸e2;exact nS e2
     exact kp a o ne (c2.keep a o f l e1)
    ·by_cases ne:a=L
     ·subst ne;exfalso;cases e2:s.heap.get? a with
      |none=>exact q e2
      |some o=>have:=x1.keep a o M.hl e2;replace this:=hL▸this;exact nS this
     ·have:=c2.live a (a1.live a q);cases e2:s2.heap.get? a with
      |none=>exact absurd e2 this
      |some o=>rw[show({ s2 with heap:=h' }:Shared).heap.get? a=h'.get? a from rfl];rw[kp a o ne e2];exact λz=>nomatch z
   refine h C .next { s2 with heap:=h' } (vi mt i (.ref D) (.val (.list ys))) (.refl _ _) hc2 ?_ ?_ rfl
   ·rw[ey];exact⟨S3,T3⟩
   ·rw[ey];exact hlen
  ·refine plain ?_;refine(?_:(pure _:Sem Bool)=pure false)
   congr 1
   exact Bool.not_eq_true _ |>.mp hb
end
structure mI(B:aX)(C:Cx)(env:Env)(nm:Nat->Str)(sc:SC)(σ:aF)(mt:List (Nat×Addr))(h:Heap)(m:Str->Option Value):Prop where
 vol:cV B C h
 fF:C.F env.locals
 cF:∀x a,env.cells.lookup x=some a->C.F a\/C.X a
 mF:∀i a,(i,a)∈mt->C.F a
 mlist:∀i a,(i,a)∈mt->∃vs n,h.get? a=some (aT vs n)
 minj:∀i j a,(i,a)∈mt->(j,a)∈mt->i=j
 frm:HG env h m
 vals:∀i c,(i,c)∈sc->w9 C env (nm i) c/\qx C mt h (m (nm i)) i (σ.getD i none)
section
variable{B:aX}{C:Cx}{A:Around}{env:Env}{nm:Nat->Str}{sc:SC}{σ:aF}{mt:List (Nat×Addr)}{h h':Heap}{m:Str->Option Value}
theorem dY.names(S:dY B C env nm sc σ mt h):∃m,mI B C env nm sc σ mt h m:=by refine aP S.ex λm F e=>?_;exact⟨m,S.vol,S.fF,S.cF,S.mF,S.mlist,S.minj,F,e⟩
theorem mI.sim(S:mI B C env nm sc σ mt h m):dY B C env nm sc σ mt h:=⟨S.vol,S.fF,S.cF,S.mF,S.mlist,S.minj,m,S.frm,S.vals⟩
theorem mI.keep(S:mI B C env nm sc σ mt h m)(hk:∀a o,C.hl≠some a->h.get? a=some o->h'.get? a=some o)(hl:∀a,C.hl=some a->h'.get? a≠none):mI B C env nm sc σ mt h' m where
 vol:=S.vol.keep hk hl
 fF:=S.fF
 cF:=S.cF
 mF:=S.mF
 mlist:=(S.sim.keep hk hl).mlist
 minj:=S.minj
 frm:=S.frm.keep (λa=>C.F a\/C.X a) (.inl S.fF) S.cF λa o x g=>hk a o (λz=>x.elim (S.vol.lf a z) (S.vol.lx a z)) g
 vals:=λi c q=>⟨(S.vals i c q).1,(S.vals i c q).2.keep hk λi a q z=>S.vol.lf a z (S.mF i a q)⟩
inductive HR(C:Cx)(h:Heap)(mt:List (Nat×Addr))(i:Nat)(v:Option Value)(xs:List PV):Prop
 |mk (a:Addr) (vs:List Value) (n:Nat) (e:v=some (.ref a)) (q:(i,a)∈mt) (f:C.F a) (l:C.hl≠some a) (g:h.get? a=some (aT vs n)) (r:aH C h xs vs) (c:aA xs=true)
theorem mI.own{i:Nat}{c:Kd}{xs:List PV}(S:mI B C env nm sc σ mt h m)(hi:(i,c)∈sc)(he:σ.getD i none=some (.own xs)):
  HR C h mt i (m (nm i)) xs:=by
 have y:=(S.vals i c hi).2;replace y:=he▸y;obtain⟨cl,a,vs,n,e,q,g,r⟩:=y;exact⟨a,vs,n,e,q,S.mF i a q,λz=>S.vol.lf a z (S.mF i a q),g,r,cl⟩
theorem mI.load{i:Nat}{c:Kd}{v:Value}{s:Shared}{Q:aJ Value}(S:mI B C env nm sc σ mt s.heap m)(hi:(i,c)∈sc)(hd:(nm i==("__classdict__":Str))=false)(ev:m (nm i)=some v)(hq:Q v s):WP B A (loadName env (nm i)) Q s:=by
 have F:=S.frm;have k:=(S.vals i c hi).1;have held:∀{ca},(env.kindOf (nm i)=some .cell\/env.kindOf (nm i)=some .free)->env.cells.lookup (nm i)=some ca->WP B A (loadName env (nm i)) Q s:=λ{ca} k hc=>by
  have hcell:=F.cell (nm i) ca k hc;replace hcell:=ev▸hcell;rcases k with k|k
  ·exact wpAny_loadName_cell F.kind k hc hcell hq
  ·exact wpAny_loadName_free F.kind k hc hcell hq hd
 cases c with
 |loc=>refine aP F.ns λml hn q=>?_;exact wpAny_loadName_local F.kind k hn ((q _ k).trans ev) hq
 |cell=>obtain⟨k,ca,hc,_⟩:=k;exact held k hc
 |cap=>obtain⟨k,ca,hc,_⟩:=k;exact held k hc
theorem mI.mut{i:Nat}{c:Kd}{a:Addr}{ys:List PV}{ws:List Value}{n:Nat}(S:mI B C env nm sc σ mt h m)(hn:bU nm sc)(hi:(i,c)∈sc)(hl:i<σ.length)(hv:m (nm i)=some (.ref a))(hm:(i,a)∈mt)
  (hk:∀b o,b≠a->h.get? b=some o->h'.get? b=some o) (hg:h'.get? a=some (aT ws n)) (hr:aH C h' ys ws) (hc:aA ys=true):mI B C env nm sc (σ.set i (some (.own ys))) mt h' m:=by
 have fa:=S.mF i a hm;refine eV (S.mlist i a hm) λvs0 n0 g0=>?_;have live:∀b,h.get? b≠none->h'.get? b≠none:=λb q=>by
  by_cases w:b=a
  ·subst w;rw[hg];exact λz=>nomatch z
  ·cases e:h.get? b with
   |none=>exact absurd e q
   |some o=>rw[hk b o w e];exact λz=>nomatch z
 have V:=S.vol;have notL:env.locals≠a:=by intro z;obtain⟨ml,⟨o,es,ep,ho,hd,_⟩,_⟩:=S.frm.ns;replace ho:=z▸ho;replace ho:=g0▸ho;replace ho:=iS ho;subst ho;cases hd
 have notC:∀x b,(env.kindOf x=some .cell\/env.kindOf x=some .free)->env.cells.lookup x=some b->b≠a:=by intro x b hkx ex z;refine aP (S.frm.cell x b hkx ex) λo ho hd=>?_;replace ho:=z▸ho;replace ho:=g0▸ho;replace ho:=iS ho;subst ho;cases hd
 refine⟨⟨λb o e=>hk b o (λw=>by subst w;replace e:=V.baseF b fa▸e;exact nS e) (V.base b o e),V.baseX,V.baseF,V.baseL,λb x=>live b (V.liveX b x),λb x=>live b (V.liveF b x),λb x=>live b (V.liveL b x),V.fx,V.lf,V.lx⟩,S.fF,S.cF,S.mF,λj b q=>?_,S.minj,?_,λj d hj=>⟨(S.vals j d hj).1,?_⟩⟩
 ·by_cases w:b=a
  ·subst w;exact⟨ws,n,hg⟩
  ·refine eV (S.mlist j b q) λvs k e=>?_;exact⟨vs,k,hk b _ w e⟩
 ·have F:=S.frm;refine⟨F.kind,F.gl,F.bt,?_,λx cx kx ex=>?_,F.apart⟩
  ·obtain⟨ml,⟨o,es,ep,ho,r⟩,e⟩:=F.ns;exact⟨ml,⟨o,es,ep,hk _ _ notL ho,r⟩,e⟩
  ·refine aP (F.cell x cx kx ex) λo ho r=>?_;exact⟨o,hk _ _ (notC x cx kx ex) ho,r⟩
 ·by_cases q:i=j
  ·subst q;rw[iF hl];exact⟨hc,a,ws,n,hv,hm,hg,hr⟩
  ·rw[kA q];refine(S.vals j d hj).2.but (λb o f _ e=>hk b o (λw=>f (w▸fa)) e) λb qb=>⟨qb,λvs k e=>hk b _ (λw=>?_) e⟩;subst w;exact q (S.minj i j b hm qb)
end
section
variable{B:aX}{nm:Nat->Str}{N:Nat}{Φ:fA}{K:Nat}
theorem bz{env:Env}{ns:gM}(EO:bl env ns):interactive env=false:=by unfold interactive;rw[EO.kind];rfl
theorem kC(X:E)(env:Env)(pos:Pos):backTo pos (starEach [X.toE nm] env)=[(false,eval (X.toE nm) env)]:=by rw[kE ..];rfl
theorem i7(X:E)(env:Env)(pos:Pos):∀x∈backTo pos (starEach [X.toE nm] env),x.1=false:=by
 rw[kC ..];intro x hx;rcases ah.mp hx with rfl|hx
 ·rfl
 ·cases hx
theorem gT{A:Around}{s:Shared}{a:Addr}{vs:List Value}{n:Nat}{pl:Sem Bool}{name:Str}{id:String}{Q:Value×List Value->Shared->Prop}(slot:Slot "list" name id)(ty:typeOf (.builtin id)=pure (.type "method_descriptor"))
  (g:s.heap.get? a=some (aT vs n)) (h:Q (.builtin id,[.ref a]) s):WP B A (getMethod (.ref a) name pl) Q s:=
 getMethod_builtin (T:="list") ⟨_,g,rfl⟩ F.plainAttrs_list slot ty (λb e=>by cases e;exact⟨_,g,rfl⟩) h
theorem aU.own{C:Cx}{T:aC}{h h':Heap}{a:Addr}(Y:aU C T h)(fa:C.F a)(hl:C.hl≠some a)(hk:∀b o,b≠a->h.get? b=some o->h'.get? b=some o):aU C T h':=
 Y.step (W:=(·=a)) (λb w=>.inr (w▸fa)) (λl q w=>hl (w▸q)) hk
theorem eR.own{C:Cx}{s:Shared}{h':Heap}{t:Nat}{a:Addr}(fa:C.F a)(hk:∀b o,b≠a->s.heap.get? b=some o->h'.get? b=some o)(hg:h'.get? a≠none):eR C s { s with heap:=h',toks:=t }:=
 ⟨rfl,rfl,rfl,λb o f _ e=>hk b o (λw=>f (w▸fa)) e,λb q=>by
  by_cases w:b=a
  ·subst w;exact hg
  ·cases e:s.heap.get? b with
   |none=>exact absurd e q
   |some o=>rw[show({ s with heap:=h',toks:=t }:Shared).heap.get? b=h'.get? b from rfl];rw[hk b o w e];exact λz=>nomatch z⟩
theorem hO{σ:aF}{i:Nat}{xs:List PV}(h:fL σ i=some xs):σ.getD i none=some (.own xs):=by
 have k:∀o:Option AV,(match o with|some (.own xs)=>some xs|_=>none)=some xs->o=some (.own xs):=λo h=>by
  cases o with
  |none=>exact nS h
  |some a=>cases a with
   |val=>exact nS h
   |own=>replace h:=iS h;subst h;rfl
 exact k _ h
theorem xH(P:bV B Φ K)(hK:1<=K){i:Nat}{xp ap cp p:Pos}{e:E}:eP B nm N Φ K (.append i xp ap e cp p):=by
 intro ns sc C A env σ mt T s o Q ok hn F EO ex Y h;refine bE ex λxs exs ex=>?_;refine bE ex λr er ex=>?_;refine bA ex λcl ex=>?_;refine jF ex λgz ex=>?_;replace ex:=iS ex;subst ex;replace ok:=a3 ok;obtain⟨h1,⟨c,hc,hm⟩,hp⟩:=ay ok.1;have hpn:=au hp;refine af Y.sim.names λm M=>?_;obtain⟨a,vs,n,ev,qm,fa,nl,g,rs,cxs⟩:=M.own hm (hO exs);refine(?_:WP B A (exec (.Expr (.Call (.Attribute (.Name (nm i) xp) "append" ap) [e.toE nm] [] cp) p) env) Q s);refine wpAny_Expr_any (dy (λ{Q} hQ=>hQ) (i7 e env cp) (eE (dh _)) ok.2.1 (wpAny_Name (M.load hm hpn.2 ev λpl=>?_) hpn.1)) (bz EO);refine gT PySem.F.slot_list_append PySem.F.type_list_append g ?_;rw[kC ..];refine PySem.P.append_list ((bo P hK e).v ok.2.2 F er Y λv s1 x1 Y1 r1=>?_);have M1:=M.keep x1.keep λb l=>Y1.sim.vol.liveL b l;have g1:=x1.keep a _ nl g;have hlen:=rs.length;refine⟨vs.toArray,n,(show _<=cap by simp[hlen];lia),g1,?_⟩;have g2:(s1.heap.update a (Obj.mapSeq λx=>x.push v)).get? a=some (aT (vs++[v]) (n+1)):=by have:=IsL.update (f:=λx=>x.push v) g1;simpa[IsL]using this
 have k2:∀b o,b≠a->s1.heap.get? b=some o->(s1.heap.update a (Obj.mapSeq λx=>x.push v)).get? b=some o:=λb o ne e=>((Heap.SameBut.update (h:=s1.heap) (a:=a) (f:=Obj.mapSeq λx=>x.push v)).2 b ne).trans e;have r2:aH C (s1.heap.update a (Obj.mapSeq λx=>x.push v)) (xs++[r.1]) (vs++[v]):=by refine aH.append ((rs.ext x1).stay cxs λb o _ f _ e=>k2 b o (λw=>f (w▸fa)) e) ⟨v,[],rfl,?_,rfl⟩;exact r1.move (λb o x f l e=>⟨x,f,l,k2 b o (λw=>f (w▸fa)) e⟩) (λ_ e=>e) cl
 have M2:=M1.mut hn hm (F.len▸h1) ev qm k2 g2 r2 (by rw[cW ..];rw[cxs];simp[bb,bR,cl]);exact h C .next _ mt (.refl _ _) ((x1.chgAt Y1).trans (eR.own fa k2 (by rw[g2];exact λq=>nomatch q))) ⟨M2.sim,Y1.tab.own fa nl k2⟩ (by simpa using F.len) rfl
end
section
variable{B:aX}{nm:Nat->Str}{N:Nat}{Φ:fA}{K:Nat}
theorem wF(P:bV B Φ K)(hK:1<=K){i:Nat}{xp ap cp p:Pos}{e:E}:eP B nm N Φ K (.extend i xp ap e cp p):=by
 intro ns sc C A env σ mt T s o Q ok hn F EO ex Y h;refine bE ex λxs exs ex=>?_;refine bE ex λr er ex=>?_;refine aP (sA.mp ex) λσ' eσ q1q=>?_;subst q1q;replace ok:=a3 ok;obtain⟨h1,⟨c,hc,hm⟩,hp⟩:=ay ok.1;have hpn:=au hp;refine af Y.sim.names λm M=>?_;obtain⟨a,vs,n,ev,qm,fa,nl,g,rs,cxs⟩:=M.own hm (hO exs);obtain⟨q,T1⟩:=r;refine iU (B9 eσ) λys q1q cys gz q2q=>?_;subst q1q;subst q2q;refine(?_:WP B A (exec (.Expr (.Call (.Attribute (.Name (nm i) xp) "extend" ap) [e.toE nm] [] cp) p) env) Q s);refine wpAny_Expr_any (dy (λ{Q} hQ=>hQ) (i7 e env cp) (eE (dh _)) ok.2.1 (wpAny_Name (M.load hm hpn.2 ev λpl=>?_) hpn.1)) (bz EO);refine gT PySem.F.slot_list_extend PySem.F.type_list_extend g ?_;rw[kC ..];refine PySem.P.extend_list ((bo P hK e).v ok.2.2 F er Y λv s1 x1 Y1 r1=>?_);have M1:=M.keep x1.keep λb l=>Y1.sim.vol.liveL b l;have g1:=x1.keep a _ nl g;have hlen:=rs.length;obtain⟨b,ws,n2,rfl,nx,nf,nl2,gb,rw1⟩:=r1;have hlen2:=rw1.length;have hsum:vs.toArray.size+ws.toArray.size<=cap:=by simp[hlen,hlen2];lia
 refine⟨b,vs.toArray,ws.toArray,n,n2,(show _<=cap by lia),(show _<=cap+1 by lia),?_,rfl,g1,gb,?_⟩
 ·have:Builtin.List.listTooLong (vs.toArray.size+ws.toArray.size)=false:=by simp only[Builtin.List.listTooLong,decide_eq_false_iff_not];exact Nat.not_lt.mpr hsum
  rw[this];simp
 have g2:∃n',(s1.heap.update a (Obj.mapSeq λx=>x++ws.toArray)).get? a=some (aT (vs++ws) n'):=by have:=IsL.update (f:=λx=>x++ws.toArray) g1;exact⟨_,by simpa[IsL]using this⟩
 refine af g2 ?_;clear g2;intro n3 g2;have k2:∀b o,b≠a->s1.heap.get? b=some o->(s1.heap.update a (Obj.mapSeq λx=>x++ws.toArray)).get? b=some o:=λb o ne e=>((Heap.SameBut.update (h:=s1.heap) (a:=a) (f:=Obj.mapSeq λx=>x++ws.toArray)).2 b ne).trans e;have r2:aH C (s1.heap.update a (Obj.mapSeq λx=>x++ws.toArray)) (xs++ys) (vs++ws):=
  aH.append ((rs.ext x1).stay cxs λb o _ f _ e=>k2 b o (λw=>f (w▸fa)) e) (rw1.stay cys λb o _ f _ e=>k2 b o (λw=>f (w▸fa)) e)
 have M2:=M1.mut hn hm (F.len▸h1) ev qm k2 g2 r2 (by rw[cW ..];rw[cxs];rw[cys];rfl);exact h C .next _ mt (.refl _ _) ((x1.chgAt Y1).trans (eR.own fa k2 (by rw[g2];exact λq=>nomatch q))) ⟨M2.sim,Y1.tab.own fa nl k2⟩ (by simpa using F.len) rfl
theorem qy(P:bV B Φ K)(hK:1<=K){i j:Nat}{xp ap jp jap jcp cp p:Pos}{e:E}:eP B nm N Φ K (.appendPop i xp ap j jp jap e jcp cp p):=by
 intro ns sc C A env σ mt T s o Q ok hn F EO ex Y h;refine bE ex λxs exs ex=>?_;refine bE ex λys eys ex=>?_;refine bE ex λr er ex=>?_;refine bE ex λy ey ex=>?_;refine bA ex λnij ex=>?_;refine jF ex λgz ex=>?_;replace ex:=iS ex;subst ex;replace ok:=a5 ok;obtain⟨h1,⟨c,hc,hm⟩,hp⟩:=ay ok.1;obtain⟨h2,⟨d,hd,hmj⟩,hpj⟩:=ay ok.2.1;have hpn:=au hp;have hpn2:=au hpj;have hij:i≠j:=by simpa using nij
 obtain⟨q,T1⟩:=r;refine iU (BE ey) λk q1q kz ek ey2=>?_;subst q1q;refine af Y.sim.names λm M=>?_;obtain⟨a,vs,n,ev,qm,fa,nl,g,rs,cxs⟩:=M.own hm (hO exs);obtain⟨b,ws,n2,evj,qmj,fb,nlb,gb,rws,cys⟩:=M.own hmj (hO eys);have nab:a≠b:=λz=>by subst z;exact hij (M.minj i j a qm qmj)
 refine(?_:WP B A (exec (.Expr (.Call (.Attribute (.Name (nm i) xp) "append" ap) [.Call (.Attribute (.Name (nm j) jp) "pop" jap) [e.toE nm] [] jcp] [] cp) p) env) Q s);have st1:backTo cp (starEach [.Call (.Attribute (.Name (nm j) jp) "pop" jap) [e.toE nm] [] jcp] env)=[(false,eval (.Call (.Attribute (.Name (nm j) jp) "pop" jap) [e.toE nm] [] jcp) env)]:=rfl;refine wpAny_Expr_any (dy (λ{Q} hQ=>hQ) (by rw[st1];intro x hx;rcases ah.mp hx with rfl|hx;rfl;cases hx) (eE (dh _)) ok.2.2.1 (wpAny_Name (M.load hm hpn.2 ev λpl=>?_) hpn.1)) (bz EO);refine gT PySem.F.slot_list_append PySem.F.type_list_append g ?_;rw[st1];refine PySem.P.append_list (dy (λ{Q} hQ=>hQ) (i7 e env jcp) (eE (dh _)) ok.2.2.2.1 (wpAny_Name (M.load hmj hpn2.2 evj λpl=>?_) hpn2.1));refine gT PySem.F.slot_list_pop PySem.F.type_list_pop gb ?_;rw[kC ..];refine PySem.P.pop_at_list ((bo P hK e).v ok.2.2.2.2 F er Y λv s1 x1 Y1 r1=>?_);refine af r1 ?_;clear r1;intro u q1q;subst q1q;have M1:=M.keep x1.keep λb l=>Y1.sim.vol.liveL b l;have ga:=x1.keep a _ nl g;have gb1:=x1.keep b _ nlb gb;have hlb:=rws.length;refine aP (rws.get ek) λw ew rw1=>?_;have hk:k<ws.length:=(List.getElem?_eq_some_iff.mp ew).1;refine⟨ws.toArray,n2,(k:Int),u,k,w,(show _<=cap by simp[hlb];unfold cap;lia),rfl,gb1,?_,?_,by simpa using ew,?_⟩
 ·simp[Builtin.List.listFitsIndex];lia
 ·have:=iz (k:=(k:Int)) (n:=ws.toArray.size) (by lia) (by simpa using hk);simpa using this
 have g2:∃n',(s1.heap.update b (Obj.mapSeq λx=>x.eraseIdxIfInBounds k)).get? b=some (aT (ws.eraseIdx k) n'):=by have:=IsL.update (f:=λx=>x.eraseIdxIfInBounds k) gb1;exact⟨_,by simpa[IsL]using this⟩
 refine af g2 ?_;clear g2;intro n3 g2;have k2:∀z o,z≠b->s1.heap.get? z=some o->(s1.heap.update b (Obj.mapSeq λx=>x.eraseIdxIfInBounds k)).get? z=some o:=λz o ne e=>((Heap.SameBut.update (h:=s1.heap) (a:=b) (f:=Obj.mapSeq λx=>x.eraseIdxIfInBounds k)).2 z ne).trans e;have cer:∀(l:List PV) (k:Nat),aA l=true->aA (l.eraseIdx k)=true:=by
  intro l
  induction l with
  |nil=>intro k c;simpa using c
  |cons x l ih=>intro k c;simp only[bb,bR,cC]at c;cases k with
   |zero=>simpa using c.2
   |succ k=>simp[bb,bR,c.1,ih k c.2]
 have cget:∀(l:List PV) (k:Nat) (z:PV),aA l=true->l[k]?=some z->clean z=true:=by
  intro l
  induction l with
  |nil=>intro k z _ e;simp at e
  |cons x l ih=>intro k z c e;simp only[bb,bR,cC]at c;cases k with
   |zero=>simp at e;subst e;exact c.1
   |succ k=>exact ih k z c.2 (by simpa using e)
 have rws2:aH C (s1.heap.update b (Obj.mapSeq λx=>x.eraseIdxIfInBounds k)) (ys.eraseIdx k) (ws.eraseIdx k):=((rws.ext x1).set k).stay (cer _ _ cys) λz o _ f _ e=>k2 z o (λw=>f (w▸fb)) e;have M2:=M1.mut hn hmj (F.len▸h2) evj qmj k2 g2 rws2 (cer _ _ cys);have T2:aU C T1 _:=Y1.tab.own fb nlb k2;have c2:eR C s { s1 with heap:=s1.heap.update b (Obj.mapSeq λx=>x.eraseIdxIfInBounds k) }:=(x1.chgAt Y1).trans (eR.own (t:=s1.toks) fb k2 (by rw[g2];exact λq=>nomatch q));have ga2:(s1.heap.update b (Obj.mapSeq λx=>x.eraseIdxIfInBounds k)).get? a=some (aT vs n):=k2 a _ nab ga;have hla:=rs.length;refine⟨vs.toArray,n,(show _<=cap by simp[hla];lia),ga2,?_⟩;have g3:((s1.heap.update b (Obj.mapSeq λx=>x.eraseIdxIfInBounds k)).update a (Obj.mapSeq λx=>x.push w)).get? a=some (aT (vs++[w]) (n+1)):=by have:=IsL.update (f:=λx=>x.push w) ga2;simpa[IsL]using this
 have k3:∀z o,z≠a->(s1.heap.update b (Obj.mapSeq λx=>x.eraseIdxIfInBounds k)).get? z=some o->((s1.heap.update b (Obj.mapSeq λx=>x.eraseIdxIfInBounds k)).update a (Obj.mapSeq λx=>x.push w)).get? z=some o:=
  λz o ne e=>((Heap.SameBut.update (h:=s1.heap.update b (Obj.mapSeq λx=>x.eraseIdxIfInBounds k)) (a:=a) (f:=Obj.mapSeq λx=>x.push w)).2 z ne).trans e
 have cy:clean y.1=true:=cget _ _ _ cys ek;have r3:aH C ((s1.heap.update b (Obj.mapSeq λx=>x.eraseIdxIfInBounds k)).update a (Obj.mapSeq λx=>x.push w)) (xs++[y.1]) (vs++[w]):=by refine aH.append ((rs.ext x1).stay cxs λz o _ f _ e=>k3 z o (λq=>f (q▸fa)) (k2 z o (λq=>f (q▸fb)) e)) ⟨w,[],rfl,?_,rfl⟩;exact(rw1.ext x1).move (λz o x f l e=>⟨x,f,l,k3 z o (λq=>f (q▸fa)) (k2 z o (λq=>f (q▸fb)) e)⟩) (λ_ e=>e) cy
 have M3:=M2.mut hn hm (by simpa using(F.len▸h1)) ev qm k3 g3 r3 (by rw[cW ..];rw[cxs];simp[bb,bR,cy]);have c3:eR C s { s1 with heap:=(s1.heap.update b (Obj.mapSeq λx=>x.eraseIdxIfInBounds k)).update a (Obj.mapSeq λx=>x.push w) }:=c2.trans (eR.own (s:={ s1 with heap:=s1.heap.update b (Obj.mapSeq λx=>x.eraseIdxIfInBounds k) }) (t:=s1.toks) fa k3 (by rw[g3];exact λq=>nomatch q));refine h C .next _ mt (.refl _ _) c3 ⟨?_,T2.own fa nl k3⟩ (by simpa using F.len) rfl;rw[ey2];exact M3.sim
end
section
variable{B:aX}{nm:Nat->Str}{N:Nat}{Φ:fA}{K:Nat}
theorem Bf(P:bV B Φ K)(hK:1<=K){e:E}{p:Pos}:eP B nm N Φ K (.expr e p):=by intro ns sc C A env σ mt T s o Q ok hn F EO ex Y h;refine mE ex λr er qq=>?_;subst qq;replace ok:=a2 ok;refine(?_:WP B A (exec (.Expr (e.toE nm) p) env) Q s);exact wpAny_Expr_any ((bo P hK e).v ok.2 F er Y λv s1 x1 Y1 r1=>h C .next s1 mt (.refl _ _) (x1.chgAt Y1) Y1 F.len rfl) (bz EO) (rV ok.1 _ _ _)
theorem FF(P:bV B Φ K)(hK:1<=K){e:E}{p:Pos}:eP B nm N Φ K (.ret e p):=by intro ns sc C A env σ mt T s o Q ok hn F EO ex Y h;refine mE ex λr er qq=>?_;subst qq;exact wpAny_Return_some ((bo P hK e).v ok F er Y λv s1 x1 Y1 r1=>h C (.ret v) s1 mt (.refl _ _) (x1.chgAt Y1) Y1 F.len ⟨v,rfl,r1⟩)
theorem DZ{p:Pos}:eP B nm N Φ K (.brk p):=by intro ns sc C A env σ mt T s o Q ok hn F EO ex Y h;replace ex:=iS ex;subst ex;exact wpAny_Break (h C .brk s mt (.refl _ _) (.refl _ _) Y F.len rfl)
theorem mC:iL B nm N Φ K .nil:=by intro ns sc C A env σ mt T s o Q ok hn F EO ex Y h;replace ex:=iS ex;subst ex;exact wpAny_execs_nil (h C .next s mt (.refl _ _) (.refl _ _) Y F.len rfl)
theorem tY{a b:S}(ha:eP B nm N Φ K a)(hb:iL B nm N Φ K b):iL B nm N Φ K (.seq a b):=by
 intro ns sc C A env σ mt T s o Q ok hn F EO ex Y h;refine bE ex λo1 e1 ex=>?_;replace ok:=a2 ok;rw[Fr ..];refine wpAny_execs_cons (ha ok.1 hn F EO e1 Y λC1 f s1 mt1 g1 c1 Y1 n1 f1=>?_);obtain⟨fl,σ1,T1⟩:=o1;cases fl with
 |next=>cases f1;exact hb ok.2 hn (F.len' n1) EO ex Y1 λC2 f2 s2 mt2 g2 c2 Y2 n2 fr2=>h C2 f2 s2 mt2 (g1.trans c1 g2) (c1.grow g1 c2) Y2 n2 fr2
 |brk=>cases f1;replace ex:=iS ex;subst ex;exact h C1 .brk s1 mt1 g1 c1 Y1 n1 rfl
 |ret p=>refine aP f1 ?_;clear f1;intro v q1q r;subst q1q;replace ex:=iS ex;subst ex;exact h C1 (.ret v) s1 mt1 g1 c1 Y1 n1 ⟨v,rfl,r⟩
theorem FH(P:bV B Φ K)(hK:1<=K){c:E}{a b:S}{p:Pos}(ha:iL B nm N Φ K a)(hb:iL B nm N Φ K b):eP B nm N Φ K (.ite c a b p):=by
 intro ns sc C A env σ mt T s o Q ok hn F EO ex Y h;refine bE ex λt et ex=>?_;replace ok:=a3 ok;refine(?_:WP B A (exec (.If (c.toE nm) (a.toSs nm) (b.toSs nm) p) env) Q s);refine wpAny_If ((bo P hK c).t ok.1 F et Y λs1 x1 Y1=>?_);have fin:qu B nm N C env sc s1 o Q:=λC2 f2 s2 mt2 g2 c2 Y2 n2 fr2=>h C2 f2 s2 mt2 (bC.trans (.refl _ _) (x1.chgAt Y1) g2) ((x1.chgAt Y1).trans c2) Y2 n2 fr2;obtain⟨t,T1⟩:=t;cases t with
 |true=>exact ha ok.2.1 hn F EO ex Y1 fin
 |false=>exact hb ok.2.2 hn F EO ex Y1 fin
theorem AR{σ:aF}{i:Nat}{op:Operator}{q z:PV}(ez:H4 σ i op q=some z):∃a b,σ.getD i none=some (.val (.int a))/\q=.int b/\op=.BitXor/\z=.int (Builtin.bitXor a b):=by
 have k:∀(q:PV) (op:Operator) (x:Option AV),(match x with
  |some (.val (.int a))=>match q with
   |.int b=>match op with
    |.BitXor=>some (PV.int (Builtin.bitXor a b))
    |_=>none
   |_=>none
  |_=>none)=some z->∃a b,x=some (.val (.int a))/\q=.int b/\op=.BitXor/\z=.int (Builtin.bitXor a b):=λq op x ez'=>by
  cases x<;>try exact nS ez'
  rename_i x
  cases x<;>try exact nS ez'
  rename_i x
  cases x<;>try exact nS ez'
  cases q<;>try exact nS ez'
  cases op<;>first|exact nS ez'|(replace ez':=iS ez';subst ez')
  exact⟨_,_,rfl,rfl,rfl,rfl⟩
 exact k _ _ _ ez
theorem FJ(P:bV B Φ K)(hK:1<=K){i:Nat}{np p:Pos}{op:Operator}{e:E}:eP B nm N Φ K (.aug i np op e p):=by
 intro ns sc C A env σ mt T s o Q ok hn F EO ex Y h;refine bE ex λr er ex=>?_;refine mE ex λz ez qq=>?_;subst qq;replace ok:=a2 ok;obtain⟨h1,⟨c,hc,hm⟩,hp⟩:=ay ok.1;have hpn:=au hp;obtain⟨q,T1⟩:=r;have inv:∃a b,σ.getD i none=some (.val (.int a))/\q=.int b/\op=.BitXor/\z=.int (Builtin.bitXor a b):=by exact AR ez
 refine vh inv ?_;clear inv;intro a b ha q1q q2q q3q;subst q1q;subst q2q;subst q3q;refine(?_:WP B A (exec (.AugAssign (.Name (nm i) np) .BitXor (e.toE nm) p) env) Q s);refine wpAny_AugAssign_Name (Y.sim.load hm ha hpn.2 λv rv=>(bo P hK e).v ok.2 F er Y λw s1 x1 Y1 r1=>?_);refine af rv ?_;clear rv;intro t q1q;subst q1q;refine af r1 ?_;clear r1;intro u q1q;subst q1q;exact PyProof.Rows.ixor_int (lh (s₀:=s) (s:={ s1 with toks:=s1.toks+1 }) (v:=.int (Builtin.bitXor a b) s1.toks) hn ok.1 F.len (x1.trans a9.tick.up) (p:=.int (Builtin.bitXor a b)) (Y1.kept .tick) rfl ⟨_,rfl⟩ h)
theorem At.newOwn{C:Cx}{env:Env}{sc:SC}{σ:aF}{mt:List (Nat×Addr)}{T:aC}{s:Shared}{ps:List PV}{vs:List Value}(Y:At B C env nm sc σ mt T s.heap)(c:aA ps=true)(r:aH C s.heap ps vs):
  At B (C.add s.heap.objs.size) env nm sc σ mt T (s.heap.push (aT vs 0))/\aH (C.add s.heap.objs.size) (s.heap.push (aT vs 0)) ps vs/\bC C s.heap (C.add s.heap.objs.size):=by
 have ha:=aV s.heap;have Y1:=Y.kept (s':={ s with heap:=s.heap.push (aT vs 0) }) .lay';refine⟨⟨Y.sim.addF Y1.sim ha (λ_ _ _ e=>bK _ e) (by rw[cZ _ rfl];exact λq=>nomatch q),?_⟩,?_,rfl,rfl,rfl,λ_ f=>.inl f,λa (f:C.F a\/a=s.heap.objs.size)=>f.imp id λq=>by rw[q];exact ha⟩
 ·exact Y.tab.move rfl rfl (λ_ _ _ _ e=>bK _ e) λa o x f _ e=>⟨x,(λ(q:C.F a\/a=s.heap.objs.size)=>q.elim f λq=>by replace e:=q▸e;replace e:=ha▸e;exact nS e),bK _ e⟩
 ·exact(r.addF ha c).keep (C:=C.add s.heap.objs.size) λ_ _ _ e=>bK _ e
theorem Et(P:bV B Φ K)(hK:1<=K){i:Nat}{np lp p:Pos}{es:E}:eP B nm N Φ K (.own i np es lp p):=by
 intro ns sc C A env σ mt T s o Q ok hn F EO ex Y h;refine bE ex λr er ex=>?_;refine bA ex λcl ex=>?_;refine jF ex λgz ex=>?_;replace ex:=iS ex;subst ex;replace ok:=a2 ok;obtain⟨h1,⟨k,hk,hm⟩,_⟩:=ay ok.1;refine(?_:WP B A (exec (.Assign [.Name (nm i) np] (.List (es.toEs nm) lp) p) env) Q s);refine wpAny_Assign_Name (wpAny_List ((bo P hK es).l ok.2 F er Y λvs s1 x1 Y1 r1=>⟨by rw[r1.length];exact gz,?_⟩)) rfl;refine km (Y1.newOwn cl r1) λY2 r2 g2=>?_;have nm1:s1.heap.objs.size∉mt.map (·.2):=by intro q;obtain⟨⟨j,a⟩,hj,e⟩:=cH.mp q;have:=Y1.sim.vol.liveF a (Y1.sim.mF j a hj);have e':a=s1.heap.objs.size:=e;replace this:=e'▸this;exact this (aV _)
 refine Y2.sim.store (s:={ s1 with heap:=s1.heap.push (aT vs 0) }) (av:=.own r.1) (v:=.ref s1.heap.objs.size) hm hn (F.len▸h1) hk ⟨cl,_,vs,0,rfl,.inr rfl,nm1,cZ _ rfl,r2⟩ λs2 S2 c2 l2=>?_;have c1:eR C s { s1 with heap:=s1.heap.push (aT vs 0) }:=(x1.chgAt Y1).trans ((a9.lay' (s:=s1)).up.chg λa l=>by
  have:=Y1.sim.vol.liveL a l;cases el:s1.heap.get? a with
  |none=>exact absurd el this
  |some o=>rw[show({ s1 with heap:=s1.heap.push (aT vs 0) }:Shared).heap.get? a=_ from bK _ el];exact λq=>nomatch q)
 have g1:bC C s.heap (C.add s1.heap.objs.size):=bC.trans (.refl _ _) (x1.chgAt Y1) g2;exact h _ .next s2 _ g1 (c1.grow g1 c2) ⟨S2,Y2.tab.chg c2 l2⟩ (by simpa using F.len) rfl
end
section
variable{B:aX}{nm:Nat->Str}{N:Nat}{Φ:fA}{K:Nat}
theorem rG{X:E}{ts:List Expr}{k:Nat}{tp:Pos}{line:Nat}{env:Env}:swapsWithSole [.Tuple ts k tp] (X.toE nm) line env=pure false:=by cases X<;>rfl
theorem uX{X:E}(h:DG X=true){ts:List Expr}{k:Nat}{tp:Pos}{env:Env}:swappedStores [.Tuple ts k tp] (X.toE nm) env=pure none:=by cases X<;>first|rfl|exact fT h
theorem vd{sc:SC}{ts:List (Nat×Pos)}(h:(ts.all λt=>cw nm N sc t.1)=true):∀i∈en (.many ts 0 ⟨0,0,0,0⟩),i<N/\∃c,c≠.cap/\(i,c)∈sc:=by intro i hi;refine aP (cH.mp hi) λt ht q1q=>?_;subst q1q;refine km (ay (bD.mp h t ht)) λh1 h2 _=>?_;exact⟨h1,h2⟩
theorem xE(P:bV B Φ K)(hK:1<=K){ts:List (Nat×Pos)}{k:Nat}{tp p:Pos}{e:E}:eP B nm N Φ K (.unpack ts k tp e p):=by
 intro ns sc C A env σ mt T s o Q ok hn F EO ex Y h;refine bE ex λr er ex=>?_;replace ok:=a3 ok;obtain⟨q,T1⟩:=r;have inv:∃ps σ',q=.tuple ps/\aq σ ts ps=some σ'/\o=⟨.next,σ',T1⟩:=by
  cases q<;>try exact nS ex
  rename_i ps
  refine aP (sA.mp ex) λσ' e1 q1q=>?_;subst q1q;exact⟨ps,σ',rfl,e1,rfl⟩
 refine lr inv ?_;clear inv;intro ps σ' q1q eb q2q;subst q1q;subst q2q;refine(?_:WP B A (exec (.Assign [.Tuple (tN nm ts) k tp] (e.toE nm) p) env) Q s);refine wpAny_Assign_stores ((bo P hK e).v ok.2.2 F er Y λv s1 x1 Y1 r1=>?_) rG (uX ok.2.1);refine(?_:WP B A (assign ((Tg.many ts k tp).toE nm) env v) (λ_=>Q .next) s1);exact kT (N:=N) F.fine.hd hn (tg:=.many ts k tp) (show cN σ (.many ts k tp) (.tuple ps)=some σ' from eb) Y1.sim F.len (vd ok.1) r1 λs2 mt2 m2 S2 n2 c2 l2=>
  h C .next s2 mt2 (.refl _ _) ((x1.chgAt Y1).trans c2) ⟨S2,Y1.tab.chg c2 l2⟩ n2 rfl
noncomputable def alikeT(nm:Nat->Str)(ns:gM)(line:Nat)(t:Nat×Pos):Bool:=ns.lookup (nm t.1)==some .local&&t.2.line==line
theorem nj{ns:gM}{line:Nat}{f:Expr->Option Str}(hf:∀x p,f (.Name x p)=if (ns.lookup x==some .local&&p.line==line)=true then some x else none):∀ts:List (Nat×Pos),(tN nm ts).filterMap f=(ts.filter (alikeT nm ns line)).map λt=>nm t.1
 |[]=>rfl
 |t :: ts=>by have ih:=nj hf ts;have e:tN nm (t :: ts)=.Name (nm t.1) t.2 :: tN nm ts:=rfl;rw[e];rw[nv];rw[List.filter_cons];rw[ih];rw[hf ..];rw[show(ns.lookup (nm t.1)==some .local&&t.2.line==line)=alikeT nm ns line t from rfl];cases alikeT nm ns line t<;>rfl
theorem yv{f:Expr->Bool}(hf:∀X:E,f (X.toE nm)=false):∀X:E,(X.toEs nm).any f=false:=
 E.lrec (λa b ih=>by rw[mr ..];rw[List.any_cons];rw[ih];rw[hf ..];rfl) λX n=>by rw[n.1 ..];rfl
theorem ng:∀ts:List (Nat×Pos),dS nm ts=true->(ts.map λt=>nm t.1).eraseDups=ts.map λt=>nm t.1
 |[],_=>rfl
 |t :: ts,h=>by
  replace h:=jm▸h;rewrite[eA]at h;rw[bh];rw[List.eraseDups_cons];rewrite[jg.mpr];rw[ng ts h.2];rfl;intro x hx;refine aP (cH.mp hx) λu hu q1q=>?_;subst q1q;have:=bD.mp h.1 u hu;have ne:nm t.1≠nm u.1:=by simpa using this
  simpa using Ne.symm ne
noncomputable def pv(nm:Nat->Str)(ns:gM)(ts:List (Nat×Pos))(vs:List Expr):Bool:=
 (ts.length==2||ts.length==3)&&(vs.length==ts.length)&&(ts.all (alikeT nm ns ((ts.head?.map (·.2.line)).getD 0))) && !(vs.all (foldedForSure 8))
set_option backward.match.sparseCases true in
theorem lX{env:Env}{ns:gM}{ts:List (Nat×Pos)}{k ek:Nat}{tp ep:Pos}{vs:List Expr}(EO:bl env ns)(hd:dS nm ts=true)(hst:(vs.any fun|.Starred ..=>true|_=>false)=false)(hc:(!(pv nm ns ts vs) || !(vs.all (constantsAlone 8)))=true):
  swappedStores [.Tuple (tN nm ts) k tp] (.Tuple vs ek ep) env=pure (if pv nm ns ts vs then some (ts.map λt=>nm t.1)else none):=by
 have hb:env.blockKind=.function:=by unfold Env.blockKind;rw[EO.kind];rfl
 have hlen:(tN nm ts).length=ts.length:=lH ..;have hlin:((tN nm ts).head?.map (·.pos.line)).getD 0=(ts.head?.map (·.2.line)).getD 0:=by cases ts<;>rfl
 unfold pv at hc ⊢;generalize (ts.head?.map (·.2.line)).getD 0=line at hlin hc ⊢;unfold swappedStores;dsimp only;rw[hlen];rw[hb];rw[hlin];rw[hst];rewrite[nj (ns:=ns) (line:=line) λx p=>by rw[Eq.symm (EO.names x)];rfl];cases ha:(ts.length==2||ts.length==3)with
 |false=>rfl
 |true=>
  cases hl:vs.length==ts.length with
  |false=>rw[show(vs.length != ts.length)=true by rewrite[bne];rw[hl];rfl];rfl
  |true=>
   rw[show(vs.length != ts.length)=false by rewrite[bne];rw[hl];rfl];replace hc:=ha▸hc;replace hc:=hl▸hc;cases hp:ts.all (alikeT nm ns line)with
   |false=>
    have hne:(((ts.filter (alikeT nm ns line)).map λt=>nm t.1).length != ts.length)=true:=bne_iff_ne.mpr λq=>by replace q:=(lH ..)▸q;replace hp:=bD.mpr (List.length_filter_eq_length_iff.mp q)▸hp;exact tF hp
    rw[hne];rfl
   |true=>
    rw[jg.mpr (bD.mp hp)];rw[ng ts hd];rw[lH ..];rw[show(ts.length != ts.length)=false from bne_self_eq_false _];replace hc:=hp▸hc;cases hq:vs.all (foldedForSure 8)with
    |true=>rfl
    |false=>
     replace hc:=hq▸hc;cases hr:vs.all (constantsAlone 8)with
     |true=>replace hc:=hr▸hc;exact fT hc
     |false=>rfl
set_option backward.match.sparseCases true in
theorem wD{env:Env}{ns:gM}{ts:List (Nat×Pos)}{k ek:Nat}{tp ep:Pos}{es:E}(EO:bl env ns)(hd:dS nm ts=true)(hc:(!(mR nm ns ts es) || !((es.toEs nm).all (constantsAlone 8)))=true):
  swappedStores [.Tuple (tN nm ts) k tp] (.Tuple (es.toEs nm) ek ep) env=pure (if mR nm ns ts es then some (ts.map λt=>nm t.1)else none):=by
 have e:mR nm ns ts es=pv nm ns ts (es.toEs nm):=by unfold mR pv;rw[u9 ..];rfl
 rw[e]at hc ⊢;exact lX EO hd (yv (λX=>by cases X<;>rfl) es) hc
end
inductive gE(C:Cx)(h₀ h:Heap):List PV->List Bool->List Value->List Addr->Prop
 |nil:gE C h₀ h [] [] [] []
 |own {xs vs n a ps bs ws as}:C.F a->h₀.get? a=none->h.get? a=some (aT vs n)->aH C h xs vs->aA xs=true->a∉as->gE C h₀ h ps bs ws as->gE C h₀ h (.list xs :: ps) (true :: bs) (.ref a :: ws) (a :: as)
 |val {p v ps bs ws as}:clean p=true->an C h p v->gE C h₀ h ps bs ws as->gE C h₀ h (p :: ps) (false :: bs) (v :: ws) as
theorem an.grow{C C':Cx}{s s':Shared}(g:bC C s.heap C')(x:a9 C.hl s s'){p:PV}{v:Value}(c:clean p=true)(r:an C s.heap p v):an C' s'.heap p v:=
 r.move (C:=C) (C':=C') (λa o hx f l e=>⟨g.x▸hx,(λq=>(g.f a q).elim f λn=>by replace n:=e▸n;exact sN n),g.hl▸l,x.keep a o l e⟩) (λa e=>g.ta▸e) c
theorem aH.grow{C C':Cx}{s s':Shared}(g:bC C s.heap C')(x:a9 C.hl s s'){p:List PV}{v:List Value}(c:aA p=true)(r:aH C s.heap p v):aH C' s'.heap p v:=
 r.move (C:=C) (C':=C') (λa o hx f l e=>⟨g.x▸hx,(λq=>(g.f a q).elim f λn=>by replace n:=e▸n;exact sN n),g.hl▸l,x.keep a o l e⟩) (λa e=>g.ta▸e) c
noncomputable def iw:List PV->List Bool->Bool
 |p :: ps,b :: bs=>(b||clean p)&&iw ps bs
 |_,_=>true
theorem oD{p ps b bs}:iw (p :: ps) (b :: bs)=((b||clean p)&&iw ps bs):=rfl
section
variable{B:aX}{nm:Nat->Str}{N:Nat}{Φ:fA}{K:Nat}
theorem jH:∀{ts:List (Nat×Pos)} {ps:List PV} {bs:List Bool} {σ σ':aF},hU σ ts ps bs=some σ'->iw ps bs=true/\ts.length=ps.length
 |[],[],[],_,_,_=>⟨rfl,rfl⟩
 |t :: ts,p :: ps,b :: bs,σ,σ',e=>by
  cases b with
  |true=>
   cases p<;>try exact nS e
   rename_i xs
   refine cL (jH (show hU (σ.set t.1 (some (.own xs))) ts ps bs=some σ' from e)) λh1 h2=>?_;exact⟨by assumption,by simp[h2]⟩
  |false=>refine bA (show aw (clean p) _=some σ' from e) λc e=>?_;refine cL (jH e) λh1 h2=>?_;exact⟨by simp[oD,h1,c],by simp[h2]⟩
theorem gE.fresh{C:Cx}{h₀ h:Heap}{ps bs ws as}(o:gE C h₀ h ps bs ws as):∀a∈as,h₀.get? a=none/\C.F a:=by
 induction o with
 |nil=>intro a ha;cases ha
 |own f n _ _ _ _ _ ih=>intro a ha;rcases ah.mp ha with rfl|ha;exact⟨n,f⟩;exact ih a ha
 |val _ _ _ ih=>exact ih
theorem gE.base{C:Cx}{h₀ h₁ h:Heap}{ps bs ws as}(hb:∀a,C.F a->h₀.get? a=none->h₁.get? a=none)(o:gE C h₀ h ps bs ws as):gE C h₁ h ps bs ws as:=by
 induction o with
 |nil=>exact .nil
 |own f n gg r c na _ ih=>exact .own f (hb _ f n) gg r c na ih
 |val c r _ ih=>exact .val c r ih
theorem y7:∀{a:E},a.isList=true->∃es p,a=.list es p:=by
 intro a h;cases a with
 |list es p=>exact⟨es,p,rfl⟩
 |_=>exact fT h
noncomputable def G6(B:aX)(nm:Nat->Str)(N:Nat)(Φ:fA)(K:Nat)(es:E):Prop:=∀{ow:List Bool} {ns:gM} {sc:SC} {C:Cx} {A:Around} {env:Env} {σ:aF} {mt:List (Nat×Addr)} {T:aC} {s:Shared} {ps:List PV×aC} {pos:Pos} {Q:List Value->Shared->Prop},
  mj es ow=true->iw ps.1 ow=true->es.ok nm N ns sc=true->fi B K N A env ns σ->(es.sm Φ).evs σ T=some ps->At B C env nm sc σ mt T s.heap ->
  (∀C' vs s' as,bC C s.heap C'->a9 C.hl s s'->At B C' env nm sc σ mt ps.2 s'.heap->gE C' s.heap s'.heap ps.1 ow vs as->Q vs s') ->
  WP B A (spliced (backTo pos (starEach (es.toEs nm) env))) Q s
theorem Dn(P:bV B Φ K)(hK:1<=K):∀es:E,G6 B nm N Φ K es:=by
 refine E.lrec ?_ λX n=>?_
 ·intro a b ihb ow ns sc C A env σ mt T s ps pos Q how hp ok F e Y h;refine bE e λx ex e=>?_;refine mE e λy ey qq=>?_;subst qq;replace ok:=a2 ok;rw[mr ..];rw[kE ..];refine(?_:WP B A (spliced ((false,eval (a.toE nm) env) :: backTo pos (starEach (b.toEs nm) env))) Q s);refine df ?_;cases ow with
  |nil=>exact fT how
  |cons f bs=>
   simp only[oD,cC,Bool.or_eq_true]at hp;cases f with
   |false=>
    have hb:mj b bs=true:=how;have cx:clean x.1=true:=by simpa using hp.1
    refine(bo P hK a).v ok.1 F ex Y λv s1 x1 Y1 r1=>ihb hb hp.2 ok.2 F ey Y1 λC' vs s2 as g x2 Y2 o=>?_;refine h C' (v :: vs) s2 as (bC.trans (.refl _ _) (x1.chgAt Y1) g) (x1.trans x2) Y2 (.val cx (r1.grow g x2 cx) ?_);refine o.base λz f n=>?_;cases e:s.heap.get? z with
    |none=>rfl
    |some ob=>exact absurd n (ak (x1.keep z ob (λl=>Y2.sim.vol.lf _ (show C'.hl=some _ from g.hl.trans l) f) e))
   |true=>
    refine eV (y7 (a2 how).1) λes' lp q1q=>?_;subst q1q;refine bE ex λzs ez ex=>?_;refine bA ex λcz ex=>?_;refine jF ex λgz ex=>?_;replace ex:=iS ex;subst ex;refine wpAny_List ((bo P hK es').l ok.1 F ez Y λvs s1 x1 Y1 r1=>⟨by rw[r1.length];exact gz,?_⟩);refine km (Y1.newOwn cz r1) λY2 r2 g2=>?_;have xl:a9 C.hl s1 { s1 with heap:=s1.heap.push (aT vs 0) }:=(a9.lay' (s:=s1)).up;have gl:({ s1 with heap:=s1.heap.push (aT vs 0) }:Shared).heap.get? s1.heap.objs.size=some (aT vs 0):=cZ _ rfl;refine ihb (C:=C.add s1.heap.objs.size) (s:={ s1 with heap:=s1.heap.push (aT vs 0) }) (a2 how).2 hp.2 ok.2 F ey Y2 λC' ws s3 as g x3 Y3 o=>?_;have nl:C.hl≠some s1.heap.objs.size:=(Y1.live.new (aV _)).2.2;have ga:=x3.keep s1.heap.objs.size _ nl gl;have fa:C'.F s1.heap.objs.size:=g.sub _ (.inr rfl);have na:s1.heap.objs.size∉as:=λq=>by have:=(o.fresh _ q).1;replace this:=gl▸this;exact sN this
    have back:∀{z:Addr},C'.F z->s1.heap.get? z=none->s.heap.get? z=none:=λ{z} f n=>by
     cases e:s.heap.get? z with
     |none=>rfl
     |some ob=>exact absurd n (ak (x1.keep _ ob (λl=>Y3.sim.vol.lf _ (show C'.hl=some _ from g.hl.trans l) f) e))
    refine h C' (.ref s1.heap.objs.size :: ws) s3 (s1.heap.objs.size :: as) ?_ ((x1.trans xl).trans x3) Y3 (.own fa (back fa (aV _)) ga (r2.grow g x3 cz) cz na ?_)
    ·exact bC.trans (.refl _ _) (x1.chgAt Y1) (bC.trans g2 (xl.chg λa l=>Y2.sim.vol.liveL a l) g)
    ·refine o.base λz f n=>back f ?_;cases e:s1.heap.get? z with
     |none=>rfl
     |some ob=>exact absurd n (ak (bK _ e))
 ·intro ow ns sc C A env σ mt T s ps pos Q how hp ok F e Y h;rcases n.2.2 with rfl|n
  ·obtain rfl:=iS e;cases ow with
   |nil=>exact wpAny_pure (h C [] s [] (.refl _ _) (.refl _ _) Y .nil)
   |cons _ _=>exact fT how
  ·replace e:=(n ..)▸e;exact nS e
end
section
variable{B:aX}{nm:Nat->Str}{N:Nat}{Φ:fA}{K:Nat}
theorem gE.chg{C:Cx}{h₀:Heap}{s s':Shared}(c:eR C s s')(l:ug s s'){ps bs ws as}(o:gE C h₀ s.heap ps bs ws as):gE C h₀ s'.heap ps bs ws as:=by
 induction o with
 |nil=>exact .nil
 |own f n gg r cl na _ ih=>exact .own f n (l _ _ _ gg) (r.stay cl λa o _ f l e=>c.keep a o f l e) cl na ih
 |val cl r _ ih=>exact .val cl (r.move (λa o x f l e=>⟨x,f,l,c.keep a o f l e⟩) (λ_ e=>e) cl) ih
theorem AB{C:Cx}{A:Around}{env:Env}{sc:SC}{h₀:Heap}(hn:bU nm sc):∀(ts:List (Nat×Pos)) {ps:List PV} {bs:List Bool} {ws:List Value} {as:List Addr} {σ σ':aF} {mt:List (Nat×Addr)} {s:Shared} {Q:aJ Unit},
  hU σ ts ps bs=some σ'->dY B C env nm sc σ mt s.heap->σ.length=N->(∀t∈ts,t.1<N/\∃c,c≠.cap/\(t.1,c)∈sc)->gE C h₀ s.heap ps bs ws as->(∀a∈as,a∉mt.map (·.2)) ->
  (∀s' mt',dY B C env nm sc σ' mt' s'.heap->σ'.length=N->eR C s s'->ug s s'->Q () s')->WP B A (assignInOrder ((assignEach (tN nm ts) env).map (·.2)) ws) Q s:=by
 intro ts
 induction ts with
 |nil=>
  intro ps bs ws as σ σ' mt s Q e S hl _ o _ h;cases o with
  |nil=>replace e:=iS e;subst e;exact wpAny_assignInOrder_none (h s mt S hl (.refl _ _) λ_ _ _ e=>e)
  |own=>exact nS e
  |val=>exact nS e
 |cons t ts ih=>
  intro ps bs ws as σ σ' mt s Q e S hl ht o hm h;obtain⟨h1,k,hk,hi⟩:=ht t bW;cases o with
  |nil=>exact nS e
  |own f n gg r cl na o'=>
   refine wpAny_assignInOrder_more (wpAny_assign_Name (S.store (av:=.own _) hi hn (hl▸h1) hk ⟨cl,_,_,_,rfl,f,hm _ bW,gg,r⟩ λs1 S1 c1 l1=>?_));refine ih (show hU (σ.set t.1 (some (.own _))) ts _ _=some σ' from e) S1 (by simpa using hl) (λt' h'=>ht t' (bZ _ h')) (o'.chg c1 l1) (λa ha q=>?_) λs2 mt2 S2 n2 c2 l2=>h s2 mt2 S2 n2 (c1.trans c2) λa vs n e=>l2 a vs n (l1 a vs n e);simp only[vi,bh]at q;rcases ah.mp q with q|q
   ·exact na (q▸ha)
   ·refine aP (cH.mp q) λz hz ez=>?_;exact hm a (bZ _ ha) (cH.mpr ⟨z,(cf.mp hz).1,ez⟩)
  | @val p _ _ _ _ _ cl r o'=>refine bA (show aw (clean p) _=some σ' from e) λc e=>?_;refine wpAny_assignInOrder_more (wpAny_assign_Name (S.store (av:=.val p) hi hn (hl▸h1) hk ⟨c,r⟩ λs1 S1 c1 l1=>?_));refine ih e S1 (by simpa using hl) (λt' h'=>ht t' (bZ _ h')) (o'.chg c1 l1) (λa ha q=>?_) λs2 mt2 S2 n2 c2 l2=>h s2 mt2 S2 n2 (c1.trans c2) λa vs n e=>l2 a vs n (l1 a vs n e);refine aP (cH.mp q) λz hz ez=>?_;exact hm a ha (cH.mpr ⟨z,(cf.mp hz).1,ez⟩)
theorem gE.len{C:Cx}{h₀ h:Heap}{ps bs ws as}(o:gE C h₀ h ps bs ws as):ws.length=ps.length:=by
 induction o with
 |nil=>rfl
 |own _ _ _ _ _ _ _ ih=>simp[ih]
 |val _ _ _ ih=>simp[ih]
theorem gE.push{C:Cx}{h₀ h h':Heap}(hk:∀a o,h.get? a=some o->h'.get? a=some o){ps bs ws as}(o:gE C h₀ h ps bs ws as):gE C h₀ h' ps bs ws as:=by
 induction o with
 |nil=>exact .nil
 |own f n gg r cl na _ ih=>exact .own f n (hk _ _ gg) (r.keep λa o _ e=>hk a o e) cl na ih
 |val cl r _ ih=>exact .val cl (r.keep λa o _ e=>hk a o e) ih
theorem gE.vals{C:Cx}{h₀ h:Heap}{ps bs ws as}(o:gE C h₀ h ps bs ws as)(hb:(bs.all λb=> !b)=true):aH C h ps ws/\aA ps=true:=by
 induction o with
 |nil=>exact⟨rfl,rfl⟩
 |own _ _ _ _ _ _ _ _=>simp at hb
 |val c r _ ih=>refine cL (ih (by simpa using hb)) λh1 h2=>?_;exact⟨⟨_,_,rfl,r,h1⟩,by simp[bb,bR,c,h2]⟩
theorem nV:∀{ts:List (Nat×Pos)} {ps:List PV} {bs:List Bool} {σ σ':aF},(bs.all λb=> !b)=true->hU σ ts ps bs=some σ'->aq σ ts ps=some σ'
 |[],[],[],_,_,_,e=>e
 |t :: ts,p :: ps,b :: bs,σ,σ',hb,e=>by simp only[List.all_cons,cC,kJ]at hb;refine cL hb ?_;clear hb;intro q1q hb;subst q1q;refine bA (show aw (clean p) _=some σ' from e) λc e=>?_;refine(?_:aw (clean p) _=some σ');rw[c];exact nV hb e
theorem uU{ts:List (Nat×Pos)}{ps:List PV}{σ σ':aF}(hd:dS nm ts=true)(hl:ts.length=2\/ts.length=3)(e:aq σ ts ps=some σ'):aq σ ts.reverse ps.reverse=some σ':=by
 have ne:∀x y:Nat×Pos,(nm x.1==nm y.1)=false->x.1≠y.1:=λx y h q=>by replace h:=q▸h;simp at h
 rcases ts with _|⟨t1,_|⟨t2,_|⟨t3,_|⟨t4,r⟩⟩⟩⟩
 ·simp at hl
 ·simp at hl
 ·rcases ps with _|⟨p1,_|⟨p2,_|⟨p3,r⟩⟩⟩
  ·exact nS e
  ·refine cL (eO e) λc1 e=>?_;exact nS e
  ·refine bA e λc1 e=>?_;refine bA e λc2 e=>?_;replace e:=iS e;subst e;have h12:=ne t1 t2 (by simpa[no,jm]using hd);refine(?_:aw (clean p2) (aw (clean p1) (some ((σ.set t2.1 (some (.val p2))).set t1.1 (some (.val p1)))))=_);rw[c1];rw[c2];rw[List.set_comm _ _ (Ne.symm h12)];rfl
  ·refine bA e λc1 e=>?_;refine bA e λc2 e=>?_;exact nS e
 ·rcases ps with _|⟨p1,_|⟨p2,_|⟨p3,_|⟨p4,r⟩⟩⟩⟩
  ·exact nS e
  ·refine cL (eO e) λc1 e=>?_;exact nS e
  ·refine bA e λc1 e=>?_;refine bA e λc2 e=>?_;exact nS e
  ·refine bA e λc1 e=>?_;refine bA e λc2 e=>?_;refine bA e λc3 e=>?_;replace e:=iS e;subst e;have d:(nm t1.1==nm t2.1)=false/\(nm t1.1==nm t3.1)=false/\(nm t2.1==nm t3.1)=false:=by simpa[no,jm,and_assoc]using hd
   have h12:=ne t1 t2 d.1;have h13:=ne t1 t3 d.2.1;have h23:=ne t2 t3 d.2.2;refine(?_:aw (clean p3) (aw (clean p2) (aw (clean p1) (some (((σ.set t3.1 (some (.val p3))).set t2.1 (some (.val p2))).set t1.1 (some (.val p1))))))=_);rw[c1];rw[c2];rw[c3];have e1:((σ.set t3.1 (some (AV.val p3))).set t2.1 (some (.val p2))).set t1.1 (some (.val p1))=((σ.set t1.1 (some (.val p1))).set t2.1 (some (.val p2))).set t3.1 (some (.val p3)):=by rw[List.set_comm (some (AV.val p3)) (some (AV.val p2)) h23.symm];rw[List.set_comm (some (AV.val p3)) (some (AV.val p1)) h13.symm];rw[List.set_comm (some (AV.val p2)) (some (AV.val p1)) h12.symm];rfl
   rw[e1];rfl
  ·refine bA e λc1 e=>?_;refine bA e λc2 e=>?_;refine bA e λc3 e=>?_;exact nS e
 ·simp at hl
end
section
variable{B:aX}{nm:Nat->Str}{N:Nat}{Φ:fA}{K:Nat}
theorem vm{C:Cx}{A:Around}{env:Env}{sc:SC}(hn:bU nm sc):∀(ts:List (Nat×Pos)) {ps:List PV} {vs:List Value} {σ σ':aF} {mt:List (Nat×Addr)} {s:Shared} {Q:aJ Unit},
  aq σ ts ps=some σ'->dY B C env nm sc σ mt s.heap->σ.length=N->(∀t∈ts,t.1<N/\∃c,c≠.cap/\(t.1,c)∈sc)->aH C s.heap ps vs->aA ps=true ->
  (∀s' mt',dY B C env nm sc σ' mt' s'.heap->σ'.length=N->eR C s s'->ug s s'->Q () s')->WP B A (assignInOrder (ts.map λt=>bindName env (nm t.1)) vs) Q s:=by
 intro ts
 induction ts with
 |nil=>
  intro ps vs σ σ' mt s Q e S hl _ r _ h;cases ps with
  |nil=>replace e:=iS e;subst e;cases r;exact wpAny_assignInOrder_none (h s mt S hl (.refl _ _) λ_ _ _ e=>e)
  |cons _ _=>exact nS e
 |cons t ts ih=>
  intro ps vs σ σ' mt s Q e S hl ht r hc h;cases ps with
  |nil=>exact nS e
  |cons p ps=>refine bA e λc e=>?_;obtain⟨v,w,rfl,r1,r2⟩:=r;obtain⟨h1,k,hk,hi⟩:=ht t bW;simp only[bb,bR,cC]at hc;refine wpAny_assignInOrder_more (wpAny_bindName (S.store (av:=.val p) hi hn (hl▸h1) hk ⟨c,r1⟩ λs1 S1 c1 l1=>?_));refine ih e S1 (by simpa using hl) (λt' h'=>ht t' (bZ _ h')) ?_ hc.2 λs2 mt2 S2 n2 c2 l2=>h s2 mt2 S2 n2 (c1.trans c2) λa vs n e=>l2 a vs n (l1 a vs n e);exact r2.move (λa o x f l g=>⟨x,f,l,c1.keep a o f l g⟩) (λ_ e=>e) hc.2
theorem aH.rev{C:Cx}{h:Heap}:∀{ps:List PV} {vs:List Value},aH C h ps vs->aH C h ps.reverse vs.reverse
 |[],_,r=>by cases r;exact rfl
 |p :: ps,_,r=>by obtain⟨v,w,rfl,r1,r2⟩:=r;rw[List.reverse_cons];rw[List.reverse_cons];exact r2.rev.append ⟨v,[],rfl,r1,rfl⟩
theorem py:∀(ps:List PV),aA ps.reverse=aA ps
 |[]=>rfl
 |p :: ps=>by rw[List.reverse_cons];rw[cW ..];rw[py ps];simp[bb,bR,Bool.and_comm]
theorem vq(P:bV B Φ K)(hK:1<=K){ts:List (Nat×Pos)}{k:Nat}{tp:Pos}{es:E}{ow:List Bool}{ek:Nat}{ep p:Pos}:eP B nm N Φ K (.unpackD ts k tp es ow ek ep p):=by
 intro ns sc C A env σ mt T s o Q ok hn F EO ex Y h;refine bE ex λr er ex=>?_;refine bA ex λhow ex=>?_;refine jF ex λgz ex=>?_;refine aP (sA.mp ex) λσ' eb q1q=>?_;subst q1q;replace ok:=a4 ok;refine kH ok ?_;clear ok;intro okt oke okd oks;refine cL (jH eb) λhpl hlen=>?_;have hsl:=vd okt;have hslots:∀t∈ts,t.1<N/\∃c,c≠.cap/\(t.1,c)∈sc:=λt ht=>hsl t.1 (dJ ht);have hsw:(!(mR nm ns ts es) || !((es.toEs nm).all (constantsAlone 8)))=true:=by
  cases hq:mR nm ns ts es with
  |false=>rfl
  |true=>replace oks:=hq▸oks;simp only[Bool.not_true,Bool.false_or,cC]at oks;rw[oks.2];rfl
 have hwr:=wD (k:=k) (ek:=ek) (tp:=tp) (ep:=ep) (env:=env) EO okd hsw;refine(?_:WP B A (exec (.Assign [.Tuple (tN nm ts) k tp] (.Tuple (es.toEs nm) ek ep) p) env) Q s);have tup:∀{Q':aJ Value},(∀C' vs s1 as,bC C s.heap C'->eR C s s1->At B C' env nm sc σ mt r.2 s1.heap->gE C' s.heap s1.heap r.1 ow vs as->s1.heap.IsTuple s1.heap.objs.size.pred vs.toArray->Q' (.ref s1.heap.objs.size.pred) s1) ->
   WP B A (eval (.Tuple (es.toEs nm) ek ep) env) Q' s:=λ{Q'} hq=>
  wpAny_Tuple (Dn P hK _ how hpl oke F er Y λC' vs s1 as g x1 Y1 o1=>⟨by rw[o1.len];exact gz,by
   have Y2:=Y1.kept (s':={ s1 with heap:=s1.heap.push (eg vs 0) }) .lay';have c1:eR C s s1:=x1.chg λa l=>Y1.sim.vol.liveL a (g.hl.trans l);have c2:eR C s { s1 with heap:=s1.heap.push (eg vs 0) }:=c1.trans ((a9.lay' (s:=s1) (o:=eg vs 0)).up.chg λa l=>Y2.sim.vol.liveL a (g.hl.trans l));have hsz:(s1.heap.push (eg vs 0)).objs.size.pred=s1.heap.objs.size:=by simp[Heap.push]
   have:=hq C' vs { s1 with heap:=s1.heap.push (eg vs 0) } as g c2 Y2 (o1.push λa o e=>bK _ e) ⟨_,by rw[hsz];exact cZ _ rfl,rfl,_,rfl⟩;replace this:=hsz▸this;exact this⟩)
 cases hq:mR nm ns ts es with
 |false=>
  replace hwr:=hq▸hwr;refine wpAny_Assign_stores (tup λC' vs s1 as g c1 Y1 o1 ht=>?_) rfl hwr;refine(?_:WP B A (assign (.Tuple (tN nm ts) k tp) env (.ref _)) (λ_=>Q .next) s1);have hl2:ts.length=vs.length:=by rw[hlen];rw[o1.len];rfl
  refine wpAny_assign_Tuple F.fine.hd ht (by rw[(dU ts).1];simpa using hl2) (dU ts).2 λh' hx=>?_;have x1:a9 none s1 { s1 with heap:=h' }:=⟨rfl,rfl,rfl,λb o _ eb=>hx b o (λq=>by subst q;replace eb:=(aV ..)▸eb;exact nS eb) eb⟩;have Y2:=Y1.kept x1;have c2:eR C' s1 { s1 with heap:=h' }:=x1.up.chg λb lb=>Y2.sim.vol.liveL b lb;refine AB (s:={ s1 with heap:=h' }) hn ts eb Y2.sim F.len hslots (o1.push λa o e=>x1.all a o e) (λa ha q=>?_) λs2 mt2 S2 n2 c3 l3=>?_
  ·obtain⟨⟨j,b⟩,hj,e⟩:=cH.mp q;have hbe:b=a:=e;subst hbe;exact Y.sim.vol.liveF b (Y.sim.mF j b hj) (o1.fresh b ha).1
  ·refine h C' .next s2 mt2 g (c1.grow g (c2.trans c3)) ⟨S2,Y2.tab.chg c3 l3⟩ n2 rfl
 |true=>
  rw[hq]at hwr oks;replace hwr:=if_pos rfl▸hwr;simp only[Bool.not_true,Bool.false_or,cC]at oks;refine PyProof.Rows.Assign_Tuple_swapped (names:=ts.map λt:Nat×Pos=>nm t.1) (tup λC' vs s1 as g c1 Y1 o1 ht=>?_) rfl hwr;have hl2:ts.length=vs.length:=by rw[hlen];rw[o1.len];rfl
  rw[lH ..];rw[hl2];rw[show vs.length=vs.toArray.size by simp];refine wpAny_unpackItems_tuple F.fine.hd ht λh' hx=>?_;have x1:a9 none s1 { s1 with heap:=h' }:=⟨rfl,rfl,rfl,λb o _ eb=>hx b o (λq=>by subst q;replace eb:=(aV ..)▸eb;exact nS eb) eb⟩;have Y2:=Y1.kept x1;have c2:eR C' s1 { s1 with heap:=h' }:=x1.up.chg λb lb=>Y2.sim.vol.liveL b lb;refine cL ((o1.push (h':=h') λa o e=>x1.all a o e).vals oks.1) λrv cv=>?_;have h23:ts.length=2\/ts.length=3:=by simp only[mR,cC,Bool.or_eq_true,beq_iff_eq]at hq;exact hq.1.1.1
  have e1:((ts.map λt=>nm t.1).reverse.map λn=>bindName env n)=ts.reverse.map λt=>bindName env (nm t.1):=by simp
  rw[e1];refine vm (s:={ s1 with heap:=h' }) hn ts.reverse (uU okd h23 (nV oks.1 eb)) Y2.sim F.len (λt ht=>hslots t (List.mem_reverse.mp ht)) (by simpa using rv.rev) (by rw[py ..];exact cv) λs2 mt2 S2 n2 c3 l3=>?_;exact h C' .next s2 mt2 g (c1.grow g (c2.trans c3)) ⟨S2,Y2.tab.chg c3 l3⟩ n2 rfl
end
section
variable{B:aX}{nm:Nat->Str}{N:Nat}{Φ:fA}{K:Nat}
noncomputable def EL(B:aX)(A:Around)(R:aJ Result)(target:Expr)(it:Value)(body orelse:List Stmt)(env:Env)(I:aJ Nat)(n:Nat)(s:Shared):Prop:=
 WP B A (pyNext it) (Nd λs₁=>WP B A (execs orelse env) (λf s₃=>R (.ok f) s₃) s₁) s\/WP B A (pyNext it) (Nx λv s₁=>WP B A (letOwnedTupleGo target it v) (λ_ s₁'=>
    WP B A (assign target env v) (λ_ s₂=>WP B A (execs body env) (λf s₃=>match f with
     |.next|.cont=>∃m,m<n/\I m s₃
     |.brk=>R (.ok .next) s₃
     |.ret v=>R (.ok (.ret v)) s₃) s₂) s₁') s₁) s
theorem xI{A:Around}{R:aJ Result}{target:Expr}{it:Value}{body orelse:List Stmt}{env:Env}(I:aJ Nat)
  (turn:∀n s,I n s->EL B A R target it body orelse env I n s)
  (n:Nat) (s:Shared) (h:I n s):codeAny (model B.prog B.w) A (.forLoop target it body orelse env) R s:=by
 refine codeAny_forLoop_any I (λn s hI=>?_) n h;rcases turn n s hI with h|h
 ·refine wpAny_mono h (λr s₁ h₁=>?_) λ_ _ f=>f.elim;cases r with
  |none=>exact wpAny_mono (show WP B A _ _ _ from h₁) (λ_ _ x=>x) λ_ _ f=>f.elim
  |some v=>exact h₁.elim
 refine wpAny_mono h (λr s₁ h₁=>?_) λ_ _ f=>f.elim;cases r with
 |none=>exact h₁.elim
 |some v=>refine wpAny_mono (show WP B A _ _ _ from h₁) (λ_ s₁' h₁'=>?_) λ_ _ f=>f.elim;refine wpAny_mono h₁' (λ_ s₂ h₂=>?_) λ_ _ f=>f.elim;exact wpAny_mono h₂ (λ_ _ x=>x) λ_ _ f=>f.elim
theorem an.dropXv{C:Cx}{h:Heap}{W:Addr->Prop}{p:PV}{v:Value}(r:an (C.addX W) h p v):an C h p v:=
 r.map (C:=C.addX W) (V:=True) (λa o x f l e=>⟨λq=>x (.inl q),f,l,e⟩) (λa o _ x l e=>⟨λq=>x (.inl q),l,e⟩) (λ_ e=>e) (.inl trivial)
theorem Hr.dropX{C:Cx}{h:Heap}{W:Addr->Prop}{fl:Fl}{f:Flow}(r:Hr (C.addX W) h fl f):Hr C h fl f:=by
 cases fl with
 |next=>exact r
 |brk=>exact r
 |ret p=>refine aP r ?_;clear r;intro v e q;exact⟨v,e,q.dropXv⟩
structure jV(B:aX)(C₀:Cx)(hb:Shared)(W:Addr->Prop)(St:Nat->Heap->Prop)(env:Env)(nm:Nat->Str)(sc:SC)(N:Nat)(C:Cx)(i:Nat)(σ:aF)(mt:List (Nat×Addr))(T:aC)(s:Shared):Prop where
 grow:bC (C₀.addX W) hb.heap C
 at':At B C env nm sc σ mt T s.heap
 len:σ.length=N
 st:St i s.heap
 gens:s.gens=hb.gens
 drawn:s.drawn=hb.drawn
 os:s.os=hb.os
 keep:∀a o,¬C₀.F a->¬W a->C₀.hl≠some a->hb.heap.get? a=some o->s.heap.get? a=some o
 live:∀a,¬W a->hb.heap.get? a≠none->s.heap.get? a≠none
theorem jV.next{C₀:Cx}{hb:Shared}{A:Around}{tup:Bool}{W:Addr->Prop}{xs:List PV}{I:Value}{St:Nat->Heap->Prop}{env:Env}{sc:SC}{C C':Cx}{i:Nat}{σ σ':aF}{mt mt':List (Nat×Addr)}{T T':aC}{s s':Shared}
  (IT:It B (C₀.addX W) hb.heap A tup W xs I St) (Z:jV B C₀ hb W St env nm sc N C i σ mt T s) (g:bC C s.heap C') (c:eR C s s') (Y:At B C' env nm sc σ' mt' T' s'.heap) (n:σ'.length=N):jV B C₀ hb W St env nm sc N C' i σ' mt' T' s' where
 grow:=⟨g.x.trans Z.grow.x,g.hl.trans Z.grow.hl,g.ta.trans Z.grow.ta,λa f=>g.sub a (Z.grow.sub a f),λa f=>(g.f a f).elim (Z.grow.f a) λe=>by
  by_cases w:W a
  ·exact absurd e (IT.live _ _ Z.st a w)
  ·refine .inr ?_;cases q:hb.heap.get? a with
   |none=>rfl
   |some o=>exact absurd e (Z.live a w (by rw[q];exact λq=>nomatch q))⟩
 at':=Y
 len:=n
 st:=IT.frame C Z.grow i _ _ Z.st c.keep
 gens:=c.gens.trans Z.gens
 drawn:=c.drawn.trans Z.drawn
 os:=c.os.trans Z.os
 keep:=λa o f w l e=>c.keep a o (λq=>(Z.grow.f a q).elim f λn=>by replace n:=e▸n;exact sN n) (λq=>l (Z.grow.hl▸q)) (Z.keep a o f w l e)
 live:=λa w e=>c.live a (Z.live a w e)
theorem jV.out{C₀:Cx}{hb:Shared}{W:Addr->Prop}{St:Nat->Heap->Prop}{env:Env}{sc:SC}{C:Cx}{i:Nat}{σ:aF}{mt:List (Nat×Addr)}{T:aC}{s s':Shared}
  (Z:jV B C₀ hb W St env nm sc N C i σ mt T s) (o:IV W s s') (hcW:∀x a,env.cells.lookup x=some a->¬W a) (hXW:∀a,C₀.X a->¬W a):
  ∃C':Cx,C=C'.addX W/\bC C₀ hb.heap C'/\At B C' env nm sc σ mt T s'.heap:=by
 obtain⟨X,F,hl,ta⟩:=C;have hx:X=λa=>C₀.X a\/W a:=Z.grow.x;subst hx;refine⟨⟨C₀.X,F,hl,ta⟩,rfl,⟨rfl,Z.grow.hl,Z.grow.ta,Z.grow.sub,Z.grow.f⟩,?_,?_⟩
 ·exact Z.at'.sim.dropX (C:=⟨C₀.X,F,hl,ta⟩) hcW hXW o.keep
 ·exact(Z.at'.tab.step (λa w=>.inl (.inr w)) (λl q w=>Z.at'.sim.vol.lx l q (.inr w)) o.keep).dropX (C:=⟨C₀.X,F,hl,ta⟩)
theorem xb{tg:Tg}{body els:Ex}{x:PV}{xs:List PV}{σ:aF}{T:aC}{o:AE}(e:cU tg body els (x :: xs) σ T=some o):
  ∃σ1 o1,cN σ tg x=some σ1/\body σ1 T=some o1/\((o1.fl=.next/\cU tg body els xs o1.σ o1.T=some o)\/(o1.fl=.brk/\o=⟨.next,o1.σ,o1.T⟩)\/∃p,o1.fl=.ret p/\o=⟨.ret p,o1.σ,o1.T⟩):=by
 refine aP (Option.bind_eq_some_iff.mp e) λσ1 e1 e=>?_;refine bE e λo1 e2 e=>?_;refine⟨σ1,o1,e1,e2,?_⟩;cases hf:o1.fl with
 |next=>replace e:=hf▸e;exact .inl ⟨rfl,e⟩
 |brk=>replace e:=hf▸e;replace e:=iS e;subst e;exact .inr (.inl ⟨rfl,rfl⟩)
 |ret p=>replace e:=hf▸e;replace e:=iS e;subst e;exact .inr (.inr ⟨p,rfl,rfl⟩)
theorem yG{tg:Tg}{srcX:Expr}{body els:S}{p:Pos}(hbody:iL B nm N Φ K body)(hels:iL B nm N Φ K els){ns:gM}{sc:SC}{C:Cx}{A:Around}{env:Env}{σ:aF}{mt:List (Nat×Addr)}{T:aC}{s:Shared}{o:AE}{Q:aJ Flow}{tup:Bool}{xs:(List PV×Bool)×aC}
  (hset:∀x,foldedSetIterable srcX env x=pure x)
  (hsrc:∀{Q':aJ Value},(∀it s₁ s',a9 C.hl s s₁->At B C env nm sc σ mt xs.2 s₁.heap->a9 none s₁ s'->fe B C A s₁ s' tup xs.1.2 xs.1.1 it->Q' it s')->WP B A (eval srcX env) (λv s₁=>WP B A (pyIter v) Q' s₁) s)
  (hfix:xs.1.2=true) (ht:∀i∈en tg,i<N/\∃c,c≠.cap/\(i,c)∈sc) (hone:(nY tg&&tup)=false) (okb:body.ok nm N ns sc=true) (oke:els.ok nm N ns sc=true)
  (hn:bU nm sc) (F:fi B K N A env ns σ) (EO:bl env ns) (ex:cU tg (body.ex Φ) (els.ex Φ) xs.1.1 σ xs.2=some o) (Y:At B C env nm sc σ mt T s.heap) (h:qu B nm N C env sc s o Q):
  WP B A (exec (.For (tg.toE nm) srcX (body.toSs nm) (els.toSs nm) p) env) Q s:=by
 refine(?_:WP B A (exec (.For (tg.toE nm) (srcX) (body.toSs nm) (els.toSs nm) p) env) Q s);refine wpAny_For (hsrc λit s1 s2 x1 Y1 x2 RD=>?_) hset;refine vh RD ?_;clear RD;intro W fp hW hfp cxs mk;have Y2:At B C env nm sc σ mt xs.2 s2.heap:=Y1.kept x2;have Y3:dY B (C.addX W) env nm sc σ mt s2.heap:=Y1.sim.addX (λa o _ e=>x2.all a o e) (λa l=>Y2.sim.vol.liveL a l) hW;have T3:aU (C.addX W) xs.2 s2.heap:=(Y1.tab.addX λa w=>(hW a w).1).kept x2;refine aP (mk (C.addX W) rfl (λa w=>.inr w) (λa ha=>(hfp a ha).2.2 hfix) λp v c r=>(r.addX (λa w=>(hW a w).1) c).keep (C:=C.addX W) λa o _ e=>x2.all a o e) λSt st0 IT=>?_;have hcW:∀x a,env.cells.lookup x=some a->¬W a:=λx a e w=>(Y1.sim.cF x a e).elim (λq=>Y1.sim.vol.liveF a q (hW a w).1) λq=>Y1.sim.vol.liveX a q (hW a w).1;have hXW:∀a,C.X a->¬W a:=λa x w=>Y1.sim.vol.liveX a x (hW a w).1;have z0:jV B C s2 W St env nm sc N (C.addX W) 0 σ mt xs.2 s2:=⟨.refl _ _,⟨Y3,T3⟩,F.len,st0,rfl,rfl,rfl,λ_ _ _ _ _ e=>e,λ_ _ e=>e⟩;have c2:eR C s s2:=(x1.trans x2.up).chg λa l=>Y2.sim.vol.liveL a l;have fin:∀{C1 C2:Cx} {s3 s4:Shared} {i:Nat} {σ1:aF} {mt1:List (Nat×Addr)} {T1:aC},jV B C s2 W St env nm sc N C1 i σ1 mt1 T1 s3->IV W s3 s4->bC C s2.heap C2->bC C s.heap C2/\eR C s s4:=λ{C1 C2 s3 s4 i σ1 mt1 T1} Z ow g=>by
  have nW:∀a o,C.hl≠some a->s.heap.get? a=some o->¬W a:=λa o l e w=>by have:=x1.keep a o l e;replace this:=(hW a w).1▸this;exact nS this
  refine⟨bC.trans (.refl _ _) c2 g,ow.gens.trans (Z.gens.trans c2.gens),ow.drawn.trans (Z.drawn.trans c2.drawn),ow.os.trans (Z.os.trans c2.os),λa o f l e=>ow.keep a o (nW a o l e) (Z.keep a o f (nW a o l e) l (c2.keep a o f l e)),λa q=>?_⟩;have w:¬W a:=by
   by_cases l:C.hl=some a
   ·exact λw=>Y1.sim.vol.liveL a l (hW a w).1
   ·cases e:s.heap.get? a with
    |none=>exact absurd e q
    |some o=>exact nW a o l e
  have:=Z.live a w (c2.live a q);cases e:s3.heap.get? a with
  |none=>exact absurd e this
  |some o=>rw[ow.keep a o w e];exact λq=>nomatch q
 obtain⟨J,jI,jE⟩:∃J:aJ Nat,(∀i σ1 T1 C1 mt1 s',i<=xs.1.1.length->jV B C s2 W St env nm sc N C1 i σ1 mt1 T1 s'->cU tg (body.ex Φ) (els.ex Φ) (xs.1.1.drop i) σ1 T1=some o->J (xs.1.1.length+1-i) s') /\
   ∀G:aJ Nat,(∀i σ1 T1 C1 mt1 s',i<=xs.1.1.length->jV B C s2 W St env nm sc N C1 i σ1 mt1 T1 s'->cU tg (body.ex Φ) (els.ex Φ) (xs.1.1.drop i) σ1 T1=some o->G (xs.1.1.length+1-i) s')->∀k s,J k s->G k s:=
  ⟨λk s=>∀G:aJ Nat,_->G k s,λi σ1 T1 C1 mt1 s' a b c G h=>h i σ1 T1 C1 mt1 s' a b c,λG h k s j=>j G h⟩
 refine xI J ?_ (xs.1.1.length+1) s2 (jI 0 σ xs.2 _ mt s2 (Nat.zero_le _) z0 ex);refine λk z=>jE _ (λi σ1 T1 C1 mt1 s3 hil Z er=>?_) k z;have Y:=Z.at';have hx1:∀a,W a->C1.X a:=λa w=>by rw[Z.grow.x];exact .inr w
 by_cases hlt:i<xs.1.1.length
 ·replace er:=List.drop_eq_getElem_cons hlt▸er;refine lr (xb er) λσ2 o1 e1 e2 er=>?_;refine .inr (IT.next C1 Z.grow (tg.toE nm) i xs.1.1[i] s3 _ (ye e1 hone) (rh hlt) Z.st Y.live λv s4 o4 r4 st4=>?_);have S4:dY B C1 env nm sc σ1 mt1 s4.heap:=Y.sim.step hx1 hcW o4.keep (IT.live _ _ st4);have T4:aU C1 T1 s4.heap:=Y.tab.step (λa w=>.inl (hx1 a w)) (λl q w=>Y.sim.vol.lx l q (hx1 l w)) o4.keep;have Z4:jV B C s2 W St env nm sc N C1 (i+1) σ1 mt1 T1 s4:=⟨Z.grow,⟨S4,T4⟩,Z.len,st4,o4.gens.trans Z.gens,o4.drawn.trans Z.drawn,o4.os.trans Z.os,λa o f w l e=>o4.keep a o w (Z.keep a o f w l e),λa w e=>by
   cases q:s3.heap.get? a with
   |none=>exact absurd q (Z.live a w e)
   |some o=>rw[o4.keep a o w q];exact λq=>nomatch q⟩
  refine kT (N:=N) F.fine.hd hn e1 S4 Z.len ht r4 λs5 mt5 m5 S5 n5 c5 l5=>?_;have Y5:At B C1 env nm sc σ2 mt5 T1 s5.heap:=⟨S5,T4.chg c5 l5⟩;have Z5:=jV.next IT Z4 (.refl _ _) c5 Y5 n5;refine hbody okb hn (F.len' n5) EO e2 Y5 λC6 f s6 mt6 g6 c6 Y6 n6 f6=>?_;have Z6:=jV.next IT Z5 g6 c6 Y6 n6;have leave:∀{fl:Fl} {f:Flow},Hr C6 s6.heap fl f->qu B nm N C env sc s ⟨fl,o1.σ,o1.T⟩ Q->Q f s6:=λ{fl f} fr h=>by refine d1 (Z6.out (s':=s6) ⟨rfl,rfl,rfl,λ_ _ _ e=>e⟩ hcW hXW) λC7 e7 g7 Y7=>?_;subst e7;refine cL (fin Z6 (s4:=s6) ⟨rfl,rfl,rfl,λ_ _ _ e=>e⟩ g7) λg8 c8=>?_;exact h C7 f s6 mt6 g8 c8 Y7 n6 fr.dropX
  rcases er with⟨hf,er⟩|⟨hf,rfl⟩|⟨p,hf,rfl⟩
  ·replace f6:=hf▸f6;cases f6;exact⟨xs.1.1.length+1-(i+1),su hlt,jI (i+1) o1.σ o1.T C6 mt6 s6 hlt Z6 er⟩
  ·replace f6:=hf▸f6;cases f6;exact leave (fl:=.next) rfl h
  ·replace f6:=hf▸f6;refine aP f6 ?_;clear f6;intro v q1q r;subst q1q;exact leave (fl:=.ret p) ⟨v,rfl,r⟩ h
 ·have hil':i=xs.1.1.length:=JQ hil (by assumption);subst hil';replace er:=List.drop_eq_nil_of_le (d4 _)▸er;refine .inl (IT.done s3 _ Z.st λs4 o4=>?_);refine d1 (Z.out o4 hcW hXW) λC7 e7 g7 Y7=>?_;refine cL (fin Z o4 g7) λg8 c8=>?_;exact hels oke hn (F.len' Z.len) EO er Y7 λC9 f s9 mt9 g9 c9 Y9 n9 f9=>h C9 f s9 mt9 (g8.trans c8 g9) (c8.grow g8 c9) Y9 n9 f9
theorem D2(P:bV B Φ K)(hK:1<=K){tg:Tg}{src:E}{body els:S}{p:Pos}(hbody:iL B nm N Φ K body)(hels:iL B nm N Φ K els):eP B nm N Φ K (.for_ tg src body els p):=by intro ns sc C A env σ mt T s o Q ok hn F EO ex Y h;refine bE ex λxs exs ex=>?_;refine bA ex λhfix ex=>?_;replace ok:=a5 ok;refine z9 ok ?_;clear ok;intro okt okp oks okb oke;replace okt:=bD.mp okt;replace okp:=(kJ _).mp okp;exact yG (tup:=fo src) (xs:=xs) hbody hels (λx=>by cases src<;>rfl) (λ{Q'} hq=>(bo P hK src).s oks F exs Y hq) hfix (λi hi=>⟨(ay (okt i hi)).1,(ay (okt i hi)).2.1⟩) okp okb oke hn F EO ex Y h
end
section
variable{B:aX}{nm:Nat->Str}{N:Nat}{Φ:fA}{K:Nat}
theorem pz{σ:aF}{i:Nat}(h:mG σ i=true):σ.getD i none=some (.val .tab):=by
 have k:∀o:Option AV,(match o with|some (.val .tab)=>true|_=>false)=true->o=some (.val .tab):=λo h=>by
  cases o with
  |none=>exact fT h
  |some a=>cases a with
   |val p=>cases p<;>first|rfl|exact fT h
   |own=>exact fT h
 exact k _ h
theorem By(P:bV B Φ K)(hK:1<=K){i:Nat}{ip sp p:Pos}{e:E}:eP B nm N Φ K (.delT i ip e sp p):=by
 intro ns sc C A env σ mt T s o Q ok hn F EO ex Y h;refine bE ex λr er ex=>?_;obtain⟨q,T1⟩:=r;have inv:∃k,q=.str k/\mG σ i=true/\aS k=true/\T1.length<=1000/\o=⟨.next,σ,fg T1 k⟩:=by
  cases q<;>try exact nS ex
  rename_i k
  refine bA ex λc ex=>?_;replace ex:=iS ex;subst ex;simp only[cC]at c;exact⟨k,rfl,c.1,c.2.1,fn c.2.2,rfl⟩
 refine wP inv ?_;clear inv;intro k q1q ht hk hl q2q;subst q1q;subst q2q;replace ok:=a2 ok;obtain⟨h1,⟨c,hc,hm⟩,hp⟩:=ay ok.1;have hpn:=au hp;refine(?_:WP B A (exec (.Delete [.Subscript (.Name (nm i) ip) (e.toE nm) sp] p) env) Q s);refine wpAny_Delete (wpAny_deleteEach_cons (wpAny_delete_Subscript (wpAny_Name (Y.sim.load hm (pz ht) hpn.2 λv rv=>?_) hpn.1)));refine aP rv ?_;clear rv;intro a ha q1q;subst q1q;refine(bo P hK e).v ok.2 F er Y λv s1 x1 Y1 r1=>?_;refine af r1 ?_;clear r1;intro u q1q;subst q1q;refine P.tabDel ha F.fine Y1.sim.vol Y1.tab hk hl λs2 x2 V2 T2=>wpAny_deleteEach_nil ?_;have Y2:=Y1.called x2 V2 T2;exact h C .next s2 mt (.refl _ _) ((x1.trans x2).chgAt Y2) Y2 F.len rfl
theorem vQ(P:bV B Φ K)(hK:1<=K){i:Nat}{ip iap icp ap cp p:Pos}{e:E}:eP B nm N Φ K (.tempApp i ip iap icp ap e cp p):=by
 intro ns sc C A env σ mt T s o Q ok hn F EO ex Y h;refine bA ex λc ex=>?_;refine mE ex λr er qq=>?_;subst qq;simp only[cC]at c;replace ok:=a4 ok;obtain⟨h1,⟨k,hc,hm⟩,hp⟩:=ay ok.1;have hpn:=au hp;refine(?_:WP B A (exec (.Expr (.Call (.Attribute (.Call (.Attribute (.Name (nm i) ip) "items" iap) [] [] icp) "append" ap) [e.toE nm] [] cp) p) env) Q s);refine wpAny_Expr_any (dy (λ{Q} hQ=>hQ) (i7 e env cp) (eE (dh _)) ok.2.2.1 (dy (λ{Q} hQ=>hQ) (by intro x hx;cases hx) (dh _) ok.2.1 (wpAny_Name (Y.sim.load hm (pz c.1) hpn.2 λv rv=>?_) hpn.1))) (bz EO);refine aP rv ?_;clear rv;intro a ha q1q;subst q1q;intro pl;refine P.tabItems ha F.fine Y.sim.vol Y.tab (fn c.2) λl s1 vs n x1 hnew hl hlen=>?_;intro pl2;refine gT PySem.F.slot_list_append PySem.F.type_list_append hl ?_;rw[kC ..];have Y1:=Y.kept x1;have hW:∀b,b=l->s.heap.get? b=none/\s1.heap.get? b≠none:=λb w=>by subst w;exact⟨hnew,by rw[hl];exact λq=>nomatch q⟩
 have S2:dY B (C.addX (·=l)) env nm sc σ mt s1.heap:=Y.sim.addX (λa o _ e=>x1.all a o e) (λa l=>Y1.sim.vol.liveL a l) hW;have T2:aU (C.addX (·=l)) T s1.heap:=(Y.tab.addX λa w=>(hW a w).1).kept x1;have nl:C.hl≠some l:=λq=>Y.sim.vol.liveL l q hnew;refine PySem.P.append_list ((bo P hK e).v (C:=C.addX (·=l)) ok.2.2.2 F er ⟨S2,T2⟩ λv s3 x3 Y3 r3=>?_);have g3:s3.heap.get? l=some (aT vs n):=x3.keep l _ nl hl;refine⟨vs.toArray,n,(show _<=cap by simp[hlen];exact de (fn c.2) (by decide)),g3,?_⟩;have k4:∀b o,¬b=l->s3.heap.get? b=some o->(s3.heap.update l (Obj.mapSeq λx=>x.push v)).get? b=some o:=λb o ne e=>((Heap.SameBut.update (h:=s3.heap) (a:=l) (f:=Obj.mapSeq λx=>x.push v)).2 b ne).trans e;have hcl:∀x a,env.cells.lookup x=some a->¬a=l:=λx a e w=>by subst w;exact(Y.sim.cF x a e).elim (λq=>Y.sim.vol.liveF a q hnew) λq=>Y.sim.vol.liveX a q hnew
 have S4:dY B C env nm sc σ mt (s3.heap.update l (Obj.mapSeq λx=>x.push v)):=Y3.sim.dropX hcl (λa x w=>by subst w;exact Y.sim.vol.liveX a x hnew) k4;have T4:aU C r.2 (s3.heap.update l (Obj.mapSeq λx=>x.push v)):=(Y3.tab.step (W:=(·=l)) (λa w=>.inl (.inr w)) (λl' q w=>nl (w▸q)) k4).dropX;refine h C .next { s3 with heap:=s3.heap.update l (Obj.mapSeq λx=>x.push v) } mt (.refl _ _) ?_ ⟨S4,T4⟩ F.len rfl;have x5:a9 C.hl s s3:=x1.up.trans x3;refine⟨x5.gens,x5.drawn,x5.os,λa o _ l1 e=>?_,λa q=>?_⟩
 ·exact k4 a o (λw=>by subst w;replace e:=hnew▸e;exact nS e) (x5.keep a o l1 e)
 ·have ne:¬a=l:=λw=>by subst w;exact q hnew
  by_cases hq:C.hl=some a
  ·exact S4.vol.liveL a hq
  ·cases e:s.heap.get? a with
   |none=>exact absurd e q
   |some o=>rw[show({ s3 with heap:=s3.heap.update l (Obj.mapSeq λx=>x.push v) }:Shared).heap.get? a=_ from k4 a o ne (x5.keep a o hq e)];exact λq=>nomatch q
noncomputable def S.wf:S->Bool×Bool
 |.ite _ a b _=>(a.wf.2&&b.wf.2,false)
 |.for_ _ _ body els _=>(body.wf.2&&els.wf.2,false)
 |.nil=>(false,true)
 |.seq a b=>(false,a.wf.1&&b.wf.2)
 |_=>(true,false)
theorem mz(P:bV B Φ K)(hK:1<=K)(X:S):(X.wf.1=true->eP B nm N Φ K X)/\(X.wf.2=true->iL B nm N Φ K X):=by
 induction X with
 |assign i np e p=>exact⟨λ_=>w0 P hK,fT⟩
 |own i np es lp p=>exact⟨λ_=>Et P hK,fT⟩
 |unpack ts k tp e p=>exact⟨λ_=>xE P hK,fT⟩
 |unpackD ts k tp es ow ek ep p=>exact⟨λ_=>vq P hK,fT⟩
 |aug i np op e p=>exact⟨λ_=>FJ P hK,fT⟩
 |append i xp ap e cp p=>exact⟨λ_=>xH P hK,fT⟩
 |extend i xp ap e cp p=>exact⟨λ_=>wF P hK,fT⟩
 |appendPop i xp ap j jp jap e jcp cp p=>exact⟨λ_=>qy P hK,fT⟩
 |expr e p=>exact⟨λ_=>Bf P hK,fT⟩
 |delT i ip e sp p=>exact⟨λ_=>By P hK,fT⟩
 |tempApp i ip iap icp ap e cp p=>exact⟨λ_=>vQ P hK,fT⟩
 |ite c a b p iha ihb=>
  exact⟨λh=>by refine cL (eA.mp h) λh1 h2=>?_;exact FH P hK (iha.2 h1) (ihb.2 h2),fT⟩
 |for_ tg src body els p ihb ihe=>
  exact⟨λh=>by refine cL (eA.mp h) λh1 h2=>?_;exact D2 P hK (ihb.2 h1) (ihe.2 h2),fT⟩
 |ret e p=>exact⟨λ_=>FF P hK,fT⟩
 |brk p=>exact⟨λ_=>DZ,fT⟩
 |nil=>exact⟨fT,λ_=>mC⟩
 |seq a b iha ihb=>
  exact⟨fT,λh=>by refine cL (eA.mp h) λh1 h2=>?_;exact tY (iha.1 h1) (ihb.2 h2)⟩
end
theorem f8:∀(ns:gM) (n:Nat) (acc:List (Str×Addr)) (x:Str),(∃a,acc.lookup x=some a)->∃a,(cellsFrom n ns acc).lookup x=some a
 |[],_,_,_,h=>h
 |(y,k) :: r,n,acc,x,h=>by
  unfold cellsFrom
  split
  ·refine f8 r (n+1) _ x ?_;rw[fh];cases hb:x==y with
   |true=>exact⟨_,rfl⟩
   |false=>exact h
  ·exact f8 r n acc x h
theorem dR:∀(ns:gM) (n:Nat) (acc:List (Str×Addr)) (x:Str),ns.lookup x=some .cell->∃a,(cellsFrom n ns acc).lookup x=some a
 |[],_,_,_,h=>nS h
 |(y,k) :: r,n,acc,x,h=>by
  rewrite[fh]at h;unfold cellsFrom;cases hb:x==y with
  |true=>
   replace h:=hb▸h;replace h:=iS h;subst h;have hxy:x=y:=by simpa using hb
   subst hxy;rw[if_pos (by decide)];exact f8 r _ _ x ⟨n,by rw[fh];simp⟩
  |false=>
   replace h:=hb▸h
   split
   ·exact dR r _ _ x h
   ·exact dR r _ _ x h
theorem my{nm:Nat->Str}{ns:gM}:∀{l:List Nat} {sc:SC},hH nm ns l=some sc->∀i c,(i,c)∈sc->wU ns (nm i)=some c
 |[],sc,e,i,c,h=>by replace e:=iS e;subst e;cases h
 |j :: r,sc,e,i,c,h=>by
  refine bE e λk ek e=>?_;refine mE e λsc' e' qq=>?_;subst qq;rcases ah.mp h with h|h
  ·cases h;exact ek
  ·exact my e' i c h
theorem lm{ns:gM}{x:Str}{c:Kd}(h:wU ns x=some c):(c=.loc/\ns.lookup x=some .local)\/(c=.cell/\ns.lookup x=some .cell):=by
 unfold wU at h
 split at h
 ·replace h:=iS h;subst h;exact .inl ⟨rfl,by assumption⟩
 ·replace h:=iS h;subst h;exact .inr ⟨rfl,by assumption⟩
 ·exact nS h
noncomputable def pZ(kindOf:Str->Option NameKind)(ml mc:Str->Option Value)(x:Str):Option Value:=if kindOf x=some .local then ml x else mc x
section
variable{B:aX}{nm:Nat->Str}{N:Nat}{Φ:fA}{K:Nat}
theorem nq{C:Cx}{h:Heap}{sc:SC}(hn:bU nm sc){kindOf:Str->Option NameKind}:∀(ts:List Nat) {ps:List PV} {vs:List Value} {σ σ':aF} {ml mc:Str->Option Value},
  aq σ (ts.map λi=>(i,⟨0,0,0,0⟩)) ps=some σ'->aH C h ps vs->σ.length=N->(∀i∈ts,i<N/\∃c,(i,c)∈sc)->(∀i c,(i,c)∈sc->qx C [] h (pZ kindOf ml mc (nm i)) i (σ.getD i none)) ->
  (∀i c,(i,c)∈sc->qx C [] h (pZ kindOf (bindL kindOf ((ts.map nm).zip vs) ml) (bindC kindOf ((ts.map nm).zip vs) mc) (nm i)) i (σ'.getD i none))/\σ'.length=N:=by
 intro ts
 induction ts with
 |nil=>
  intro ps vs σ σ' ml mc e r hl _ h;cases ps with
  |nil=>replace e:=iS e;subst e;exact⟨h,hl⟩
  |cons _ _=>exact nS e
 |cons t ts ih=>
  intro ps vs σ σ' ml mc e r hl ht h;cases ps with
  |nil=>exact nS e
  |cons p ps=>
   refine bA e λc e=>?_;obtain⟨v,w,rfl,r1,r2⟩:=r;obtain⟨h1,k,hk⟩:=ht t bW;refine ih e r2 (by simpa using hl) (λi hi=>ht i (bZ _ hi)) λi d hi=>?_;have key:pZ kindOf (if kindOf (nm t)=some .local then λy=>if y=nm t then some v else ml y else ml) (if kindOf (nm t)=some .local then mc else λy=>if y=nm t then some v else mc y) (nm i)=
     if nm i=nm t then some v else pZ kindOf ml mc (nm i):=by
    unfold pZ;by_cases q:nm i=nm t
    ·rw[q];by_cases z:kindOf (nm t)=some .local<;>simp[z]
    ·by_cases z:kindOf (nm t)=some .local<;>by_cases z2:kindOf (nm i)=some .local<;>simp[z,z2,q]
   rw[key];by_cases q:i=t
   ·subst q;rw[if_pos rfl];rw[iF (hl▸h1)];exact⟨c,v,rfl,r1⟩
   ·rw[if_neg (λz=>q (hn i d t k hi hk z))];rw[kA (Ne.symm q)];exact h i d hi
structure HT(B:aX)(a:Addr)(nm:Nat->Str)(N:Nat)(slots params:List Nat)(X:S)(sc:SC)(o:Obj)(fd:FuncData):Prop where
 ho:B.hb.get? a=some o
 dat:o.data=.func fd
 body:fd.body=.stmts (X.toSs nm)
 clo:fd.closure=[]
 kind:fd.scope.kind=.function
 cor:fd.scope.isCoroutine=false
 gen:fd.scope.isGenerator=false
 gl:fd.globals=mainGlobals
 bt:fd.builtins=builtinsNs
 code:B.hb.CodeRec fd.code fd.qualname
 bind:∀vals:List Value,vals.length=params.length->bindArgs fd ⟨vals,[]⟩=pure ((params.map nm).zip vals)
 own:hH nm fd.scope.names slots=some sc
 nd:bU nm sc
 ps:∀i∈params,i<N/\∃c,(i,c)∈sc
 ok:X.ok nm N fd.scope.names sc=true
 wf:X.wf.2=true
theorem sg:∀{ts:List Nat} {ps:List PV} {σ σ':aF},aq σ (ts.map λi=>(i,⟨0,0,0,0⟩)) ps=some σ'->ts.length=ps.length:=λe=>by simpa using jx e
theorem lG:∀{ts:List (Nat×Pos)} {ps:List PV} {σ σ':aF},aq σ ts ps=some σ'->aA ps=true
 |_,[],_,_,_=>rfl
 |[],_ :: _,_,_,e=>nS e
 |_ :: _,_ :: _,_,_,e=>by refine bA e λc e=>?_;simp[bb,bR,c,lG e]
theorem mo:∀{l:List Nat} {vs:List Value} {x:Str×Value},x∈(l.map nm).zip vs->∃i∈l,x.1=nm i
 |[],_,_,h=>by simp at h
 |i :: r,[],_,h=>by simp at h
 |i :: r,v :: vs,x,h=>by
  simp only[bh,List.zip_cons_cons]at h;rcases ah.mp h with rfl|h
  ·exact⟨i,bW,rfl⟩
  ·refine aP (mo h) λj hj e=>?_;exact⟨j,bZ _ hj,e⟩
set_option backward.match.sparseCases true in
theorem zp(P:bV B Φ K)(hK:1<=K){a:Addr}{slots params:List Nat}{X:S}{sc:SC}{o:Obj}{fd:FuncData}(I:HT B a nm N slots params X sc o fd):bn B (K+1) a (fQ Φ X N params):=by
 intro C A s ps vs T r Q e F V Y rs cps hQ;refine aP (Option.bind_eq_some_iff.mp e) λσ eσ e=>?_;refine bE e λout eo e=>?_;have hlen:vs.length=params.length:=by rw[rs.length];rw[sg eσ];rfl
 have hnames:=my I.own;have kinds:∀i∈params,fd.scope.names.lookup (nm i)=some .local\/fd.scope.names.lookup (nm i)=some .cell:=λi hi=>by
  obtain⟨_,c,hc⟩:=I.ps i hi;rcases lm (hnames i c hc)with⟨_,h⟩|⟨_,h⟩
  ·exact .inl h
  ·exact .inr h
 refine wpAny_call (codeAny_call_cells (o:=o) (fd:=fd) (body:=X.toSs nm) (binds:=(params.map nm).zip vs) F.room (V.base a o I.ho) I.dat (B.lim.keeps V.base) (I.code.keeps V.base) I.body (I.bind vs hlen) I.clo (λx hx=>?_) (λs₁ IC=>?_) I.cor I.gen I.kind)
 ·refine aP (mo hx) λi hi e=>?_;rw[e];rcases kinds i hi with h|h
  ·exact .inl h
  ·refine af (dR fd.scope.names (s.heap.objs.size+1) [] (nm i) h) λca hca=>?_;exact .inr ⟨h,by rw[hca];rfl⟩
 have henv:(callEnvC fd s.heap.objs.size a).locals=s.heap.objs.size:=rfl;generalize hE:callEnvC fd s.heap.objs.size a=env at IC ⊢;have hsc:env.scope=fd.scope:=by rw[hE.symm];rfl
 have hko:∀x,env.kindOf x=fd.scope.names.lookup x:=λx=>by rw[hE.symm];rfl
 have hcells:env.cells=cellsFrom (s.heap.objs.size+1) fd.scope.names []:=by rw[hE.symm];rfl
 refine eV IC.toInCall.same λh₁ tk hs₁=>?_;have kp:=IC.toInCall.keep;have hL:env.locals=s.heap.objs.size:=by rw[hE.symm];rfl
 let F':Addr->Prop:=λb=>b=env.locals\/∃x,env.cells.lookup x=some b
 have hnone:∀b,s.heap.objs.size<=b->s.heap.get? b=none:=λb hb=>by
  cases q:s.heap.get? b with
  |none=>rfl
  |some o=>exact absurd (gB q) (Nat.not_lt.mpr hb)
 have hF':∀b,F' b->s.heap.get? b=none/\s₁.heap.get? b≠none:=by
  rintro b (rfl|⟨x,hx⟩)
  ·refine⟨hnone _ (by rw[hL];exact d4 _),?_⟩;refine pJ IC.toInCall.ns λo _ _ ho _=>?_;rw[ho];exact λq=>nomatch q
  ·refine⟨hnone b (Nat.le_of_lt ?_),?_⟩
   ·have:=IC.above x b (mem_of_lookup hx);replace this:=hL▸this;exact this
   ·refine aP (IC.cell x b hx) λo ho _=>?_;rw[ho];exact λq=>nomatch q
 have V1:cV B (C.enter F') s₁.heap:=V.enter kp hF';have rs1:aH (C.enter F') s₁.heap ps vs:=(rs.enter (λb q=>(hF' b q).1) cps).keep (C:=C.enter F') λb o _ e=>kp b o e;obtain⟨av,hlσ⟩:=nq (C:=C.enter F') (h:=s₁.heap) I.nd (kindOf:=env.kindOf) (N:=N) params (ml:=λ_=>none) (mc:=λ_=>none) eσ rs1 (by simp) I.ps λi c hi=>by
  have:(List.replicate N (none:Option AV)).getD i none=none:=by simp[List.getD,List.getElem?_replicate];split<;>rfl
  rw[this];trivial
 have S1:dY B (C.enter F') env nm sc σ [] s₁.heap:={
  vol:=V1
  fF:=.inl rfl
  cF:=λx b e=>.inl (.inr ⟨x,e⟩)
  mF:=λ_ _ q=>nomatch q
  mlist:=λ_ _ q=>nomatch q
  minj:=λ_ _ _ q=>nomatch q
  ex:=⟨pZ env.kindOf (bindL env.kindOf ((params.map nm).zip vs) λ_=>none) (bindC env.kindOf ((params.map nm).zip vs) λ_=>none),{
   kind:=by rw[hsc];exact I.kind
   gl:=by rw[hE.symm];exact I.gl
   bt:=by rw[hE.symm];exact I.bt
   ns:=⟨_,IC.toInCall.ns,λx hx=>by unfold pZ;rw[if_pos hx];rfl⟩
   cell:=λx c hk hc=>by
    have:=IC.cell x c hc;have hne:¬env.kindOf x=some .local:=by rcases hk with hk|hk<;>(rw[hk];decide)
    unfold pZ;rw[if_neg hne];exact this
   apart:=λx y b hx hy=>name_of_addr IC.apart (mem_of_lookup hx) (mem_of_lookup hy) },λi c hi=>⟨?_,av i c hi⟩⟩ }
 case refine_1=>
  rcases lm (hnames i c hi)with⟨rfl,h⟩|⟨rfl,h⟩
  ·refine(?_:env.kindOf (nm i)=some .local);rw[hko ..];exact h
  ·refine af (dR fd.scope.names (s.heap.objs.size+1) [] (nm i) h) λca hca=>?_;refine⟨.inl (by rw[hko ..];exact h),ca,by rw[hcells];exact hca,.inr ⟨nm i,by rw[hcells];exact hca⟩⟩
 have x1:a9 none s s₁:=by rw[hs₁]at kp ⊢;exact⟨rfl,rfl,rfl,λb o _ e=>kp b o e⟩
 have T1:aU (C.enter F') T s₁.heap:=(Y.enter λb q=>(hF' b q).1).kept x1;refine wpAny_mono ((mz P hK X).2 I.wf I.ok I.nd ⟨F.deeper env,λx hx=>by rw[hko ..];exact hx,hlσ⟩ ⟨by rw[hsc];exact I.kind,hko⟩ eo ⟨S1,T1⟩ (Q:=λf s'=>Q (match f with|.ret v=>v|_=>.none) s') λC2 f s2 mt2 g c2 Y2 n2 f2=>?_) (λf s' h=>?_) λ_ _ h=>h.elim
 ·have hX:∀b,C2.X b↔C.X b\/C.F b:=λb=>by rw[g.x];rfl
  have hFb:∀b o,C2.F b->s.heap.get? b=some o->False:=λb o f e=>by
   rcases g.f b f with q|q
   ·replace e:=(hF' b q).1▸e;exact nS e
   ·replace q:=kp b o e▸q;exact sN q
  have hhl:C2.hl=C.hl:=g.hl;have x2:a9 C.hl s s2:=⟨c2.gens.trans x1.gens,c2.drawn.trans x1.drawn,c2.os.trans x1.os,λb o l e=>c2.keep b o (λq=>by replace e:=(hF' b q).1▸e;exact nS e) l (kp b o e)⟩;have V2:=Y2.sim.vol;have V3:cV B C s2.heap:=⟨V2.base,V.baseX,V.baseF,V.baseL,λb x=>V2.liveX b ((hX b).mpr (.inl x)),λb x=>V2.liveX b ((hX b).mpr (.inr x)),λb l=>V2.liveL b (hhl▸l),V.fx,V.lf,V.lx⟩;have mv:∀b o,¬C2.X b->C2.hl≠some b->s2.heap.get? b=some o->¬C.X b/\¬C.F b/\C.hl≠some b/\s2.heap.get? b=some o:=λb o x l e=>⟨λq=>x ((hX b).mpr (.inl q)),λq=>x ((hX b).mpr (.inr q)),hhl▸l,e⟩;have T3:aU C out.T s2.heap:=Y2.tab.move (C:=C2) g.ta.symm hhl.symm (λl vs n _ e=>e) λb o x f l e=>⟨(mv b o x l e).1,(mv b o x l e).2.1,e⟩;have done:∀{p:PV} {v:Value},an C2 s2.heap p v->an C s2.heap (dD p) v:=λrp=>rp.freeze mv λb e=>g.ta▸e;cases hfl:out.fl with
  |next=>rw[hfl]at e f2;replace e:=iS e;subst e;cases f2;exact hQ .none s2 x2 V3 rfl T3
  |brk=>replace e:=hfl▸e;exact nS e
  |ret p=>rw[hfl]at e f2;replace e:=iS e;subst e;refine aP f2 ?_;clear f2;intro v q1q rp;subst q1q;exact hQ v s2 x2 V3 (done rp) T3
 ·exact h
end
noncomputable abbrev aX.at(B:aX)(x:Str):Option Value:=(B.mg x).or (B.mb x)
structure fy(B:aX):Prop where
 bf:∀f:BF,B.at f.nm=some f.val
 gint:∀g:GI,∃t,B.at g.nm=some (.int g.val t)
 tokG:B.at ("EXACT_TOKEN_TYPES":Str)=some (.ref 84)
 tokD:∃f,B.hb.MapOf (PySem.strKind B.prog B.w) 84 f/\∀x,(f x).isSome=(ce dN x).isSome/\∀i,ce dN x=some i->∃t,f x=some (.int i t)
 flagG:B.at ("COMPILER_FLAG_NAMES":Str)=some (.ref 39)
 flagD:∃f,B.hb.MapOf (PySem.intKind B.prog B.w) 39 f/\∀i,(gJ jK i=none->f i=none)/\∀x,gJ jK i=some x->∃t,f i=some (.str x t)
section
variable{B:aX}
theorem MapOf.keeps{K:Type}[DecidableEq K]{knd:KeyKind B.prog B.w K}{h h':Heap}{a:Addr}{f}(hm:h.MapOf knd a f)(hk:∀a o,h.get? a=some o->h'.get? a=some o):h'.MapOf knd a f:=by refine pJ hm ?_;clear hm;intro o es ep ho r;exact⟨o,es,ep,hk _ _ ho,r⟩
theorem C8(D:fy B):∃d,(B.mg ("EXACT_TOKEN_TYPES":Str)).or (B.mb ("EXACT_TOKEN_TYPES":Str))=some (.ref d) /\
  (∀{C A s x u} {Q:aJ Value},cV B C s.heap->(∀s',a9 none s s'->Q (.bool (ce dN x).isSome) s')->WP B A (compareOp .In (.str x u) (.ref d)) Q s) /\
  (∀{C A s x u i slice value} {Q:aJ Value},cV B C s.heap->ce dN x=some i->(∀v s',a9 none s s'->an C s'.heap (.int i) v->Q v s')->WP B A (subscriptTail value slice (.ref d) (.str x u)) Q s):=by
 refine aP D.tokD λf hm hf=>?_;refine⟨84,D.tokG,λ{C A s x u Q} V h=>?_,λ{C A s x u i slice value Q} V e h=>?_⟩
 ·have hm':=MapOf.keeps hm V.base;refine wpAny_in_of (knd:=PySem.strKind B.prog B.w) (k:=x) (by simp[PySem.strKind,Value.isStrOf]) (by decide) hm' ?_;rw[(hf x).1];exact h _ .tick
 ·have hm':=MapOf.keeps hm V.base;refine af ((hf x).2 i e) λt et=>?_;exact jG hm'.typeIs slot_dict_getitem.lookup (wpAny_getItem_of (knd:=PySem.strKind B.prog B.w) (k:=x) (by simp[PySem.strKind,Value.isStrOf]) hm' et (h _ _ .tick ⟨t,rfl⟩))
theorem zH(D:fy B):∃d,(B.mg ("COMPILER_FLAG_NAMES":Str)).or (B.mb ("COMPILER_FLAG_NAMES":Str))=some (.ref d) /\
  (∀{C A s p q r args pos pl} {Q:aJ Value},cV B C s.heap->(∀x∈args,x.1=false)->AL p q=some r ->
   WP B A (spliced args) (λvs s'=>cV B C s'.heap/\aH C s'.heap [p,q] vs/\lW C s' r Q) s ->
   WP B A (getMethod (.ref d) "get" pl) (λf s₂=>WP B A (callWith pos f.1 f.2 args []) Q s₂) s):=by
 refine aP D.flagD λf hm hf=>?_;refine⟨39,D.flagG,λ{C A s p q r args pos pl Q} V hs e h=>?_⟩;have hm0:=MapOf.keeps hm V.base;refine vr (id hm0) λo es ep ho hc _=>?_;refine getMethod_builtin (T:="dict") (id:="dict.get") ⟨o,ho,hc.1⟩ PySem.F.plainAttrs_dict PySem.F.slot_dict_get PySem.F.type_dict_get (λa e=>by cases e;exact⟨o,ho,hc.2.1⟩) ?_;refine eW hs (wpAny_mono h (λvs s' hq=>?_) λ_ _ x=>x);refine km hq ?_;clear hq;intro V' rs hG;cases p<;>try exact nS e
 rename_i i
 cases q<;>try exact nS e
 rename_i x
 refine bA e λc e=>?_;replace e:=iS e;subst e;obtain⟨v,w,rfl,⟨t,rfl⟩,v2,w2,rfl,⟨u,rfl⟩,rfl⟩:=rs;have hm':=MapOf.keeps hm V'.base;refine wpAny_call_entry PySem.F.slot_dict_get hm'.typeIs PySem.F.entry_dict_get ?_ (PySem.F.args_dict_get_3 _ _ _);refine(?_:WP B _ (dictGet 39 (.int i t) >>= _) _ s');refine wpAny_bind (wpAny_dictGet_of (knd:=PySem.intKind B.prog B.w) (k:=i) (by simp[PySem.intKind,Value.isInt]) hm' ?_);cases ha:gJ jK i with
 |none=>rw[(hf i).1 ha];refine(?_:WP B _ (Builtin.Dict.missed 39 (.int i t) >>= _) _ _);refine wpAny_bind (wpAny_missed_other (by decide) (wpAny_pure ⟨_,rfl,?_⟩));replace hG:=ha▸hG;exact hG _ _ .tick ⟨u,rfl⟩
 |some y=>refine af ((hf i).2 y ha) λz ez=>?_;rw[ez];replace hG:=ha▸hG;exact wpAny_pure ⟨_,rfl,hG _ _ .tick ⟨z,rfl⟩⟩
end
theorem Fb{h h':Heap}{a t i}(x:h.IsTupleIter a t i)(e:∀o,h.get? a=some o->h'.get? a=some o):h'.IsTupleIter a t i:=
 let ⟨o,ho,r⟩:=x;⟨o,e o ho,r⟩
theorem DM{h h':Heap}{a items}(x:h.IsTuple a items)(e:∀o,h.get? a=some o->h'.get? a=some o):h'.IsTuple a items:=
 let ⟨o,ho,r⟩:=x;⟨o,e o ho,r⟩
section
variable{prog:Program}{w:World}{A:Around}{E:aJ Value}{s:Shared}
theorem wk{it t:Addr}{i:Nat}{items:Array Value}{x:Value}{Q:aJ Value}(hit:s.heap.IsTupleIter it t i)(ht:s.heap.IsTuple t items)(hx:items[i]?=some x)
  (hQ:∀h',h'.IsTupleIter it t (i+1)->Heap.SameBut it s.heap h'->Q x { s with heap:=h' }):wpAny (model prog w) A (Builtin.SmallTypes.nextOf (.ref it)) Q E s:=by
 refine d1 (id hit) λo ho hc hd=>?_;obtain⟨ol,hol,_,nl,hdl⟩:=ht;unfold Builtin.SmallTypes.nextOf;refine wpAny_bind (wpAny_callSpecial?_slot (name:=Str.ofString "__next__") hit.typeIs PySem.F.slot_tuple_iterator_next (wpAny_call_entry PySem.F.slot_tuple_iterator_next hit.typeIs PySem.F.entry_tuple_iterator_next ?_ (PySem.F.args_tuple_iterator_next_1 _)));refine(?_:wpAny _ _ (field (.ref it) 0 >>= _) _ _ s);refine wpAny_bind (wpAny_field ho hd (x:=.ref t) rfl ?_);refine(?_:wpAny _ _ (if (Value.ref t==Value.none)=true then _ else _) _ _ s);refine wpAny_ite_false rfl ?_;refine(?_:wpAny _ _ (field (.ref it) 1 >>= _) _ _ s);refine wpAny_bind (wpAny_field ho hd (x:=.int i 0) rfl ?_);refine(?_:wpAny _ _ (seqItems? (.ref t) >>= _) _ _ s);refine wpAny_bind (wpAny_seqItems hol hdl ?_);simp only[Int.toNat_natCast,hx];refine wpAny_bind (wpAny_setField ho hd (eE (dh _)) (wpAny_pure ⟨x,rfl,wpAny_pure (hQ _ ?_ (Heap.SameBut.update ..))⟩));exact⟨_,qo _ ho (sI (oG hd _)),(Obj.cls_mapFields ..).trans hc,by rewrite[oG hd];simp[rawInt]⟩
structure ZT(z TI TO i1 i2 l1 l2:Addr)(xs ys:Array Value)(f0:Value)(i:Nat)(h:Heap):Prop where
 z:IsZip h z TI TO f0
 ti:IsPair h TI (.ref i1) (.ref i2)
 to:∃a b,IsPair h TO a b
 a:h.IsListIter i1 l1 i
 b:h.IsTupleIter i2 l2 i
 l:h.IsList l1 xs
 t:h.IsTuple l2 ys
theorem ZT.moved{z TI TO i1 i2 l1 l2:Addr}{xs ys:Array Value}{f0:Value}{i:Nat}{h h':Heap}(Z:ZT z TI TO i1 i2 l1 l2 xs ys f0 i h)(hk:∀c∈[z,TI,TO,i1,i2,l1,l2],∀o,h.get? c=some o->h'.get? c=some o):ZT z TI TO i1 i2 l1 l2 xs ys f0 i h':=by refine eV Z.to λa b hTO=>?_;exact⟨hk z iW _ Z.z,hk TI kl _ Z.ti,⟨a,b,hk TO mf _ hTO⟩,Z.a.at (hk i1 w7),Fb Z.b (hk i2 Fx),Z.l.at (hk l1 HD),DM Z.t (hk l2 Jv)⟩
theorem EE{z TI TO i1 i2 l1 l2:Addr}{i:Nat}{xs ys:Array Value}{x y:Value}{Q:aJ Value}(D:ZipApart z TI TO i1 i2 l1 l2)(Z:ZT z TI TO i1 i2 l1 l2 xs ys .none i s.heap)(hx:xs[i]?=some x)(hy:ys[i]?=some y)
  (hQ:∀h',ZT z TI TO i1 i2 l1 l2 xs ys (rawInt s.heap.objs.size) (i+1) h'->IsPair h' s.heap.objs.size x y->(∀c o,c≠z->c≠TO->c≠i1->c≠i2->s.heap.get? c=some o->h'.get? c=some o)->Q (.ref s.heap.objs.size) { s with heap:=h' }):
  wpAny (model prog w) A (Builtin.«zip.__next__» ⟨[.ref z],[]⟩) (λfin s'=>∃v,fin=.done (.ret v)/\Q v s') E s:=by
 obtain⟨hz,hTI,⟨a,b,hTO⟩,h1,h2,hl,ht⟩:=Z;refine(?_:wpAny _ _ (field (.ref z) 2 >>= _) _ _ _);refine wpAny_bind (wpAny_field hz rfl (x:=.bool false) rfl ?_);refine(?_:wpAny _ _ (field (.ref z) 3 >>= _) _ _ _);refine wpAny_bind (wpAny_field hz rfl (x:=.ref TI) rfl ?_);refine wpAny_bind (wpAny_seqItems hTI rfl ?_);refine(?_:wpAny _ _ (Builtin.SmallTypes.ownedTupleIsFree (.ref z) >>= _) _ _ _);refine wpAny_bind ?_;unfold Builtin.SmallTypes.ownedTupleIsFree;refine wpAny_bind (wpAny_field hz rfl (x:=.none) rfl (wpAny_pure ?_));refine wpAny_ite_true rfl ?_;refine wpAny_bind (wpAny_rule ?_);refine wpAny_bind (wpAny_field hz rfl (x:=.ref TO) rfl ?_);refine wpAny_bind (wpAny_setField_rec hz (dh 4) λg1 z1 k1=>?_);replace z1:IsZip g1 z TI TO .ellipsis:=z1;refine wpAny_bind ?_;refine wpAny_bind (wpAny_bind (wpAny_onRaise ?_));refine(?_:wpAny _ _ (Builtin.SmallTypes.nextOf (.ref i1) >>= _) _ _ _);refine wpAny_bind (wpAny_nextOf_list_item (h1.extBut k1.extBut D.i1z) (hl.extBut k1.extBut D.l1z) hx λg2 a2 k2=>wpAny_pure ?_);have o2:IsPair g2 TO a b:=k2.extBut _ _ D.TOi1 (k1.extBut _ _ D.TOz hTO);refine wpAny_bind (wpAny_seqItems o2 rfl ?_);refine wpAny_bind (wpAny_updateSeq_pair o2 λg3 o3 k3=>?_);replace o3:IsPair g3 TO x b:=o3;refine wpAny_bind (wpAny_letGo (wpAny_pure ?_));refine wpAny_bind (wpAny_bind (wpAny_onRaise ?_));refine(?_:wpAny _ _ (Builtin.SmallTypes.nextOf (.ref i2) >>= _) _ _ _);refine wpAny_bind (wk (((h2.extBut k1.extBut D.i2z).extBut k2.extBut D.i12.symm).extBut k3.extBut D.TOi2.symm) (((ht.extBut k1.extBut D.l2z).extBut k2.extBut D.l2i1).extBut k3.extBut D.l2TO) hy λg4 b4 k4=>wpAny_pure ?_);have o4:IsPair g4 TO x b:=k4.extBut _ _ D.TOi2 o3;refine wpAny_bind (wpAny_seqItems o4 rfl ?_);refine wpAny_bind (wpAny_updateSeq_pair o4 λg5 o5 k5=>?_);replace o5:IsPair g5 TO x y:=o5;refine wpAny_bind (wpAny_letGo (wpAny_pure (wpAny_pure ?_)));refine wpAny_bind (wpAny_seqItems o5 rfl ?_);refine wpAny_bind (wpAny_newTuple ?_);have hsz:g5.objs.size=s.heap.objs.size:=by rw[k5.1];rw[k4.1];rw[k3.1];rw[k2.1];rw[k1.1];rfl
 have z5:IsZip g5 z TI TO .ellipsis:=k5.extBut _ _ D.TOz.symm (k4.extBut _ _ D.i2z.symm (k3.extBut _ _ D.TOz.symm (k2.extBut _ _ D.i1z.symm z1)));have kp:∀c o,c≠z->c≠TO->c≠i1->c≠i2->s.heap.get? c=some o->g5.get? c=some o:=λc o c1 c2 c3 c4 e=>
  k5.extBut _ _ c2 (k4.extBut _ _ c4 (k3.extBut _ _ c2 (k2.extBut _ _ c3 (k1.extBut _ _ c1 e))))
 have a5:g5.IsListIter i1 l1 (i+1):=((a2.extBut k3.extBut D.TOi1.symm).extBut k4.extBut D.i12).extBut k5.extBut D.TOi1.symm;have b5:g5.IsTupleIter i2 l2 (i+1):=b4.extBut k5.extBut D.TOi2.symm;have hzlt:z<g5.objs.size:=gB z5;refine(?_:wpAny _ _ (Builtin.SmallTypes.ownedTupleHandOut (.ref z) (.ref g5.objs.size) >>= _) _ _ _);refine wpAny_bind ?_;unfold Builtin.SmallTypes.ownedTupleHandOut;have z6:IsZip (g5.push { cls:=.type "tuple",data:=.seq #[x,y] }) z TI TO .ellipsis:=bK _ z5;refine wpAny_bind (wpAny_setField_rec z6 (dh 4) λg7 z7 k7=>?_);replace z7:IsZip g7 z TI TO (rawInt g5.objs.size):=z7;refine wpAny_setField_rec z7 (eE (dh 3)) λg8 z8 k8=>?_;replace z8:IsZip g8 z TI TO (rawInt g5.objs.size):=z8;have up:∀c o,c≠z->g5.get? c=some o->g8.get? c=some o:=λc o c1 e=>k8.extBut _ _ c1 (k7.extBut _ _ c1 (bK _ e));have t8:IsPair g8 g5.objs.size x y:=k8.extBut _ _ (Nat.ne_of_gt hzlt) (k7.extBut _ _ (Nat.ne_of_gt hzlt) (cZ _ rfl));rw[hsz]at z8 t8;refine wpAny_pure ⟨_,rfl,?_⟩;refine(?_:Q (.ref g5.objs.size) _);rw[hsz];have kq:∀c o,c≠z->c≠TO->c≠i1->c≠i2->s.heap.get? c=some o->g8.get? c=some o:=λc o c1 c2 c3 c4 e=>up c o c1 (kp c o c1 c2 c3 c4 e);exact hQ g8 ⟨z8,kq _ _ D.TIz D.TITO D.TIi1 D.TIi2 hTI,⟨x,y,up _ _ D.TOz o5⟩,a5.at λo e=>up _ o D.i1z e,Fb b5 (λo e=>up _ o D.i2z e),hl.at λo e=>kq _ o D.l1z D.l1TO D.l1i1 D.l1i2 e,DM ht λo e=>kq _ o D.l2z D.l2TO D.l2i1 D.l2i2 e⟩ t8 kq
theorem Gn{z TI TO i1 i2 l1 l2:Addr}{i:Nat}{xs ys:Array Value}{Q:aJ Fin}(hh:A.handled=none)(D:ZipApart z TI TO i1 i2 l1 l2)(Z:ZT z TI TO i1 i2 l1 l2 xs ys .none i s.heap)(hx:xs[i]?=none)
  (hE:∀h' e,(∀c o,c≠z->c≠TO->c≠i1->c≠i2->s.heap.get? c=some o->h'.get? c=some o)->(∃o,h'.get? e=some o/\o.cls=.type "StopIteration")->E (.ref e) { s with heap:=h' }):
  wpAny (model prog w) A (Builtin.«zip.__next__» ⟨[.ref z],[]⟩) Q E s:=by
 obtain⟨hz,hTI,⟨a,b,hTO⟩,h1,h2,hl,ht⟩:=Z;refine(?_:wpAny _ _ (field (.ref z) 2 >>= _) _ _ _);refine wpAny_bind (wpAny_field hz rfl (x:=.bool false) rfl ?_);refine(?_:wpAny _ _ (field (.ref z) 3 >>= _) _ _ _);refine wpAny_bind (wpAny_field hz rfl (x:=.ref TI) rfl ?_);refine wpAny_bind (wpAny_seqItems hTI rfl ?_);refine(?_:wpAny _ _ (Builtin.SmallTypes.ownedTupleIsFree (.ref z) >>= _) _ _ _);refine wpAny_bind ?_;unfold Builtin.SmallTypes.ownedTupleIsFree;refine wpAny_bind (wpAny_field hz rfl (x:=.none) rfl (wpAny_pure ?_));refine wpAny_ite_true rfl ?_;refine wpAny_bind (wpAny_rule ?_);refine wpAny_bind (wpAny_field hz rfl (x:=.ref TO) rfl ?_);refine wpAny_bind (wpAny_setField_rec hz (dh 4) λg1 z1 k1=>?_);replace z1:IsZip g1 z TI TO .ellipsis:=z1;refine wpAny_bind ?_;refine wpAny_bind (wpAny_bind (wpAny_onRaise ?_));refine(?_:wpAny _ _ (Builtin.SmallTypes.nextOf (.ref i1) >>= _) _ _ _);refine wpAny_bind (wpAny_nextOf_list_end hh (h1.extBut k1.extBut D.i1z) (hl.extBut k1.extBut D.l1z) hx λg2 e k2 he=>?_);refine aP he ?_;clear he;intro oe hoe hce;have z2:IsZip g2 z TI TO .ellipsis:=k2 _ _ D.i1z.symm z1;have hez:e≠z:=λx=>by subst x;replace hoe:=z2▸hoe;replace hoe:=iS hoe;subst hoe;simp at hce
 exact wpAny_setField_rec z2 (dh 4) λg3 _ k3=>hE g3 e (λc o c1 _ c3 _ x=>k3.extBut _ _ c1 (k2 _ _ c3 (k1.extBut _ _ c1 x))) ⟨oe,k3.extBut _ _ hez hoe,hce⟩
theorem IB{elts:List Expr}{x1:Nat}{pos:Pos}{z TI TO T:Addr}{Q:aJ Unit}(hz:IsZip s.heap z TI TO (rawInt T))(hQ:∀h',IsZip h' z TI TO .none->Heap.SameBut z s.heap h'->Q () { s with heap:=h' }):
  wpAny (model prog w) A (letOwnedTupleGo (.Tuple elts x1 pos) (.ref z) (.ref T)) Q E s:=wpAny_letOwnedTupleGo_zip hz hQ
theorem CY(hh:A.handled=none)(z TI TO i1 i2 l1 l2:Addr)(D:ZipApart z TI TO i1 i2 l1 l2)(xs ys:Array Value)(hle:xs.size<=ys.size):
  WalksT prog w A z [z,TI,TO,i1,i2,l1,l2] [z,TO,i1,i2] xs.size (λi vals=>∃x y,xs[i]?=some x/\ys[i]?=some y/\vals=#[x,y])
   (λi h=>ZT z TI TO i1 i2 l1 l2 xs ys .none i h) (λi T h=>ZT z TI TO i1 i2 l1 l2 xs ys (rawInt T) (i+1) h/\T≠z/\T≠TO/\T≠i1/\T≠i2) where
 sub:=JH iW mf w7 Fx
 frame:=λi h h' Z hk=>Z.moved λc hc o e=>hk c hc o e
 item:=λi s Q E hi Z hQ=>by
  have hiy:i<ys.size:=Nat.lt_of_lt_of_le hi hle;have hT:s.TypeIs (.ref z) "zip":=⟨_,Z.z,rfl⟩;have lt:∀{c o},s.heap.get? c=some o->s.heap.objs.size≠c:=λe=>Nat.ne_of_gt (gB e);unfold pyNext;refine wpAny_bind (wpAny_attempt (wpAny_callSpecial?_slot (name:=Str.ofString "__next__") hT PySem.F.slot_zip_next (wpAny_call_entry PySem.F.slot_zip_next hT PySem.F.entry_zip_next
   (EE D Z (vj hi) (vj hiy) λh' Z' hp hk=>wpAny_pure ?_) (PySem.F.args_zip_next_1 _))))
  refine eV Z.to λa b hTO=>?_;exact hQ s.heap.objs.size #[xs[i],ys[i]] h' s.toks ⟨_,_,vj hi,vj hiy,rfl⟩ (d4 _) ⟨_,hp,rfl,_,rfl⟩
   ⟨Z',lt Z.z,lt hTO,(by refine aP Z.a λ_ e _=>?_;exact lt e),(by refine aP Z.b λ_ e _=>?_;exact lt e)⟩
   λc o hc e=>hk c o (λx=>hc (x▸iW)) (λx=>hc (x▸kl)) (λx=>hc (x▸mf)) (λx=>hc (x▸w7)) e
 go:=λelts k pos i T s Q E hm hQ=>by
  refine cL hm ?_;clear hm;intro Z _;refine eV Z.to λa b hTO=>?_;refine IB Z.z λh' hz' hs'=>hQ h' ⟨hz',hs'.extBut _ _ D.TIz Z.ti,⟨a,b,hs'.extBut _ _ D.TOz hTO⟩,Z.a.extBut hs'.extBut D.i1z,Z.b.extBut hs'.extBut D.i2z,
   Z.l.extBut hs'.extBut D.l1z,Z.t.extBut hs'.extBut D.l2z⟩ λc o hc e=>hs'.extBut _ _ (λx=>hc (x▸iW)) e
 apart:=λi T h hm hT=>by
  refine z9 hm ?_;clear hm;intro _ t1 t2 t3 t4;rcases JR hT with rfl|rfl|rfl|rfl
  ·exact t1 rfl
  ·exact t2 rfl
  ·exact t3 rfl
  ·exact t4 rfl
 done:=λs Q E Z hQ=>by
  have hT:s.TypeIs (.ref z) "zip":=⟨_,Z.z,rfl⟩;unfold pyNext;refine wpAny_bind (wpAny_attempt (wpAny_callSpecial?_slot (name:=Str.ofString "__next__") hT PySem.F.slot_zip_next (wpAny_call_entry PySem.F.slot_zip_next hT PySem.F.entry_zip_next
   (Gn hh D Z (by simp) λh' e hk he=>?_) (PySem.F.args_zip_next_1 _))))
  refine aP he ?_;clear he;intro o ho hc;refine wpAny_bind (wpAny_isInstance (T:="StopIteration") (b:=true) ⟨o,ho,hc⟩ isSubtype_stop ?_);exact wpAny_pure (hQ h' s.toks λc o hc e=>hk c o (λx=>hc (x▸iW)) (λx=>hc (x▸kl)) (λx=>hc (x▸mf)) (λx=>hc (x▸w7)) e)
 self:=λi s Q E Z h=>wpAny_pyIter_zip Z.z h
end
noncomputable abbrev Dl(h:Heap)(l1:Addr):Heap:=h.push { cls:=.type "list_iterator",data:=.fields #[.ref l1,.int 0 0] }
noncomputable abbrev EH(h:Heap)(l1 l2:Addr):Heap:=(Dl h l1).push { cls:=.type "tuple_iterator",data:=.fields #[.ref l2,.int 0 0] }
noncomputable abbrev D3(h:Heap)(l1 l2:Addr):Heap:=(EH h l1 l2).push { cls:=.type "tuple",data:=.seq #[.ref h.objs.size,.ref (Dl h l1).objs.size] }
noncomputable abbrev D6(h:Heap)(l1 l2:Addr):Heap:=(D3 h l1 l2).push { cls:=.type "tuple",data:=.seq #[.none,.none] }
noncomputable abbrev xG(h:Heap)(l1 l2:Addr):Heap:=(D6 h l1 l2).push { cls:=.type "zip",data:=.fields #[.none,.bool false,.bool false,.ref (EH h l1 l2).objs.size,.ref (D3 h l1 l2).objs.size] }
theorem tx(l1 l2:Addr)(xs ys:Array Value):
  Meets (Builtin.«zip.__new__» ⟨[.type "zip",.ref l1,.ref l2],[]⟩) (λ_ R s=>s.heap.IsList l1 xs/\s.heap.IsTuple l2 ys /\
   R (.ok (.ret (.ref (D6 s.heap l1 l2).objs.size))) { s with heap:=xG s.heap l1 l2 }):=
 .of_wp λprog w A R s h=>by
  obtain⟨hp,g,d,tk,os⟩:=s;refine km h ?_;clear h;intro hl1 hl2 h;have hsub:=sub_zip;have hL1:Heap.IsList (Shared.heap ⟨hp,g,d,tk,os⟩) l1 xs:=hl1;have hL2:Heap.IsTuple (Shared.heap ⟨hp.push { cls:=.type "list_iterator",data:=.fields #[.ref l1,.int 0 0] },g,d,tk,os⟩) l2 ys:=Heap.IsTuple.push hl2 _
  wp_walk using wpAny_pyIter_list hL1,wpAny_pyIter_tuple hL2
  exact⟨_,rfl,h⟩
section
variable{prog:Program}{w:World}{A:Around}{E:aJ Value}{s:Shared}
theorem E1{l1 l2:Addr}{xs ys:Array Value}{Q:aJ Value}(hl1:s.heap.IsList l1 xs)(hl2:s.heap.IsTuple l2 ys)
  (h:∀h',ZT (s.heap.objs.size+4) (s.heap.objs.size+2) (s.heap.objs.size+3) s.heap.objs.size (s.heap.objs.size+1) l1 l2 xs ys .none 0 h'->(∀c o,s.heap.get? c=some o->h'.get? c=some o)->Q (.ref (s.heap.objs.size+4)) { s with heap:=h' }):
  wpAny (model prog w) A (call (.type "zip") [.ref l1,.ref l2]) Q E s:=by
 refine callType_new PySem.F.called_zip (by decide) (PySem.F.typeCall_zip_2 _ _) (PySem.F.newCall_zip_2 _ _) (λobj=>PySem.F.args_object_init_3 obj _ _) PySem.F.entry_zip_new (tx l1 l2 xs ys) ⟨hl1,hl2,?_⟩;have z1:(Dl s.heap l1).objs.size=s.heap.objs.size+1:=fE ..;have z2:(EH s.heap l1 l2).objs.size=s.heap.objs.size+2:=by rw[fE ..];rw[z1];rfl
 have z3:(D3 s.heap l1 l2).objs.size=s.heap.objs.size+3:=by rw[fE ..];rw[z2];rfl
 have z4:(D6 s.heap l1 l2).objs.size=s.heap.objs.size+4:=by rw[fE ..];rw[z3];rfl
 have g5:(xG s.heap l1 l2).get? (D6 s.heap l1 l2).objs.size=some _:=cZ _ rfl;have g4:(xG s.heap l1 l2).get? (D3 s.heap l1 l2).objs.size=some _:=bK _ (cZ _ rfl);have g3:(xG s.heap l1 l2).get? (EH s.heap l1 l2).objs.size=some _:=bK _ (bK _ (cZ _ rfl));have g2:(xG s.heap l1 l2).get? (Dl s.heap l1).objs.size=some _:=bK _ (bK _ (bK _ (cZ _ rfl)));have g1:(xG s.heap l1 l2).get? s.heap.objs.size=some _:=bK _ (bK _ (bK _ (bK _ (cZ _ rfl))));have kp:∀c o,s.heap.get? c=some o->(xG s.heap l1 l2).get? c=some o:=λc o x=>bK _ (bK _ (bK _ (bK _ (bK _ x))));refine(show _/\_ from ?_);replace g5:=z2▸g5;replace g5:=z3▸g5;replace g5:=z4▸g5;replace g3:=z1▸g3;replace g3:=z2▸g3;replace g4:=z3▸g4;replace g2:=z1▸g2;rw[z4];exact⟨⟨_,g5,rfl⟩,h _ ⟨g5,g3,⟨_,_,g4⟩,⟨_,g1,rfl,rfl⟩,⟨_,g2,rfl,rfl⟩,hl1.at λo e=>kp _ o e,DM hl2 λo e=>kp _ o e⟩ kp⟩
end
section
variable{B:aX}{C:Cx}{A:Around}{hb:Heap}
theorem H7{xs ys:List PV}{vs ws:List Value}{z TI TO i1 i2 l1 l2:Addr}(hh:A.handled=none)(D:ZipApart z TI TO i1 i2 l1 l2)(hI:∀b∈[z,TI,TO,i1,i2,l1,l2],¬C.F b/\C.hl≠some b/\hb.get? b≠none)
  (hX:∀b∈[z,TO,i1,i2],C.X b) (hc:aA xs=true) (hd:aA ys=true) (hle:xs.length<=ys.length) (r1:aH C hb xs vs) (r2:aH C hb ys ws):
  It B C hb A true (·∈[z,TO,i1,i2]) (jJ xs ys) (.ref z) (λi h=>ZT z TI TO i1 i2 l1 l2 vs.toArray ws.toArray .none i h/\d9 C hb h):=by
 refine It.ofWalksT (CY hh z TI TO i1 i2 l1 l2 D vs.toArray ws.toArray (by simpa[r1.length,r2.length]using hle)) (by rw[jl ..];rw[Nat.min_eq_left hle];simp[r1.length]) hI hX (λi h st a ha=>?_) λC' G i ps vals h hx hv R=>?_
 ·obtain⟨hz,_,⟨a',b',hTO⟩,⟨o1,h1,_⟩,⟨o2,h2,_⟩,_⟩:=st;simp only[ah,List.not_mem_nil,or_false]at ha;rcases ha with rfl|rfl|rfl|rfl
  ·exact ak hz
  ·exact ak hTO
  ·exact ak h1
  ·exact ak h2
 ·refine lr hv ?_;clear hv;intro x y ex ey q1q;subst q1q;refine lr (oy xs ys i _ hx) λx' y' ex' ey' ep=>?_;cases ep;refine aP ((R.reps G hc r1).get ex') λu eu ru=>?_;refine aP ((R.reps G hd r2).get ey') λv ev rv=>?_;have h1:vs[i]?=some x:=by simpa using ex
  have h2:ws[i]?=some y:=by simpa using ey
  replace h1:=eu▸h1;replace h1:=iS h1;subst h1;replace h2:=ev▸h2;replace h2:=iS h2;subst h2;exact⟨_,_,rfl,ru,_,_,rfl,rv,rfl⟩
theorem zr{C:Cx}{h:Heap}{p:PV}{xs:List PV}{v:Value}(e:eM p=some xs)(r:an C h p v):H3 C h p xs v:=by
 cases p with
 |list ys=>replace e:=iS e;subst e;obtain⟨a,vs,n,rfl,_,f,l,g,rs⟩:=r;exact⟨a,vs,n,rfl,g,rs,l,λ_=>f⟩
 |view ys=>replace e:=iS e;subst e;obtain⟨a,vs,n,rfl,_,l,g,rs⟩:=r;exact⟨a,vs,n,rfl,g,rs,l,λq=>nomatch q⟩
 |_=>exact nS e
theorem zy{C:Cx}{A:Around}{s:Shared}{p:PV}{xs ys:List PV}{v w:Value}{Q:aJ Value}(hh:A.handled=none)(L:ef C s.heap)(e:eM p=some xs)(r:an C s.heap p v)(r2:an C s.heap (.tuple ys) w)
  (c:aA xs=true) (c2:aA ys=true) (hle:xs.length<=ys.length) (h:∀it s',a9 none s s'->fe B C A s s' true (fN p) (jJ xs ys) it->Q it s'):WP B A (call (.type "zip") [v,w]) (λz s₁=>WP B A (pyIter z) Q s₁) s:=by
 obtain⟨l,vs,n,rfl,g,rs,nl,fl⟩:=zr e r;obtain⟨m,ws,rfl,nx2,nf2,nl2,g2,rs2⟩:=r2;have hl:s.heap.IsList l vs.toArray:=⟨_,g,rfl,n,rfl⟩;have ll:=gB g;refine aP (id g2) λom gm _=>?_;have ll2:=gB gm;refine E1 hl g2 λh' Z hk=>wpAny_pyIter_zip Z.z (h _ _ (.mk' hk) ?_);have nn:∀k:Nat,s.heap.get? (s.heap.objs.size+k)=none:=λk=>gi (Nat.le_add_right _ _);have D:=zipApart_new ll ll2;refine aP Z.a λo1 h1 _=>?_;refine aP Z.b λo2 h2 _=>?_;refine eV Z.to λa b hTO=>?_;have lv:∀k:Nat,k<5->h'.get? (s.heap.objs.size+k)≠none:=Hs (ak h1) (ak h2) (ak Z.ti) (ak hTO) (ak Z.z)
 let nb:Nat:=s.heap.objs.size
 have mem:∀b,b∈[nb+4,nb+3,nb,nb+1]->∃k:Nat,k<5/\b=nb+k:=λ_=>zm;have mem2:∀b,b∈[nb+4,nb+2,nb+3,nb,nb+1,l,m]->(∃k:Nat,k<5/\b=nb+k)\/b=l\/b=m:=λ_=>JS;have hlm:∀b,b∈[nb+4,nb+2,nb+3,nb,nb+1,l,m]->C.hl≠some b:=by
  intro b hb;rcases mem2 b hb with⟨k,_,rfl⟩|rfl|rfl
  ·exact(L.new (nn k)).2.2
  ·exact nl
  ·exact nl2
 have lvs:∀b,b∈[nb+4,nb+2,nb+3,nb,nb+1,l,m]->h'.get? b≠none:=by
  intro b hb;rcases mem2 b hb with⟨k,hk',rfl⟩|rfl|rfl
  ·exact lv k hk'
  ·exact ak (hk _ _ g)
  ·exact ak (hk _ _ gm)
 refine⟨(·∈[nb+4,nb+3,nb,nb+1]),[nb+4,nb+2,nb+3,nb,nb+1,l,m],λb hb=>?_,λb hb=>⟨lvs b hb,hlm b hb,λfx=>?_⟩,la xs ys c c2,λC' h1 h2 h3 h4=>?_⟩
 ·refine aP (mem b hb) λk hk' q1q=>?_;subst q1q;exact⟨nn k,lv k hk'⟩
 ·rcases mem2 b hb with⟨k,hk',rfl⟩|rfl|rfl
  ·exact(L.new (nn k)).2.1
  ·exact fl fx
  ·exact nf2
 ·exact⟨_,⟨Z,λ_ _ _ _ _ e=>e⟩,H7 (l1:=l) (l2:=m) hh D (λb hb=>⟨h3 b hb,h1▸hlm b hb,lvs b hb⟩) h2 c c2 hle (aH.moves h4 c rs) (aH.moves h4 c2 rs2)⟩
end
section
variable{B:aX}{nm:Nat->Str}{N:Nat}{K:Nat}
structure dX(B:aX)(a:Addr)(nm:Nat->Str)(N:Nat)(params:List Nat)(sc:SC)(o:Obj)(fd:FuncData):Prop where
 ho:B.hb.get? a=some o
 dat:o.data=.func fd
 clo:fd.closure=[]
 kind:fd.scope.kind=.function
 cor:fd.scope.isCoroutine=false
 gen:fd.scope.isGenerator=false
 gl:fd.globals=mainGlobals
 bt:fd.builtins=builtinsNs
 code:B.hb.CodeRec fd.code fd.qualname
 own:∃slots,hH nm fd.scope.names slots=some sc
 nd:bU nm sc
 ps:∀i∈params,i<N/\∃c,(i,c)∈sc
noncomputable abbrev pE(B:aX)(nm:Nat->Str)(C:Cx)(env:Env)(sc:SC)(s:Shared)(p:PV)(T:aC)(Q:aJ Flow):Prop:=
 ∀C' v s' mt' σ',bC C s.heap C'->eR C s s'->At B C' env nm sc σ' mt' T s'.heap->an C' s'.heap p v->Q (.ret v) s'
noncomputable def pG:Flow->Value
 |.ret v=>v
 |_=>.none
theorem ry{a:Addr}{params:List Nat}{sc:SC}{o:Obj}{fd:FuncData}(I:dX B a nm N params sc o fd){body:List Stmt}
  {C:Cx} {A:Around} {s:Shared} {ps:List PV} {vs:List Value} {T:aC} {σ:aF} {R:aJ Result}
  (eσ:aq (List.replicate N none) (params.map λi=>(i,⟨0,0,0,0⟩)) ps=some σ)
  (V:cV B C s.heap) (Y:aU C T s.heap) (rs:aH C s.heap ps vs)
  (hb:∀F' env s₁,(∀b,F' b->s.heap.get? b=none)->env.frame=some env.locals->(∀x b,env.cells.lookup x=some b->F' b)->bl env fd.scope.names->σ.length=N->At B (C.enter F') env nm sc σ [] T s₁.heap->a9 none s s₁ ->
   wpAny (model B.prog B.w) (A.deeper env) (execs body env) (λf s'=>R (.ok (.ret (pG f))) s') (λe s'=>wpAny (model B.prog B.w) (A.deeper env) (leaving env e) (λ_ s''=>R (.error e) s'') (λe' s''=>R (.error e') s'') s') s₁):
  wpAny (model B.prog B.w) A.in1 (newFunctionEnv fd.scope fd.globals fd.closure ((params.map nm).zip vs) (fd.qualname ++".<locals>.") (some a) fd.code none fd.builtins)
   (λenv s₂=>s₂.heap.NoLimit/\codeAny (model B.prog B.w) A (.func body env) R s₂)
   (λ_ _=>False) s:=by
 have cps:aA ps=true:=lG eσ;refine af I.own λslots hown=>?_;have hnames:=my hown;have kinds:∀i∈params,fd.scope.names.lookup (nm i)=some .local\/fd.scope.names.lookup (nm i)=some .cell:=λi hi=>by
  obtain⟨_,c,hc⟩:=I.ps i hi;rcases lm (hnames i c hc)with⟨_,h⟩|⟨_,h⟩
  ·exact .inl h
  ·exact .inr h
 rw[I.clo];refine wpAny_newFunctionEnv_cells I.kind (λx hx=>?_) λenv0 hE0 s₁ IC=>⟨(B.lim.keeps V.base).keeps IC.toInCall.keep,?_⟩
 ·refine aP (mo hx) λi hi e=>?_;rw[e];rcases kinds i hi with h|h
  ·exact .inl h
  ·refine af (dR fd.scope.names (s.heap.objs.size+1) [] (nm i) h) λca hca=>?_;exact .inr ⟨h,by rw[hca];rfl⟩
 subst hE0;refine(?_:codeAny (model B.prog B.w) A (.func body (callEnvC fd s.heap.objs.size a)) _ s₁);change InCallC s (callEnvC fd s.heap.objs.size a).locals (bindL (callEnvC fd s.heap.objs.size a).kindOf ((params.map nm).zip vs) λ_=>none) (callEnvC fd s.heap.objs.size a).cells (bindC (callEnvC fd s.heap.objs.size a).kindOf ((params.map nm).zip vs) λ_=>none) s₁ at IC;refine codeAny_func ?_;generalize hE:callEnvC fd s.heap.objs.size a=env at IC ⊢;have hsc:env.scope=fd.scope:=by rw[hE.symm];rfl
 have hko:∀x,env.kindOf x=fd.scope.names.lookup x:=λx=>by rw[hE.symm];rfl
 have hcells:env.cells=cellsFrom (s.heap.objs.size+1) fd.scope.names []:=by rw[hE.symm];rfl
 refine eV IC.toInCall.same λh₁ tk hs₁=>?_;have kp:=IC.toInCall.keep;have hL:env.locals=s.heap.objs.size:=by rw[hE.symm];rfl
 let F':Addr->Prop:=λb=>b=env.locals\/∃x,env.cells.lookup x=some b
 have hnone:∀b,s.heap.objs.size<=b->s.heap.get? b=none:=λb hb=>by
  cases q:s.heap.get? b with
  |none=>rfl
  |some o=>exact absurd (gB q) (Nat.not_lt.mpr hb)
 have hF':∀b,F' b->s.heap.get? b=none/\s₁.heap.get? b≠none:=by
  rintro b (rfl|⟨x,hx⟩)
  ·refine⟨hnone _ (by rw[hL];exact d4 _),?_⟩;refine pJ IC.toInCall.ns λo _ _ ho _=>?_;rw[ho];exact λq=>nomatch q
  ·refine⟨hnone b (Nat.le_of_lt ?_),?_⟩
   ·have:=IC.above x b (mem_of_lookup hx);replace this:=hL▸this;exact this
   ·refine aP (IC.cell x b hx) λo ho _=>?_;rw[ho];exact λq=>nomatch q
 have V1:cV B (C.enter F') s₁.heap:=V.enter kp hF';have rs1:aH (C.enter F') s₁.heap ps vs:=(rs.enter (λb q=>(hF' b q).1) cps).keep (C:=C.enter F') λb o _ e=>kp b o e;obtain⟨av,hlσ⟩:=nq (C:=C.enter F') (h:=s₁.heap) I.nd (kindOf:=env.kindOf) (N:=N) params (ml:=λ_=>none) (mc:=λ_=>none) eσ rs1 (by simp) I.ps λi c hi=>by
  have:(List.replicate N (none:Option AV)).getD i none=none:=by simp[List.getD,List.getElem?_replicate];split<;>rfl
  rw[this];trivial
 have S1:dY B (C.enter F') env nm sc σ [] s₁.heap:={
  vol:=V1
  fF:=.inl rfl
  cF:=λx b e=>.inl (.inr ⟨x,e⟩)
  mF:=λ_ _ q=>nomatch q
  mlist:=λ_ _ q=>nomatch q
  minj:=λ_ _ _ q=>nomatch q
  ex:=⟨pZ env.kindOf (bindL env.kindOf ((params.map nm).zip vs) λ_=>none) (bindC env.kindOf ((params.map nm).zip vs) λ_=>none),{
   kind:=by rw[hsc];exact I.kind
   gl:=by rw[hE.symm];exact I.gl
   bt:=by rw[hE.symm];exact I.bt
   ns:=⟨_,IC.toInCall.ns,λx hx=>by unfold pZ;rw[if_pos hx];rfl⟩
   cell:=λx c hk hc=>by
    have:=IC.cell x c hc;have hne:¬env.kindOf x=some .local:=by rcases hk with hk|hk<;>(rw[hk];decide)
    unfold pZ;rw[if_neg hne];exact this
   apart:=λx y b hx hy=>name_of_addr IC.apart (mem_of_lookup hx) (mem_of_lookup hy) },λi c hi=>⟨?_,av i c hi⟩⟩ }
 case refine_1=>
  rcases lm (hnames i c hi)with⟨rfl,h⟩|⟨rfl,h⟩
  ·refine(?_:env.kindOf (nm i)=some .local);rw[hko ..];exact h
  ·refine af (dR fd.scope.names (s.heap.objs.size+1) [] (nm i) h) λca hca=>?_;refine⟨.inl (by rw[hko ..];exact h),ca,by rw[hcells];exact hca,.inr ⟨nm i,by rw[hcells];exact hca⟩⟩
 have x1:a9 none s s₁:=by rw[hs₁]at kp ⊢;exact⟨rfl,rfl,rfl,λb o _ e=>kp b o e⟩
 have T1:aU (C.enter F') T s₁.heap:=(Y.enter λb q=>(hF' b q).1).kept x1;have hfr:env.frame=some env.locals:=by rw[hE.symm];rfl
 refine wpAny_mono (hb F' env s₁ (λb q=>(hF' b q).1) hfr (λx b e=>.inr ⟨x,e⟩) ⟨by rw[hsc];exact I.kind,hko⟩ hlσ ⟨S1,T1⟩ x1) (λf s' h=>?_) λ_ _ h=>h;cases f<;>exact h
theorem Av{a:Addr}{params:List Nat}{sc:SC}{o:Obj}{fd:FuncData}(I:dX B a nm N params sc o fd){body:List Stmt}
  {C:Cx} {A:Around} {s:Shared} {ps:List PV} {vs:List Value} {T:aC} {σ:aF} {Q:aJ Value}
  (eσ:aq (List.replicate N none) (params.map λi=>(i,⟨0,0,0,0⟩)) ps=some σ)
  (F:bJ (K+1) A) (V:cV B C s.heap) (Y:aU C T s.heap) (rs:aH C s.heap ps vs)
  (hb:∀F' A' env s₁,(∀b,F' b->s.heap.get? b=none)->bJ K A'->bl env fd.scope.names->σ.length=N->At B (C.enter F') env nm sc σ [] T s₁.heap->a9 none s s₁->WP B A' (execs body env) (λf s'=>Q (pG f) s') s₁):
  wpAny (model B.prog B.w) A.in1 (newFunctionEnv fd.scope fd.globals fd.closure ((params.map nm).zip vs) (fd.qualname ++".<locals>.") (some a) fd.code none fd.builtins)
   (λenv s₂=>s₂.heap.NoLimit/\codeAny (model B.prog B.w) A (.func body env) (λr s'=>match r with|.ok (.ret v)=>Q v s'|.ok _=>False|.error _=>False) s₂)
   (λ_ _=>False) s:=
 ry I eσ V Y rs λF' env s₁ hF _ _ EO hl Y1 x1=>wpAny_mono (hb F' (A.deeper env) env s₁ hF (F.deeper env) EO hl Y1 x1) (λ_ _ x=>x) λ_ _ f=>f.elim
theorem gZ{a:Addr}{params:List Nat}{sc:SC}{o:Obj}{fd:FuncData}(I:dX B a nm N params sc o fd){body:List Stmt}(hbody:fd.body=.stmts body)
  {C:Cx} {A:Around} {s:Shared} {ps:List PV} {vs:List Value} {args:Args} {T:aC} {σ:aF} {R:aJ Result}
  (hbind:BindsTo s fd args ((params.map nm).zip vs)) (eσ:aq (List.replicate N none) (params.map λi=>(i,⟨0,0,0,0⟩)) ps=some σ)
  (hroom:A.depth<recursionLimit) (V:cV B C s.heap) (Y:aU C T s.heap) (rs:aH C s.heap ps vs)
  (hb:∀F' env s₁,(∀b,F' b->s.heap.get? b=none)->env.frame=some env.locals->(∀x b,env.cells.lookup x=some b->F' b)->bl env fd.scope.names->σ.length=N->At B (C.enter F') env nm sc σ [] T s₁.heap->a9 none s s₁ ->
   wpAny (model B.prog B.w) (A.deeper env) (execs body env) (λf s'=>R (.ok (.ret (pG f))) s') (λe s'=>wpAny (model B.prog B.w) (A.deeper env) (leaving env e) (λ_ s''=>R (.error e) s'') (λe' s''=>R (.error e') s'') s') s₁):
  codeAny (model B.prog B.w) A (.call (.ref a) args) R s:=by
 refine codeAny_call_function (body:=body) hroom (V.base a o I.ho) I.dat I.cor I.gen hbody (I.code.keeps V.base) (hbind _ _ _ _ ?_);exact wpAny_mono (ry I eσ V Y rs hb) (λ_ _ x=>x) λ_ _ f=>f.elim
set_option backward.match.sparseCases true in
noncomputable abbrev RC(Q:aJ Value):aJ Result:=λr s'=>match r with
 |.ok (.ret v)=>Q v s'
 |.ok _=>False
 |.error _=>False
theorem qB{a:Addr}{params:List Nat}{sc:SC}{o:Obj}{fd:FuncData}(I:dX B a nm N params sc o fd){body:List Stmt}(hbody:fd.body=.stmts body)
  {C:Cx} {A:Around} {s:Shared} {ps:List PV} {vs:List Value} {args:Args} {T:aC} {σ:aF} {Q:aJ Value}
  (eσ:aq (List.replicate N none) (params.map λi=>(i,⟨0,0,0,0⟩)) ps=some σ) (F:bJ (K+1) A) (V:cV B C s.heap)
  (hbind:wpAny (model B.prog B.w) A.in1 (bindArgs fd args) (λbinds s₀=>binds=(params.map nm).zip vs/\cV B C s₀.heap/\aU C T s₀.heap/\aH C s₀.heap ps vs /\
   ∀F' A' env s₁,(∀b,F' b->s₀.heap.get? b=none)->bJ K A'->bl env fd.scope.names->σ.length=N->At B (C.enter F') env nm sc σ [] T s₁.heap->a9 none s₀ s₁->WP B A' (execs body env) (λf s'=>Q (pG f) s') s₁) (λ_ _=>False) s):
  codeAny (model B.prog B.w) A (.call (.ref a) args) (RC Q) s:=by
 refine codeAny_call_function (body:=body) F.room (V.base a o I.ho) I.dat I.cor I.gen hbody (I.code.keeps V.base) (wpAny_mono hbind (λbinds s₀ h=>?_) λ_ _ f=>f.elim);refine z9 h ?_;clear h;intro q1q V0 Y0 r0 hb;subst q1q;exact wpAny_mono (Av I eσ F V0 Y0 r0 hb) (λ_ _ x=>⟨x.1,codeAny_mono x.2 λr s' h=>by
  cases r with
  |ok f=>cases f<;>exact h
  |error e=>exact h⟩) λ_ _ f=>f.elim
theorem pj{a:Addr}{params:List Nat}{sc:SC}{o:Obj}{fd:FuncData}(I:dX B a nm N params sc o fd){body:List Stmt}(hbody:fd.body=.stmts body)
  {C:Cx} {A:Around} {s:Shared} {ps:List PV} {vs:List Value} {args:Args} {T:aC} {σ:aF} {Q:aJ Value}
  (hbind:BindsTo s fd args ((params.map nm).zip vs)) (eσ:aq (List.replicate N none) (params.map λi=>(i,⟨0,0,0,0⟩)) ps=some σ)
  (F:bJ (K+1) A) (V:cV B C s.heap) (Y:aU C T s.heap) (rs:aH C s.heap ps vs)
  (hb:∀F' A' env s₁,(∀b,F' b->s.heap.get? b=none)->bJ K A'->bl env fd.scope.names->σ.length=N->At B (C.enter F') env nm sc σ [] T s₁.heap->a9 none s s₁->WP B A' (execs body env) (λf s'=>Q (pG f) s') s₁):codeAny (model B.prog B.w) A (.call (.ref a) args) (RC Q) s:=
 qB I hbody eσ F V (hbind _ _ _ _ ⟨rfl,V,Y,rs,hb⟩)
theorem sW{a:Addr}{params:List Nat}{sc:SC}{o:Obj}{fd:FuncData}(I:dX B a nm N params sc o fd){body:List Stmt}(hbody:fd.body=.stmts body)
  {C:Cx} {A:Around} {s:Shared} {ps:List PV} {vs:List Value} {args:Args} {T:aC} {σ:aF} {Q:aJ Value}
  (hbind:BindsTo s fd args ((params.map nm).zip vs)) (eσ:aq (List.replicate N none) (params.map λi=>(i,⟨0,0,0,0⟩)) ps=some σ)
  (F:bJ (K+1) A) (V:cV B C s.heap) (Y:aU C T s.heap) (rs:aH C s.heap ps vs)
  (hb:∀F' A' env s₁,(∀b,F' b->s.heap.get? b=none)->bJ K A'->bl env fd.scope.names->σ.length=N->At B (C.enter F') env nm sc σ [] T s₁.heap->a9 none s s₁->WP B A' (execs body env) (λf s'=>Q (pG f) s') s₁):WP B A (call (.ref a) args.pos args.kw) Q s:=
 wpAny_call (pj I hbody hbind eσ F V Y rs hb)
theorem rj{a:Addr}{params:List Nat}{sc:SC}{o:Obj}{fd:FuncData}(I:dX B a nm N params sc o fd){body:List Stmt}(hbody:fd.body=.stmts body)
  {C:Cx} {A:Around} {s:Shared} {ps:List PV} {vs:List Value} {args:Args} {T T':aC} {p:PV} {σ:aF} {Q:aJ Value}
  (hbind:BindsTo s fd args ((params.map nm).zip vs)) (eσ:aq (List.replicate N none) (params.map λi=>(i,⟨0,0,0,0⟩)) ps=some σ)
  (F:bJ (K+1) A) (V:cV B C s.heap) (Y:aU C T s.heap) (rs:aH C s.heap ps vs)
  (hb:∀F' A' env s₁ Q',(∀b,F' b->s.heap.get? b=none)->bJ K A'->bl env fd.scope.names->σ.length=N->At B (C.enter F') env nm sc σ [] T s₁.heap->a9 none s s₁->pE B nm (C.enter F') env sc s₁ p T' Q'->WP B A' (execs body env) Q' s₁)
  (hQ:mW B C s (dD p) T' Q):codeAny (model B.prog B.w) A (.call (.ref a) args) (RC Q) s:=by
 refine pj I hbody hbind eσ F V Y rs λF' A' env s₁ hF' hA EO hl Y1 x1=>hb F' A' env s₁ _ hF' hA EO hl Y1 x1 λC2 v s2 mt2 σ2 g c2 Y2 rp=>?_;refine(?_:Q v s2);have kp:=x1.all;have hX:∀b,C2.X b↔C.X b\/C.F b:=λb=>by rw[g.x];rfl
 have hhl:C2.hl=C.hl:=g.hl;have x2:a9 C.hl s s2:=⟨c2.gens.trans x1.gens,c2.drawn.trans x1.drawn,c2.os.trans x1.os,λb o l e=>c2.keep b o (λq=>by replace e:=hF' b q▸e;exact nS e) l (kp b o e)⟩;have V2:=Y2.sim.vol;have V3:cV B C s2.heap:=⟨V2.base,V.baseX,V.baseF,V.baseL,λb x=>V2.liveX b ((hX b).mpr (.inl x)),λb x=>V2.liveX b ((hX b).mpr (.inr x)),λb l=>V2.liveL b (hhl▸l),V.fx,V.lf,V.lx⟩;have mv:∀b o,¬C2.X b->C2.hl≠some b->s2.heap.get? b=some o->¬C.X b/\¬C.F b/\C.hl≠some b/\s2.heap.get? b=some o:=λb o x l e=>⟨λq=>x ((hX b).mpr (.inl q)),λq=>x ((hX b).mpr (.inr q)),hhl▸l,e⟩;have T3:aU C T' s2.heap:=Y2.tab.move (C:=C2) g.ta.symm hhl.symm (λl vs n _ e=>e) λb o x f l e=>⟨(mv b o x l e).1,(mv b o x l e).2.1,e⟩;exact hQ v s2 x2 V3 (rp.freeze mv λb e=>g.ta▸e) T3
theorem qK{a:Addr}{params:List Nat}{sc:SC}{o:Obj}{fd:FuncData}(I:dX B a nm N params sc o fd){body:List Stmt}(hbody:fd.body=.stmts body)
  {C:Cx} {A:Around} {s:Shared} {ps:List PV} {vs:List Value} {args:Args} {T T':aC} {p:PV} {σ:aF} {Q:aJ Value}
  (hbind:BindsTo s fd args ((params.map nm).zip vs)) (eσ:aq (List.replicate N none) (params.map λi=>(i,⟨0,0,0,0⟩)) ps=some σ)
  (F:bJ (K+1) A) (V:cV B C s.heap) (Y:aU C T s.heap) (rs:aH C s.heap ps vs)
  (hb:∀F' A' env s₁ Q',(∀b,F' b->s.heap.get? b=none)->bJ K A'->bl env fd.scope.names->σ.length=N->At B (C.enter F') env nm sc σ [] T s₁.heap->a9 none s s₁->pE B nm (C.enter F') env sc s₁ p T' Q'->WP B A' (execs body env) Q' s₁)
  (hQ:mW B C s (dD p) T' Q):WP B A (call (.ref a) args.pos args.kw) Q s:=
 wpAny_call (rj I hbody hbind eσ F V Y rs hb hQ)
end
noncomputable def oZ:Array Nat:=#[14,10,4,1,1,22,0,31,16,127,0,13,7,22,0,31,16,127,0,1]
noncomputable def kf:Array Nat:=#[14,14,4,1,1,9,4294966783,0,0,2147483648,0,0,0,0,0,13,11,9,4294966783,0,0,2147483648,0,0,0,0,0,1]
theorem GC{c:Nat}(h1:32<=c)(h2:c<=126)(seen:Sre.Seen):∃seen',Sre.inSet oZ c 20 5 true seen=.ok (false,seen'):=by
 have e1:(decide (0<=c)&&decide (c<=31))=false:=by simp;lia
 have e2:(c==127)=false:=by simp;lia
 refine⟨((seen.add 22).add 16).add 0,?_⟩;refine(?_:(if (decide (0<=c)&&decide (c<=31))=true then _ else(if (c==127)=true then _ else _))=_);rw[e1];rw[e2];rfl
theorem Gh{c:Nat}(h1:32<=c)(h2:c<=126)(seen:Sre.Seen):∃seen',Sre.inSet kf c 28 5 true seen=.ok (false,seen'):=by
 refine⟨(seen.add 9).add 0,?_⟩;have key:∀c:Fin 95,(decide (c.val+32<256)&&(kf.getD (5+(1+(c.val+32)/32)) 0).testBit ((c.val+32)%32))=false:=by decide +kernel
 have:=key ⟨c-32,by omega⟩;replace this:=(show c-32+32=c by omega)▸this;refine(?_:(if (decide (c<256)&&(kf.getD (5+(1+c/32)) 0).testBit (c%32))=true then _ else _)=_);rw[this];rfl
theorem uN{m:Sre.M}(hl:m.lim=m.text.size)(ht:∀c∈m.text.toList,32<=c/\c<=126)(hs:∀c,32<=c->c<=126->∀seen,∃seen',Sre.inSet m.code c m.code.size 5 true seen=.ok (false,seen')):
  ∀(fuel s:Nat) (seen:Sre.Seen),∃seen',Sre.M.admitted m fuel s seen=.ok (none,seen')
 |0,_,seen=>⟨seen,rfl⟩
 |fuel+1,s,seen=>by
  refine(?_:∃seen',(if s≥m.lim then _ else _)=_);by_cases h:s≥m.lim
  ·rw[if_pos h];exact⟨seen,rfl⟩
  ·rw[if_neg h];have hlt:s<m.text.size:=by lia
   have hm:m.text.getD s 0∈m.text.toList:=by simp[Array.getD,hlt]
   refine cL (ht _ hm) λa b=>?_;refine af (hs _ a b seen) λseen' e=>?_;rw[e];exact uN hl ht hs fuel (s+1) seen'
structure dw(m:Sre.M):Prop where
 ans:m.answer=some false
 fr:m.frames=[]
 out:m.outcome=none
theorem dw.run{m:Sre.M}(h:dw m):(m.runFor 4).outcome=some .failed:=by
 have s1:m.step={ m with outcome:=some .failed }:=by unfold Sre.M.step;rw[h.ans];rw[h.fr];rw[h.out];rfl
 refine(?_:((if m.outcome.isSome=true then m else Sre.M.runFor 3 m.step)).outcome=_);rw[h.out];refine(?_:(Sre.M.runFor 3 m.step).outcome=_);rw[s1];rfl
theorem mZ{m:Sre.M}{s:Nat}{first:Bool}(hf:m.hasFirstSet=true)(h:∃seen',Sre.M.admitted m (m.lim+1-s) s m.seen=.ok (none,seen'))(fr:m.frames=[])(out:m.outcome=none):dw (m.attemptFrom s first):=by refine af h ?_;clear h;intro seen' h;unfold Sre.M.attemptFrom;rw[hf];rw[h];exact⟨rfl,fr,out⟩
theorem zZ{text:Array Nat}(ht:∀c∈text.toList,32<=c/\c<=126):dw (Sre.forSearch oZ text 0 0 text.size false):=by
 unfold Sre.forSearch;refine(?_:dw (if (decide (0 > text.size)||decide (text.size-0<1))=true then _ else _))
 split
 ·exact⟨rfl,rfl,rfl⟩
 ·exact mZ rfl (uN rfl ht (λc h1 h2 seen=>GC h1 h2 seen) _ _ _) rfl rfl
theorem zw{text:Array Nat}(ht:∀c∈text.toList,32<=c/\c<=126):dw (Sre.forSearch kf text 0 0 text.size false):=by
 unfold Sre.forSearch;refine(?_:dw (if (decide (0 > text.size)||decide (text.size-0<1))=true then _ else _))
 split
 ·exact⟨rfl,rfl,rfl⟩
 ·exact mZ rfl (uN rfl ht (λc h1 h2 seen=>Gh h1 h2 seen) _ _ _) rfl rfl
theorem d5{x:Str}(h:aS x=true):x.length<=5000/\∀c∈x.cps.toList,32<=c/\c<=126:=by simp only[aS,cC,bD]at h;exact⟨fn h.1,λc hc=>⟨fn (h.2 c hc).1,fn (h.2 c hc).2⟩⟩
open Builtin Builtin.Re in
theorem wE{M:Model}{A:Around}{E:aJ Value}{s:Shared}{m:Sre.M}{Q:Option Sre.M->Shared->Prop}(h:dw m)(hq:Q none s):wpAny M A (reRunToEnd m) Q E s:=by
 unfold reRunToEnd;refine wpAny_bind ?_;have e:(2:Nat) ^ 64=18446744073709551615+1:=by decide
 rw[e];have hr:=h.run;refine(?_:wpAny M A (if ((m.runFor 4).outcome.isSome)=true then pure (m.runFor 4)else _) _ E s);rw[hr];rw[if_pos (show(some Sre.Outcome.failed).isSome=true from rfl)];refine wpAny_pure ?_;refine wpAny_bind ?_;refine wpAny_forIn_list _ (λ_ _ s'=>s'=s) _ (λx rest b s' hs=>?_) (λb s' hs=>?_) _ _ rfl
 ·subst hs
  split
  ·exact wpAny_bind (wpAny_rule (wpAny_pure rfl))
  ·exact wpAny_pure rfl
 ·subst hs;rw[hr];exact wpAny_pure hq
theorem lK:PlainAttrs "re.Pattern":=
 ⟨⟨"object.__getattribute__",by rw[typeLookup_type ..];rw[builtinLookup_eq_fast];kernel_rfl,by decide +kernel⟩,by rw[typeLookup_type ..];rw[builtinLookup_eq_fast];kernel_rfl⟩
theorem nU:Slot "re.Pattern" "search" "re.Pattern.search":=
 .of (owner:="re.Pattern") (n:="search") (by rw[typeLookup_type ..];rw[builtinLookup_eq_fast];kernel_rfl) (by decide +kernel) (by decide +kernel) (by decide +kernel)
  (by first|exact .inl (by decide +kernel)|exact .inr (by decide +kernel)) (by rw[isSubtype_type ..];kernel_rfl)
theorem ve:typeOf (.builtin "re.Pattern.search")=pure (.type "method_descriptor"):=by show builtinType _=_;rw[builtinType_eq_fast];kernel_rfl
theorem uO:entryFor table "re.Pattern.search"=some Builtin.«re.Pattern.search»:=entryFor_of_tree (by kernel_rfl)
theorem vn(a b:Value):argsOk "re.Pattern.search" ⟨[a,b],[]⟩:=by unfold argsOk;kernel_rfl
structure nh(h:Heap)(r:Addr)(code:Array Nat):Prop where
 at':∃o p f c oc n vs,h.get? r=some o/\o.cls=.type "re.Pattern"/\o.dict=none/\o.data=.fields #[p,f,.int 0 0,.none,.none,.ref c,.int 0 0]/\h.get? c=some oc/\oc.data=.seq vs n/\(vs.map Builtin.Re.reRawOf).map (·.toNat)=code
theorem HY:5000<=((2:Int) ^ 63-1).toNat:=by decide +kernel
open Builtin Builtin.Re in
theorem q9{M:Model}{A:Around}{E:aJ Value}{s:Shared}{t:ReTarget}{code text:Array Nat}{Q:aJ Fin}(h1:t.code=code)(h2:t.text=text)(h3:t.groups=0)(h4:t.pos=0)(h5:t.lim=text.size)
  (hm:dw (Sre.forSearch code text 0 0 text.size false)) (hq:Q (.done (.ret .none)) s):wpAny M A (reAnswer t (Sre.forSearch t.code t.text t.groups t.pos t.lim false)) Q E s:=by
 rw[h1];rw[h2];rw[h3];rw[h4];rw[h5];unfold reAnswer;exact wpAny_bind (wE hm (wpAny_pure hq))
open Builtin Builtin.Re in
theorem uQ{M:Model}{A:Around}{E:aJ Value}{s:Shared}{r:Addr}{code:Array Nat}{x:Str}{t:Tok}{Q:aJ Fin}(P:nh s.heap r code)(hx:aS x=true)
  (hc:∀text:Array Nat,(∀c∈text.toList,32<=c/\c<=126)->dw (Sre.forSearch code text 0 0 text.size false)) (hq:Q (.done (.ret .none)) s):
  wpAny M A (Builtin.«re.Pattern.search» ⟨[.ref r,.str x t],[]⟩) Q E s:=by
 obtain⟨o,p,f,c,oc,n,vs,ho,hcls,_,hd,hoc,hdc,hcode⟩:=P.at';refine cL (d5 hx) λhlen hch=>?_;unfold Builtin.«re.Pattern.search»;refine wpAny_bind ?_;unfold reTarget
 wp_walk
 rw[hd]
 wp_walk
 rw[hdc];refine wpAny_pure (wpAny_pure (wpAny_pure ?_));exact q9 hcode rfl rfl (Nat.zero_min _) (Nat.min_eq_right (de hlen HY)) (hc _ hch) hq
section
variable{B:aX}{A:Around}{s:Shared}
theorem zC{r:Addr}{code:Array Nat}{x:Str}{t:Tok}{Q:aJ Value}(P:nh s.heap r code)(hx:aS x=true)
  (hc:∀text:Array Nat,(∀c∈text.toList,32<=c/\c<=126)->dw (Sre.forSearch code text 0 0 text.size false)) (hq:Q .none s):WP B A (call (.builtin "re.Pattern.search") [.ref r,.str x t]) Q s:=by
 obtain⟨o,_,_,_,_,_,_,ho,hcls,_⟩:=id P.at';exact wpAny_call_entry nU ⟨o,ho,hcls⟩ uO (uQ P hx hc ⟨_,rfl,hq⟩) (vn _ _)
end
noncomputable abbrev sx(x:String):Str:=Str.ofString x
noncomputable abbrev le(l:List (Str×NameKind)):Scope:={ kind:=.function,names:=l,isGenerator:=false,isCoroutine:=false }
noncomputable def hZ(l:List Str)(i:Nat):Str:=(l[i]?).getD ⟨#[]⟩
noncomputable abbrev iq(l a b:Nat):Pos:=⟨l,a,l,b⟩
noncomputable abbrev iv(i l a b:Nat):E:=.var i ⟨l,a,l,b⟩
noncomputable abbrev ic(n:Int)(l a b:Nat):E:=.cst (.int n) 0 ⟨l,a,l,b⟩
noncomputable abbrev i1(x:E):E:=.cons x .nil
noncomputable def lY:Nat->Str:=hZ [(sx "flags"),(sx "names"),(sx "i"),(sx "flag")]
noncomputable def io:Nat:=4
noncomputable def dz:List Nat:=[0]
noncomputable def iY:S:=
 (.seq
 (.own 1 (iq 8 4 9) .nil (iq 8 12 14) (iq 8 4 14))
 (.seq
 (.for_ (.one 2 (iq 9 8 9)) (.callb .range (iq 9 13 18) (i1 (ic 32 9 19 21)) (iq 9 13 22)) (.seq
 (.assign 3 (iq 10 8 12) (.bin .LShift (ic 1 10 15 16) (iv 2 10 20 21) (iq 10 15 21)) (iq 10 8 21))
 (.seq
 (.ite (.bin .BitAnd (iv 0 11 11 16) (iv 3 11 19 23) (iq 11 11 23)) (.seq
 (.append 1 (iq 12 12 17) (iq 12 12 24) (.flagGet (iq 12 25 44) (iq 12 25 48) (iv 3 12 49 53) (.callb .hex (iq 12 55 58) (i1 (iv 3 12 59 63)) (iq 12 55 64)) (iq 12 25 65)) (iq 12 12 66) (iq 12 12 66))
 (.seq
 (.aug 0 (iq 13 12 17) .BitXor (iv 3 13 21 25) (iq 13 12 25))
 (.seq
 (.ite (.not (iv 0 14 19 24) (iq 14 15 24)) (.seq
 (.brk (iq 15 16 21))
 .nil) .nil ⟨14,12,15,21⟩)
 .nil))) .nil ⟨11,8,15,21⟩)
 .nil)) (.seq
 (.append 1 (iq 17 8 13) (iq 17 8 20) (.callb .hex (iq 17 21 24) (i1 (iv 0 17 25 30)) (iq 17 21 31)) (iq 17 8 32) (iq 17 8 32))
 .nil) ⟨9,4,17,32⟩)
 (.seq
 (.ret (.meth (.cst (.str (sx ", ")) 0 (iq 18 11 15)) .join (iq 18 11 20) (i1 (iv 1 18 21 26)) (iq 18 11 27)) (iq 18 4 27))
 .nil)))
noncomputable def nR:Nat->Str:=hZ [(sx "script"),(sx "place"),(sx "sums"),(sx "clauses"),(sx "texts"),(sx "octets"),(sx "order"),(sx "pool"),(sx "rest"),(sx "number"),(sx "digits"),(sx "plain"),(sx "other"),(sx "clause"),(sx "spot"),(sx "letter"),(sx "size"),(sx "place"),(sx "base"),(sx "letter"),(sx "place"),(sx "octet")]
noncomputable def qc:Nat:=22
noncomputable def eY:List Nat:=[0]
noncomputable def bQ:S:=
 (.seq
 (.assign 2 (iq 176 4 8) (.comp (.bin .Mod (.bin .Add (iv 18 176 13 17) (.callb .sum (iq 176 20 23) (i1 (.slc (iv 0 176 24 30) (iv 17 176 31 36) (ic 60 176 37 39) (ic 7 176 40 41) (iq 176 31 41) (iq 176 24 42))) (iq 176 20 43)) (iq 176 13 43)) (.bin .Pow (ic 10 176 47 49) (ic 6 176 53 54) (iq 176 47 54)) (iq 176 12 54)) (.many [(17,(iq 176 59 64)),(18,(iq 176 66 70))] 0 (iq 176 59 70)) (.callb .enumerate (iq 176 74 83) (i1 (.list (.cons (ic 55 176 85 87) (.cons (ic 36 176 89 91) (.cons (ic 92 176 93 95) (.cons (ic 14 176 97 99) (.cons (ic 44 176 101 103) (.cons (ic 59 176 105 107) (i1 (ic 61 176 109 111)))))))) (iq 176 84 112))) (iq 176 74 113)) .nil [0] (le [((sx ".0"),.local),((sx "place"),.local),((sx "base"),.local),((sx "sum"),.globalImplicit),((sx "script"),.free)]) (iq 176 11 114)) (iq 176 4 114))
 (.seq
 (.unpackD [(3,(iq 177 4 11)),(4,(iq 177 13 18)),(5,(iq 177 20 26)),(6,(iq 177 28 33)),(7,(iq 177 35 39)),(8,(iq 177 41 45))] 0 (iq 177 4 45) (.cons (.list .nil (iq 177 49 51)) (.cons (.list .nil (iq 177 53 55)) (.cons (.list .nil (iq 177 57 59)) (.cons (.list .nil (iq 177 61 63)) (.cons (.list (.cons (ic 0 177 66 67) (.cons (ic 1 177 69 70) (.cons (ic 2 177 72 73) (i1 (ic 3 177 75 76))))) (iq 177 65 77)) (i1 (.sub (iv 2 177 79 83) (ic 6 177 84 85) (iq 177 79 86)))))))) [true,true,true,true,true,false] 0 (iq 177 48 87) (iq 177 4 87))
 (.seq
 (.for_ (.many [(1,(iq 178 8 13)),(9,(iq 178 15 21))] 0 (iq 178 8 21)) (.callb .enumerate (iq 178 25 34) (i1 (.slc (iv 2 178 35 39) .miss (ic 6 178 41 42) .miss (iq 178 40 42) (iq 178 35 43))) (iq 178 25 44)) (.seq
 (.unpackD [(10,(iq 179 8 14)),(11,(iq 179 16 21)),(12,(iq 179 23 28)),(13,(iq 179 30 36))] 0 (iq 179 8 36) (.cons (.bin .Add (.bin .Mod (iv 9 179 40 46) (ic 26 179 49 51) (iq 179 40 51)) (ic 1 179 54 55) (iq 179 40 55)) (.cons (.list .nil (iq 179 57 59)) (.cons (.list .nil (iq 179 61 63)) (i1 (ic 0 179 65 66))))) [false,true,true,false] 0 (iq 179 39 67) (iq 179 8 67))
 (.seq
 (.for_ (.one 14 (iq 180 12 16)) (.callb .range (iq 180 20 25) (.cons (.bin .FloorDiv (iv 1 180 26 31) (ic 3 180 35 36) (iq 180 26 36)) (i1 (.bin .Add (.bin .FloorDiv (iv 1 180 38 43) (ic 3 180 47 48) (iq 180 38 48)) (ic 3 180 51 52) (iq 180 38 52)))) (iq 180 20 53)) (.seq
 (.assign 15 (iq 181 12 18) (.sub (.sub (.tuple (.cons (.cst (.str (sx "pqrs")) 0 (iq 181 22 28)) (i1 (.cst (.str (sx "PQRS")) 0 (iq 181 30 36)))) 0 (iq 181 21 37)) (.bin .Mod (.bin .FloorDiv (iv 9 181 38 44) (ic 52 181 48 50) (iq 181 38 50)) (ic 2 181 53 54) (iq 181 38 54)) (iq 181 21 55)) (iv 14 181 56 60) (iq 181 21 61)) (iq 181 12 61))
 (.seq
 (.extend 11 (iq 182 12 17) (iq 182 12 24) (.bin .Mult (.list (i1 (iv 15 182 26 32)) (iq 182 25 33)) (.cmp .Eq (.bin .Mod (iv 10 182 37 43) (ic 3 182 46 47) (iq 182 37 47)) (ic 1 182 51 52) (iq 182 37 52)) (iq 182 25 53)) (iq 182 12 54) (iq 182 12 54))
 (.seq
 (.extend 12 (iq 183 12 17) (iq 183 12 24) (.bin .Mult (.list (i1 (iv 15 183 26 32)) (iq 183 25 33)) (.cmp .Eq (.bin .Mod (iv 10 183 37 43) (ic 3 183 46 47) (iq 183 37 47)) (ic 2 183 51 52) (iq 183 37 52)) (iq 183 25 53)) (iq 183 12 54) (iq 183 12 54))
 (.seq
 (.unpackD [(13,(iq 184 12 18)),(10,(iq 184 20 26))] 0 (iq 184 12 26) (.cons (.bin .Add (iv 13 184 30 36) (.bin .Mult (.bin .Pow (ic 4 184 39 40) (iv 14 184 44 48) (iq 184 39 48)) (.bin .Mod (iv 10 184 52 58) (ic 3 184 61 62) (iq 184 52 62)) (iq 184 39 63)) (iq 184 30 63)) (i1 (.bin .FloorDiv (iv 10 184 65 71) (ic 3 184 75 76) (iq 184 65 76)))) [false,false] 0 (iq 184 29 77) (iq 184 12 77))
 .nil)))) .nil ⟨180,8,184,77⟩)
 (.seq
 (.append 3 (iq 185 8 15) (iq 185 8 22) (iv 13 185 23 29) (iq 185 8 30) (iq 185 8 30))
 (.seq
 (.append 4 (iq 186 8 13) (iq 186 8 20) (.ite (.bin .Mod (.bin .FloorDiv (iv 9 186 65 71) (ic 26 186 75 77) (iq 186 65 77)) (ic 2 186 80 81) (iq 186 65 81)) (.bin .Add (.bin .Add (.meth (.cst (.str (sx "&")) 0 (iq 186 21 24)) .join (iq 186 21 29) (i1 (iv 12 186 30 35)) (iq 186 21 36)) (.cst (.str (sx "->")) 0 (iq 186 39 43)) (iq 186 21 43)) (.meth (.cst (.str (sx "|")) 0 (iq 186 46 49)) .join (iq 186 46 54) (i1 (iv 11 186 55 60)) (iq 186 46 61)) (iq 186 21 61)) (.meth (.cst (.str (sx "|")) 0 (iq 186 87 90)) .join (iq 186 87 95) (i1 (.bin .Add (iv 11 186 96 101) (.comp (.bin .Add (.cst (.str (sx "~")) 0 (iq 186 105 108)) (iv 19 186 111 117) (iq 186 105 117)) (.one 19 (iq 186 122 128)) (iv 12 186 132 137) .nil [] (le [((sx ".0"),.local),((sx "letter"),.local)]) (iq 186 104 138)) (iq 186 96 138))) (iq 186 87 139)) (iq 186 21 139)) (iq 186 8 140) (iq 186 8 140))
 (.seq
 (.extend 5 (iq 187 8 14) (iq 187 8 21) (.bin .Add (.bin .Mult (.list (i1 (.bin .Add (ic 64 187 23 25) (.bin .FloorDiv (iv 13 187 28 34) (ic 64 187 38 40) (iq 187 28 40)) (iq 187 23 40))) (iq 187 22 41)) (.cmp .Gt (iv 13 187 45 51) (ic 63 187 54 56) (iq 187 45 56)) (iq 187 22 57)) (.list (i1 (.bin .Mod (iv 13 187 61 67) (ic 64 187 70 72) (iq 187 61 72))) (iq 187 60 73)) (iq 187 22 73)) (iq 187 8 74) (iq 187 8 74))
 .nil))))) .nil ⟨178,4,187,74⟩)
 (.seq
 (.for_ (.one 16 (iq 188 8 12)) (.tuple (.cons (ic 4 188 17 18) (.cons (ic 3 188 20 21) (.cons (ic 2 188 23 24) (i1 (ic 1 188 26 27))))) 0 (iq 188 16 28)) (.seq
 (.appendPop 6 (iq 189 8 13) (iq 189 8 20) 7 (iq 189 21 25) (iq 189 21 29) (.bin .Mod (iv 8 189 30 34) (iv 16 189 37 41) (iq 189 30 41)) (iq 189 21 42) (iq 189 8 43) (iq 189 8 43))
 (.seq
 (.assign 8 (iq 190 8 12) (.bin .FloorDiv (iv 8 190 15 19) (iv 16 190 23 27) (iq 190 15 27)) (iq 190 8 27))
 .nil)) .nil ⟨188,4,190,27⟩)
 (.seq
 (.assign 5 (iq 191 4 10) (.comp (.bin .Add (iv 21 191 14 19) (.bin .Mult (ic 128 191 22 25) (.cmp .Eq (.bin .Mod (iv 20 191 29 34) (ic 3 191 37 38) (iq 191 29 38)) (.bin .Mod (iv 8 191 42 46) (ic 3 191 49 50) (iq 191 42 50)) (iq 191 29 50)) (iq 191 22 51)) (iq 191 14 51)) (.many [(20,(iq 191 56 61)),(21,(iq 191 63 68))] 0 (iq 191 56 68)) (.callb .enumerate (iq 191 72 81) (i1 (.bin .Add (iv 5 191 82 88) (.bin .Mult (.list (i1 (ic 66 191 92 94)) (iq 191 91 95)) (.bin .Mod (.bin .FloorDiv (iv 8 191 99 103) (ic 3 191 107 108) (iq 191 99 108)) (ic 2 191 111 112) (iq 191 99 112)) (iq 191 91 113)) (iq 191 82 113))) (iq 191 72 114)) .nil [8] (le [((sx ".0"),.local),((sx "place"),.local),((sx "octet"),.local),((sx "rest"),.free)]) (iq 191 13 115)) (iq 191 4 115))
 (.seq
 (.ret (.tuple (.cons (iv 3 192 12 19) (.cons (.bin .Add (.bin .Add (.meth (.cst (.str (sx ",")) 0 (iq 192 21 24)) .join (iq 192 21 29) (i1 (.slc (iv 4 192 30 35) .miss (ic 3 192 37 38) .miss (iq 192 36 38) (iq 192 30 39))) (iq 192 21 40)) (.cst (.str (sx ";")) 0 (iq 192 43 46)) (iq 192 21 46)) (.meth (.cst (.str (sx ",")) 0 (iq 192 49 52)) .join (iq 192 49 57) (i1 (.slc (iv 4 192 58 63) (ic 3 192 64 65) .miss .miss (iq 192 64 66) (iq 192 58 67))) (iq 192 49 68)) (iq 192 21 68)) (.cons (.callb .bytes (iq 192 70 75) (i1 (iv 5 192 76 82)) (iq 192 70 83)) (.cons (iv 6 192 85 90) (i1 (.bin .Mod (.bin .FloorDiv (iv 8 192 92 96) (ic 6 192 100 101) (iq 192 92 101)) (ic 3 192 104 105) (iq 192 92 105))))))) 0 (iq 192 11 106)) (iq 192 4 106))
 .nil))))))
noncomputable def pA:Nat->Str:=hZ [(sx "text"),(sx "symbols"),(sx "behind"),(sx "clauses"),(sx "clause"),(sx "turned"),(sx "place"),(sx "size"),(sx "symbol"),(sx "size"),(sx "one")]
noncomputable def yP:Nat:=11
noncomputable def ir:List Nat:=[0]
noncomputable def cM:S:=
 (.seq
 (.unpackD [(1,(iq 194 4 11)),(2,(iq 194 13 19)),(3,(iq 194 21 28)),(4,(iq 194 30 36)),(5,(iq 194 38 44))] 0 (iq 194 4 44) (.cons (.list .nil (iq 194 48 50)) (.cons (ic 0 194 52 53) (.cons (.list .nil (iq 194 55 57)) (.cons (ic 0 194 59 60) (i1 (ic 1 194 62 63)))))) [true,false,true,false,false] 0 (iq 194 47 64) (iq 194 4 64))
 (.seq
 (.for_ (.one 6 (iq 195 8 13)) (.callb .range (iq 195 17 22) (i1 (.callb .len (iq 195 23 26) (i1 (iv 0 195 27 31)) (iq 195 23 32))) (iq 195 17 33)) (.seq
 (.ite (.cmp .GtE (iv 6 196 11 16) (iv 2 196 20 26) (iq 196 11 26)) (.seq
 (.assign 7 (iq 197 12 16) (.sub (.bin .Add (.comp (iv 9 197 21 25) (.one 9 (iq 197 30 34)) (.tuple (.cons (ic 3 197 39 40) (.cons (ic 2 197 42 43) (i1 (ic 1 197 45 46)))) 0 (iq 197 38 47)) (i1 (.tokIn (.slc (iv 0 197 51 55) (iv 6 197 56 61) (.bin .Add (iv 6 197 62 67) (iv 9 197 70 74) (iq 197 62 74)) .miss (iq 197 56 74) (iq 197 51 75)) (iq 197 79 96) (iq 197 51 96))) [6,0] (le [((sx ".0"),.local),((sx "size"),.local),((sx "EXACT_TOKEN_TYPES"),.globalImplicit),((sx "place"),.free),((sx "text"),.free)]) (iq 197 20 97)) (.list (i1 (ic 0 197 101 102)) (iq 197 100 103)) (iq 197 20 103)) (ic 0 197 105 106) (iq 197 19 107)) (iq 197 12 107))
 (.seq
 (.append 1 (iq 198 12 19) (iq 198 12 26) (.ite (iv 7 198 74 78) (.tokAt (.slc (iv 0 198 45 49) (iv 6 198 50 55) (.bin .Add (iv 6 198 56 61) (iv 7 198 64 68) (iq 198 56 68)) .miss (iq 198 50 68) (iq 198 45 69)) (iq 198 27 44) (iq 198 27 70)) (.bin .Add (ic 256 198 84 87) (.callb .ord (iq 198 90 93) (i1 (.sub (iv 0 198 94 98) (iv 6 198 99 104) (iq 198 94 105))) (iq 198 90 106)) (iq 198 84 106)) (iq 198 27 106)) (iq 198 12 107) (iq 198 12 107))
 (.seq
 (.assign 2 (iq 199 12 18) (.bin .Add (iv 6 199 21 26) (.callb .max (iq 199 29 32) (.cons (ic 1 199 33 34) (i1 (iv 7 199 36 40))) (iq 199 29 41)) (iq 199 21 41)) (iq 199 12 41))
 .nil))) .nil ⟨196,8,199,41⟩)
 .nil) .nil ⟨195,4,199,41⟩)
 (.seq
 (.ite (.cmp .NotEq (.comp (iv 10 200 8 11) (.one 10 (iq 200 16 19)) (.bin .Add (iv 1 200 23 30) (.list (.cons (ic 0 200 34 35) (.cons (ic 255 200 37 40) (.cons (ic 256 200 42 45) (i1 (.neg (ic 1 200 48 49) (iq 200 47 49)))))) (iq 200 33 50)) (iq 200 23 50)) (i1 (.bool .Or (.cons (.cmp .IsNot (.callu .isnon (iq 200 54 67) (i1 (iv 10 200 68 71)) (iq 200 54 72)) (.cmp .Gt (iv 10 200 81 84) (ic 255 200 87 90) (iq 200 81 90)) (iq 200 54 91)) (.cons (.cmp .IsNot (.callu .isterm (iq 200 95 105) (i1 (iv 10 200 106 109)) (iq 200 95 110)) (.cmp .Lt (iv 10 200 119 122) (ic 256 200 125 128) (iq 200 119 128)) (iq 200 95 129)) (i1 (.cmp .IsNot (.callu .iseof (iq 200 133 138) (i1 (iv 10 200 139 142)) (iq 200 133 143)) (.cmp .Eq (iv 10 200 152 155) (ic 0 200 159 160) (iq 200 152 160)) (iq 200 133 161))))) (iq 200 54 161))) [] (le [((sx ".0"),.local),((sx "one"),.local),((sx "ISNONTERMINAL"),.globalImplicit),((sx "ISTERMINAL"),.globalImplicit),((sx "ISEOF"),.globalImplicit)]) (iq 200 7 162)) (.list .nil (iq 200 166 168)) (iq 200 7 168)) (.seq
 (.ret (.list .nil (iq 201 15 17)) (iq 201 8 17))
 .nil) .nil ⟨200,4,201,17⟩)
 (.seq
 (.for_ (.one 8 (iq 202 8 14)) (.bin .Add (iv 1 202 18 25) (.list (i1 (ic 0 202 29 30)) (iq 202 28 31)) (iq 202 18 31)) (.seq
 (.ite (.callu .isnon (iq 203 11 24) (i1 (iv 8 203 25 31)) (iq 203 11 32)) (.seq
 (.unpackD [(4,(iq 204 12 18)),(5,(iq 204 20 26))] 0 (iq 204 12 26) (.cons (.bin .Add (iv 4 204 30 36) (.bin .Mult (iv 5 204 39 45) (.bin .Pow (ic 4 204 48 49) (.meth (.cst (.str (sx "pqrs")) 0 (iq 204 53 59)) .index (iq 204 53 65) (i1 (.meth (.callb .chr (iq 204 66 69) (i1 (.bin .Sub (iv 8 204 70 76) (ic 256 204 79 82) (iq 204 70 82))) (iq 204 66 83)) .lower (iq 204 66 89) .nil (iq 204 66 91))) (iq 204 53 92)) (iq 204 48 92)) (iq 204 39 92)) (iq 204 30 92)) (i1 (ic 1 204 94 95))) [false,false] 0 (iq 204 29 96) (iq 204 12 96))
 .nil) (.seq
 (.ite (.cmp .Eq (iv 8 205 13 19) (ic 31 205 23 25) (iq 205 13 25)) (.seq
 (.assign 5 (iq 206 12 18) (ic 2 206 21 22) (iq 206 12 22))
 .nil) (.seq
 (.ite (.cmp .Eq (iv 8 207 13 19) (ic 51 207 23 25) (iq 207 13 25)) (.seq
 (.assign 4 (iq 208 12 18) (.bin .Mult (ic 2 208 21 22) (iv 4 208 25 31) (iq 208 21 31)) (iq 208 12 31))
 .nil) (.seq
 (.ite (.cmp .In (iv 8 209 13 19) (.tuple (.cons (ic 0 209 24 25) (.cons (ic 12 209 27 29) (i1 (ic 13 209 31 33)))) 0 (iq 209 23 34)) (iq 209 13 34)) (.seq
 (.append 3 (iq 210 12 19) (iq 210 12 26) (iv 4 210 27 33) (iq 210 12 34) (iq 210 12 34))
 (.seq
 (.assign 4 (iq 211 12 18) (ic 0 211 21 22) (iq 211 12 22))
 .nil)) .nil ⟨209,8,211,22⟩)
 .nil) ⟨207,8,211,22⟩)
 .nil) ⟨205,8,211,22⟩)
 .nil) ⟨203,8,211,22⟩)
 .nil) .nil ⟨202,4,211,22⟩)
 (.seq
 (.ret (iv 3 212 11 18) (iq 212 4 18))
 .nil)))))
noncomputable def nQ:Nat->Str:=hZ [(sx "mask"),(sx "flags"),(sx "bit"),(sx "flag")]
noncomputable def pY:Nat:=4
noncomputable def iT:List Nat:=[0]
noncomputable def oa:S:=
 (.seq
 (.assign 1 (iq 222 4 9) (.meth (.cst (.str (sx "OPTIMIZED NEWLOCALS VARARGS VARKEYWORDS NESTED GENERATOR NOFREE COROUTINE")) 0 (iq 222 12 87)) .split (iq 222 12 93) (i1 (.cst (.str (sx " ")) 0 (iq 222 94 97))) (iq 222 12 98)) (iq 222 4 98))
 (.seq
 (.ret (.meth (.cst (.str (sx ", ")) 0 (iq 223 11 15)) .join (iq 223 11 20) (i1 (.comp (iv 3 223 22 26) (.many [(2,(iq 223 31 34)),(3,(iq 223 36 40))] 0 (iq 223 31 40)) (.callb .enumerate (iq 223 44 53) (i1 (iv 1 223 54 59)) (iq 223 44 60)) (i1 (.bin .BitAnd (.bin .RShift (iv 0 223 64 68) (iv 2 223 72 75) (iq 223 64 75)) (ic 1 223 78 79) (iq 223 64 79))) [0] (le [((sx ".0"),.local),((sx "bit"),.local),((sx "flag"),.local),((sx "mask"),.free)]) (iq 223 21 80))) (iq 223 11 81)) (iq 223 4 81))
 .nil))
noncomputable def nP:Nat->Str:=hZ [(sx "table"),(sx "flags"),(sx "name"),(sx "word")]
noncomputable def qk:Nat:=4
noncomputable def iQ:List Nat:=[0]
noncomputable def dm:S:=
 (.seq
 (.assign 1 (iq 225 4 9) (.meth (.cst (.str (sx "OPTIMIZED NEWLOCALS VARARGS VARKEYWORDS NESTED GENERATOR NOFREE COROUTINE")) 0 (iq 225 12 87)) .split (iq 225 12 93) (i1 (.cst (.str (sx " ")) 0 (iq 225 94 97))) (iq 225 12 98)) (iq 225 4 98))
 (.seq
 (.ret (.comp (.callb .sum (iq 226 12 15) (i1 (.comp (.bin .Pow (ic 2 226 17 18) (.meth (iv 1 226 22 27) .index (iq 226 22 33) (i1 (iv 3 226 34 38)) (iq 226 22 39)) (iq 226 17 39)) (.one 3 (iq 226 44 48)) (.meth (iv 2 226 52 56) .split (iq 226 52 62) (i1 (.cst (.str (sx ", ")) 0 (iq 226 63 67))) (iq 226 52 68)) (i1 (.cmp .NotEq (iv 2 226 72 76) (.cst (.str (sx "0x0")) 0 (iq 226 80 85)) (iq 226 72 85))) [1,2] (le [((sx ".0"),.local),((sx "word"),.local),((sx "flags"),.free),((sx "name"),.free)]) (iq 226 16 86))) (iq 226 12 87)) (.one 2 (iq 226 92 96)) (.meth (iv 0 226 100 105) .keys (iq 226 100 110) .nil (iq 226 100 112)) .nil [1] (le [((sx ".0"),.local),((sx "name"),.cell),((sx "sum"),.globalImplicit),((sx "flags"),.free)]) (iq 226 11 113)) (iq 226 4 113))
 .nil))
noncomputable def jD:Nat->Str:=hZ [(sx "table"),(sx "order"),(sx "words"),(sx "masks"),(sx "left"),(sx "sides"),(sx "unknown"),(sx "names"),(sx "mask"),(sx "name"),(sx "ways"),(sx "one"),(sx "first"),(sx "other"),(sx "last"),(sx "new"),(sx "start"),(sx "end"),(sx "mixed"),(sx "turned"),(sx "mask"),(sx "name")]
noncomputable def oC:Nat:=22
noncomputable def ft:List Nat:=[0,1,2]
noncomputable def b9:S:=
 (.seq
 (.unpackD [(3,(iq 228 4 9)),(4,(iq 228 11 15)),(5,(iq 228 17 22))] 0 (iq 228 4 22) (.cons (.callu .masks (iq 228 26 36) (i1 (iv 0 228 37 42)) (iq 228 26 43)) (.cons (.list .nil (iq 228 45 47)) (i1 (.tuple (.cons (.tuple (.cons (ic 0 228 51 52) (i1 (ic 0 228 54 55))) 0 (iq 228 50 56)) (.cons (.tuple (.cons (ic 12 228 59 61) (i1 (ic 3 228 63 64))) 0 (iq 228 58 65)) (.cons (.tuple (.cons (ic 10 228 68 70) (i1 (ic 5 228 72 73))) 0 (iq 228 67 74)) (i1 (.tuple (.cons (ic 0 228 77 78) (i1 (ic 0 228 80 81))) 0 (iq 228 76 82)))))) 0 (iq 228 49 83))))) [false,true,false] 0 (iq 228 25 84) (iq 228 4 84))
 (.seq
 (.for_ (.one 6 (iq 229 8 15)) (iv 1 229 19 24) (.seq
 (.assign 7 (iq 230 8 13) (.meth (iv 0 230 16 21) .keys (iq 230 16 26) .nil (iq 230 16 28)) (iq 230 8 28))
 (.seq
 (.assign 10 (iq 231 8 12) (.comp (.comp (.tuple (.cons (iv 20 231 18 22) (i1 (.gni (iq 231 24 38) (.meth (iv 21 231 39 43) .lower (iq 231 39 49) .nil (iq 231 39 51)) 0 (iq 231 53 58) (iq 231 53 62) (.cst (.str (sx "")) 0 (iq 231 72 74)) (iq 231 64 74) (iq 231 24 75)))) 0 (iq 231 17 76)) (.many [(20,(iq 231 81 85)),(21,(iq 231 87 91))] 0 (iq 231 81 91)) (.callb .zip (iq 231 95 98) (.cons (iv 3 231 99 104) (i1 (iv 7 231 106 111))) (iq 231 95 112)) (i1 (.bin .BitAnd (.bin .RShift (iv 20 231 116 120) (.bin .Add (.bin .Mult (ic 2 231 124 125) (iv 6 231 128 135) (iq 231 124 135)) (iv 19 231 138 144) (iq 231 124 144)) (iq 231 116 144)) (ic 1 231 147 148) (iq 231 116 148))) [0,19,6] (le [((sx ".0"),.local),((sx "mask"),.local),((sx "name"),.local),((sx "_get_name_info"),.globalImplicit),((sx "table"),.free),((sx "turned"),.free),((sx "unknown"),.free)]) (iq 231 16 149)) (.one 19 (iq 231 154 160)) (.tuple (.cons (ic 0 231 165 166) (i1 (ic 1 231 168 169))) 0 (iq 231 164 170)) .nil [3,7,0,6] (le [((sx ".0"),.local),((sx "turned"),.cell),((sx "zip"),.globalImplicit),((sx "masks"),.free),((sx "names"),.free),((sx "table"),.free),((sx "unknown"),.free)]) (iq 231 15 171)) (iq 231 8 171))
 (.seq
 (.for_ (.many [(11,(iq 232 12 15)),(12,(iq 232 17 22))] 0 (iq 232 12 22)) (.sub (iv 10 232 26 30) (ic 0 232 31 32) (iq 232 26 33)) (.seq
 (.for_ (.many [(13,(iq 233 16 21)),(14,(iq 233 23 27))] 0 (iq 233 16 27)) (.sub (iv 10 233 31 35) (ic 1 233 36 37) (iq 233 31 38)) (.seq
 (.unpackD [(15,(iq 234 16 19)),(16,(iq 234 21 26)),(17,(iq 234 28 31))] 0 (iq 234 16 31) (.cons (.bin .Sub (.bin .BitOr (iv 11 234 36 39) (iv 13 234 42 47) (iq 234 36 47)) (.bin .Mult (ic 3 234 51 52) (.bin .Pow (ic 4 234 55 56) (iv 6 234 60 67) (iq 234 55 67)) (iq 234 51 67)) (iq 234 35 67)) (.cons (.meth (iv 2 234 69 74) .index (iq 234 69 80) (i1 (.sub (iv 12 234 81 86) (ic 0 234 87 88) (iq 234 81 89))) (iq 234 69 90)) (i1 (.meth (iv 2 234 92 97) .index (iq 234 92 103) (i1 (.sub (iv 14 234 104 108) (ic 1 234 109 110) (iq 234 104 111))) (iq 234 92 112))))) [false,false,false] 0 (iq 234 34 113) (iq 234 16 113))
 (.seq
 (.assign 18 (iq 235 16 21) (.ite (iv 6 235 83 90) (.bin .BitAnd (.bin .BitOr (.sub (.sub (iv 5 235 25 30) (iv 6 235 31 38) (iq 235 25 39)) (ic 0 235 40 41) (iq 235 25 42)) (iv 16 235 45 50) (iq 235 25 50)) (.bin .BitOr (.sub (.sub (iv 5 235 55 60) (iv 6 235 61 68) (iq 235 55 69)) (ic 1 235 70 71) (iq 235 55 72)) (iv 17 235 75 78) (iq 235 55 78)) (iq 235 24 79)) (.bin .BitOr (iv 16 235 96 101) (iv 17 235 104 107) (iq 235 96 107)) (iq 235 24 107)) (iq 235 16 107))
 (.seq
 (.ite (.cmp .Eq (.bin .BitAnd (.bin .BitAnd (iv 15 236 19 22) (.bin .RShift (iv 15 236 25 28) (ic 1 236 32 33) (iq 236 25 33)) (iq 236 19 33)) (ic 85 236 36 38) (iq 236 19 38)) (ic 0 236 42 43) (iq 236 19 43)) (.seq
 (.expr (.meth (iv 0 237 20 25) .setdefault (iq 237 20 36) (.cons (.callu .pretty (iq 237 37 49) (i1 (iv 15 237 50 53)) (iq 237 37 54)) (i1 (.sub (iv 2 237 56 61) (iv 18 237 62 67) (iq 237 56 68)))) (iq 237 20 69)) (iq 237 20 69))
 .nil) .nil ⟨236,16,237,69⟩)
 .nil))) .nil ⟨233,12,237,69⟩)
 .nil) .nil ⟨232,8,237,69⟩)
 (.seq
 (.for_ (.many [(8,(iq 238 12 16)),(9,(iq 238 18 22))] 0 (iq 238 12 22)) (.callb .zip (iq 238 26 29) (.cons (iv 3 238 30 35) (i1 (iv 7 238 37 42))) (iq 238 26 43)) (.seq
 (.ite (.bin .BitAnd (.bin .RShift (iv 8 239 15 19) (.bin .Mult (ic 2 239 23 24) (iv 6 239 27 34) (iq 239 23 34)) (iq 239 15 34)) (ic 3 239 37 38) (iq 239 15 38)) (.seq
 (.delT 0 (iq 240 20 25) (.meth (iv 9 240 26 30) .lower (iq 240 26 36) .nil (iq 240 26 38)) (iq 240 20 39) (iq 240 16 39))
 .nil) .nil ⟨239,12,240,39⟩)
 .nil) .nil ⟨238,8,240,39⟩)
 (.seq
 (.assign 3 (iq 241 8 13) (.callu .masks (iq 241 16 26) (i1 (iv 0 241 27 32)) (iq 241 16 33)) (iq 241 8 33))
 (.seq
 (.append 4 (iq 242 8 12) (iq 242 8 19) (iv 3 242 20 25) (iq 242 8 26) (iq 242 8 26))
 .nil)))))) .nil ⟨229,4,242,26⟩)
 (.seq
 (.ret (iv 4 243 11 15) (iq 243 4 15))
 .nil)))
noncomputable def qN:Nat->Str:=hZ [(sx "x")]
noncomputable def yL:Nat:=1
noncomputable def mD:List Nat:=[0]
noncomputable def wK:S:=
 (.seq
 (.ret (.cmp .Lt (iv 0 91 11 12) (.gint .ntoffset (iq 91 15 24)) (iq 91 11 24)) (iq 91 4 24))
 .nil)
noncomputable def tc:Nat->Str:=hZ [(sx "x")]
noncomputable def BJ:Nat:=1
noncomputable def oV:List Nat:=[0]
noncomputable def CI:S:=
 (.seq
 (.ret (.cmp .GtE (iv 0 93 11 12) (.gint .ntoffset (iq 93 16 25)) (iq 93 11 25)) (iq 93 4 25))
 .nil)
noncomputable def uL:Nat->Str:=hZ [(sx "x")]
noncomputable def Ak:Nat:=1
noncomputable def oY:List Nat:=[0]
noncomputable def Cu:S:=
 (.seq
 (.ret (.cmp .Eq (iv 0 95 11 12) (.gint .endmarker (iq 95 16 25)) (iq 95 11 25)) (iq 95 4 25))
 .nil)
noncomputable def DJ:Nat->Str:=hZ [(sx "script"),(sx "clauses"),(sx "text"),(sx "octets"),(sx "order"),(sx "kind"),(sx "shift"),(sx "four"),(sx "means"),(sx "told"),(sx "words"),(sx "table"),(sx "said"),(sx "names"),(sx "laid"),(sx "again"),(sx "due"),(sx "place"),(sx "stand"),(sx "left"),(sx "truths"),(sx "alive"),(sx "unknown"),(sx "masks"),(sx "rows"),(sx "between")]
noncomputable def IG:Nat:=26
noncomputable def HW:List Nat:=[0]
noncomputable def i6:S:=
 (.seq
 (.unpack [(1,(iq 245 4 11)),(2,(iq 245 13 17)),(3,(iq 245 19 25)),(4,(iq 245 27 32)),(5,(iq 245 34 38))] 0 (iq 245 4 38) (.callu .drawn (iq 245 41 51) (i1 (iv 0 245 52 58)) (iq 245 41 59)) (iq 245 4 59))
 (.seq
 (.unpack [(6,(iq 246 4 9)),(7,(iq 246 11 15))] 0 (iq 246 4 15) (.sub (.tuple (.cons (.tuple (.cons (ic 8 246 20 21) (i1 (.cst (.str (sx "ITERABLE_COROUTINE ASYNC_GENERATOR 0x400 0x800")) 0 (iq 246 23 71)))) 0 (iq 246 19 72)) (.cons (.tuple (.cons (ic 29 246 75 77) (i1 (.cst (.str (sx "0x20000000 0x40000000 0x80000000 0x100000000")) 0 (iq 246 79 125)))) 0 (iq 246 74 126)) (i1 (.tuple (.cons (ic 0 246 129 130) (i1 (.cst (.str (sx "OPTIMIZED NEWLOCALS VARARGS VARKEYWORDS")) 0 (iq 246 132 173)))) 0 (iq 246 128 174))))) 0 (iq 246 18 175)) (iv 5 246 176 180) (iq 246 18 181)) (iq 246 4 181))
 .nil))
noncomputable def vC:Nat->Str:=hZ [(sx "script"),(sx "clauses"),(sx "text"),(sx "octets"),(sx "order"),(sx "kind"),(sx "shift"),(sx "four"),(sx "means"),(sx "told"),(sx "words"),(sx "table"),(sx "said"),(sx "names"),(sx "laid"),(sx "again"),(sx "due"),(sx "place"),(sx "stand"),(sx "left"),(sx "truths"),(sx "alive"),(sx "unknown"),(sx "masks"),(sx "rows"),(sx "between"),(sx "means"),(sx "bit"),(sx "word"),(sx "clause"),(sx "name"),(sx "half"),(sx "name"),(sx "half"),(sx "clause"),(sx "place"),(sx "name"),(sx "value"),(sx "place"),(sx "spot"),(sx "place"),(sx "clause"),(sx "place"),(sx "place"),(sx "mask"),(sx "name"),(sx "value"),(sx "name"),(sx "value"),(sx "clause"),(sx "clause")]
noncomputable def IM:Nat:=51
noncomputable def He:List Nat:=[0]
noncomputable def aY:S:=
 (.seq
 (.assign 12 (iq 248 4 8) (.comp (.meth (.cst (.str (sx ", ")) 0 (iq 248 12 16)) .join (iq 248 12 21) (i1 (.bool .Or (.cons (.comp (iv 28 248 23 27) (.many [(27,(iq 248 32 35)),(28,(iq 248 37 41))] 0 (iq 248 32 41)) (.callb .enumerate (iq 248 45 54) (i1 (.meth (iv 7 248 55 59) .split (iq 248 55 65) (i1 (.cst (.str (sx " ")) 0 (iq 248 66 69))) (iq 248 55 70))) (iq 248 45 71)) (i1 (.bin .BitAnd (.bin .RShift (iv 26 248 75 80) (iv 27 248 84 87) (iq 248 75 87)) (ic 1 248 90 91) (iq 248 75 91))) [26] (le [((sx ".0"),.local),((sx "bit"),.local),((sx "word"),.local),((sx "means"),.free)]) (iq 248 22 92)) (i1 (.list (i1 (.cst (.str (sx "0x0")) 0 (iq 248 97 102))) (iq 248 96 103)))) (iq 248 22 103))) (iq 248 12 104)) (.one 26 (iq 248 109 114)) (.callb .range (iq 248 118 123) (i1 (ic 16 248 124 126)) (iq 248 118 127)) .nil [7] (le [((sx ".0"),.local),((sx "means"),.cell),((sx "enumerate"),.globalImplicit),((sx "four"),.free)]) (iq 248 11 128)) (iq 248 4 128))
 (.seq
 (.ite (.bool .Or (.cons (.cmp .NotEq (iv 9 249 7 11) (iv 1 249 15 22) (iq 249 7 22)) (.cons (.cmp .NotEq (.callu .read (iq 249 26 35) (i1 (iv 2 249 36 40)) (iq 249 26 41)) (iv 1 249 45 52) (iq 249 26 52)) (i1 (.cmp .NotEq (iv 10 249 56 61) (iv 12 249 65 69) (iq 249 56 69))))) (iq 249 7 69)) (.seq
 (.ret (.cst (.bool false) 0 (iq 250 15 20)) (iq 250 8 20))
 .nil) .nil ⟨249,4,250,20⟩)
 (.seq
 (.assign 13 (iq 251 4 9) (.comp (.callu .pretty (iq 251 13 25) (i1 (iv 29 251 26 32)) (iq 251 13 33)) (.one 29 (iq 251 38 44)) (iv 9 251 48 52) .nil [] (le [((sx ".0"),.local),((sx "clause"),.local),((sx "pretty_flags"),.globalImplicit)]) (iq 251 12 53)) (iq 251 4 53))
 (.seq
 (.assign 14 (iq 252 4 8) (.comp (.meth (iv 11 252 12 17) .setdefault (iq 252 12 28) (.cons (iv 30 252 29 33) (i1 (.sub (iv 10 252 35 40) (iv 31 252 41 45) (iq 252 35 46)))) (iq 252 12 47)) (.many [(30,(iq 252 52 56)),(31,(iq 252 58 62))] 0 (iq 252 52 62)) (.callb .zip (iq 252 66 69) (.cons (iv 13 252 70 75) (i1 (.tuple (.cons (ic 0 252 78 79) (.cons (ic 0 252 81 82) (.cons (ic 0 252 84 85) (.cons (ic 15 252 87 89) (.cons (ic 15 252 91 93) (i1 (ic 15 252 95 97))))))) 0 (iq 252 77 98)))) (iq 252 66 99)) .nil [11,10] (le [((sx ".0"),.local),((sx "name"),.local),((sx "half"),.local),((sx "table"),.free),((sx "words"),.free)]) (iq 252 11 100)) (iq 252 4 100))
 (.seq
 (.assign 15 (iq 253 4 9) (.comp (.meth (iv 11 253 13 18) .setdefault (iq 253 13 29) (.cons (.meth (iv 32 253 30 34) .lower (iq 253 30 40) .nil (iq 253 30 42)) (i1 (.sub (iv 10 253 44 49) (iv 33 253 50 54) (iq 253 44 55)))) (iq 253 13 56)) (.many [(32,(iq 253 61 65)),(33,(iq 253 67 71))] 0 (iq 253 61 71)) (.callb .zip (iq 253 75 78) (.cons (iv 13 253 79 84) (i1 (.tuple (.cons (ic 15 253 87 89) (.cons (ic 15 253 91 93) (.cons (ic 15 253 95 97) (.cons (ic 0 253 99 100) (.cons (ic 0 253 102 103) (i1 (ic 0 253 105 106))))))) 0 (iq 253 86 107)))) (iq 253 75 108)) .nil [11,10] (le [((sx ".0"),.local),((sx "name"),.local),((sx "half"),.local),((sx "table"),.free),((sx "words"),.free)]) (iq 253 12 109)) (iq 253 4 109))
 (.seq
 (.assign 16 (iq 254 4 7) (.comp (.sub (iv 10 254 11 16) (.ite (.cmp .In (iv 34 254 22 28) (.slc (iv 1 254 32 39) .miss (ic 3 254 41 42) .miss (iq 254 40 42) (iq 254 32 43)) (iq 254 22 43)) (ic 0 254 17 18) (ic 15 254 49 51) (iq 254 17 51)) (iq 254 11 52)) (.one 34 (iq 254 57 63)) (iv 1 254 67 74) .nil [1,10] (le [((sx ".0"),.local),((sx "clause"),.local),((sx "clauses"),.free),((sx "words"),.free)]) (iq 254 10 75)) (iq 254 4 75))
 (.seq
 (.assign 18 (iq 255 4 9) (.comp (.tuple (.cons (.callu .words (iq 255 14 24) (i1 (.sub (iv 1 255 25 32) (iv 35 255 33 38) (iq 255 25 39))) (iq 255 14 40)) (i1 (.sub (iv 16 255 42 45) (iv 35 255 46 51) (iq 255 42 52)))) 0 (iq 255 13 53)) (.one 35 (iq 255 58 63)) (.callb .range (iq 255 67 72) (i1 (ic 6 255 73 74)) (iq 255 67 75)) (i1 (.cmp .NotIn (.sub (iv 1 255 79 86) (iv 35 255 87 92) (iq 255 79 93)) (.slc (iv 1 255 101 108) .miss (iv 35 255 110 115) .miss (iq 255 109 115) (iq 255 101 116)) (iq 255 79 116))) [1,16] (le [((sx ".0"),.local),((sx "place"),.local),((sx "_law_words"),.globalImplicit),((sx "clauses"),.free),((sx "due"),.free)]) (iq 255 12 117)) (iq 255 4 117))
 (.seq
 (.tempApp 11 (iq 256 4 9) (iq 256 4 15) (iq 256 4 17) (iq 256 4 24) (.tuple (.cons (.cst (.str (sx "0x0")) 0 (iq 256 26 31)) (i1 (.sub (iv 10 256 33 38) (ic 0 256 39 40) (iq 256 33 41)))) 0 (iq 256 25 42)) (iq 256 4 43) (iq 256 4 43))
 (.seq
 (.ite (.bool .Or (.cons (.cmp .NotEq (iv 14 257 7 11) (iv 16 257 15 18) (iq 257 7 18)) (.cons (.cmp .NotEq (iv 15 257 22 27) (iv 16 257 31 34) (iq 257 22 34)) (.cons (.cmp .NotEq (.meth (iv 11 257 38 43) .items (iq 257 38 49) .nil (iq 257 38 51)) (iv 18 257 55 60) (iq 257 38 60)) (i1 (.cmp .NotEq (.meth (iv 11 257 65 70) .keys (iq 257 65 75) .nil (iq 257 65 77)) (.comp (iv 36 257 82 86) (.many [(36,(iq 257 91 95)),(37,(iq 257 97 102))] 0 (iq 257 91 102)) (iv 18 257 106 111) .nil [] (le [((sx ".0"),.local),((sx "name"),.local),((sx "value"),.local)]) (iq 257 81 112)) (iq 257 65 112)))))) (iq 257 7 113)) (.seq
 (.ret (.cst (.bool false) 0 (iq 258 15 20)) (iq 258 8 20))
 .nil) .nil ⟨257,4,258,20⟩)
 (.seq
 (.assign 19 (iq 259 4 8) (.callu .resolved (iq 259 11 24) (.cons (iv 11 259 25 30) (.cons (iv 4 259 32 37) (i1 (iv 10 259 39 44)))) (iq 259 11 45)) (iq 259 4 45))
 (.seq
 (.assign 20 (iq 260 4 10) (.comp (.callb .sum (iq 260 14 17) (i1 (.comp (.bin .Mult (.bin .Pow (ic 4 260 19 20) (iv 39 260 24 28) (iq 260 19 28)) (.bin .Sub (ic 2 260 32 33) (.bin .BitAnd (.bin .RShift (iv 38 260 37 42) (iv 39 260 46 50) (iq 260 37 50)) (ic 1 260 53 54) (iq 260 37 54)) (iq 260 32 55)) (iq 260 19 56)) (.one 39 (iq 260 61 65)) (.callb .range (iq 260 69 74) (i1 (ic 4 260 75 76)) (iq 260 69 77)) .nil [38] (le [((sx ".0"),.local),((sx "spot"),.local),((sx "place"),.free)]) (iq 260 18 78))) (iq 260 14 79)) (.one 38 (iq 260 84 89)) (.callb .range (iq 260 93 98) (i1 (ic 16 260 99 101)) (iq 260 93 102)) .nil [] (le [((sx ".0"),.local),((sx "place"),.cell),((sx "sum"),.globalImplicit),((sx "range"),.globalImplicit)]) (iq 260 13 103)) (iq 260 4 103))
 (.seq
 (.assign 21 (iq 261 4 9) (.comp (.cmp .Eq (.comp (iv 41 261 14 20) (.one 41 (iq 261 25 31)) (iv 1 261 35 42) (i1 (.cmp .Eq (.bin .BitAnd (iv 41 261 46 52) (.sub (iv 20 261 55 61) (iv 40 261 62 67) (iq 261 55 68)) (iq 261 46 68)) (ic 0 261 72 73) (iq 261 46 73))) [40,20] (le [((sx ".0"),.local),((sx "clause"),.local),((sx "place"),.free),((sx "truths"),.free)]) (iq 261 13 74)) (.list .nil (iq 261 78 80)) (iq 261 13 80)) (.one 40 (iq 261 85 90)) (.callb .range (iq 261 94 99) (i1 (ic 16 261 100 102)) (iq 261 94 103)) .nil [1,20] (le [((sx ".0"),.local),((sx "place"),.cell),((sx "clauses"),.free),((sx "truths"),.free)]) (iq 261 12 104)) (iq 261 4 104))
 (.seq
 (.for_ (.many [(22,(iq 262 8 15)),(23,(iq 262 17 22))] 0 (iq 262 8 22)) (.callb .zip (iq 262 26 29) (.cons (iv 4 262 30 35) (i1 (iv 19 262 37 41))) (iq 262 26 42)) (.seq
 (.assign 21 (iq 263 8 13) (.comp (.bool .Or (.cons (.sub (iv 21 263 17 22) (iv 42 263 23 28) (iq 263 17 29)) (i1 (.sub (iv 21 263 33 38) (.bin .BitXor (iv 42 263 39 44) (.bin .LShift (ic 1 263 47 48) (iv 22 263 52 59) (iq 263 47 59)) (iq 263 39 59)) (iq 263 33 60)))) (iq 263 17 60)) (.one 42 (iq 263 65 70)) (.callb .range (iq 263 74 79) (i1 (ic 16 263 80 82)) (iq 263 74 83)) .nil [21,22] (le [((sx ".0"),.local),((sx "place"),.local),((sx "alive"),.free),((sx "unknown"),.free)]) (iq 263 16 84)) (iq 263 8 84))
 (.seq
 (.ite (.cmp .NotEq (.comp (.cmp .Eq (.comp (iv 44 264 13 17) (.one 44 (iq 264 22 26)) (iv 23 264 30 35) (i1 (.cmp .Eq (.bin .BitAnd (iv 44 264 39 43) (.sub (iv 20 264 46 52) (iv 43 264 53 58) (iq 264 46 59)) (iq 264 39 59)) (ic 0 264 63 64) (iq 264 39 64))) [43,20] (le [((sx ".0"),.local),((sx "mask"),.local),((sx "place"),.free),((sx "truths"),.free)]) (iq 264 12 65)) (.list .nil (iq 264 69 71)) (iq 264 12 71)) (.one 43 (iq 264 76 81)) (.callb .range (iq 264 85 90) (i1 (ic 16 264 91 93)) (iq 264 85 94)) .nil [23,20] (le [((sx ".0"),.local),((sx "place"),.cell),((sx "masks"),.free),((sx "truths"),.free)]) (iq 264 11 95)) (iv 21 264 99 104) (iq 264 11 104)) (.seq
 (.ret (.cst (.bool false) 0 (iq 265 19 24)) (iq 265 12 24))
 .nil) .nil ⟨264,8,265,24⟩)
 .nil)) .nil ⟨262,4,265,24⟩)
 (.seq
 (.ite (.cmp .NotEq (.comp (.gni (iq 266 8 22) (iv 45 266 23 27) 11 (iq 266 29 34) (iq 266 29 38) (.cst (.str (sx "none")) 0 (iq 266 48 54)) (iq 266 40 54) (iq 266 8 55)) (.many [(45,(iq 266 60 64)),(46,(iq 266 66 71))] 0 (iq 266 60 71)) (iv 18 266 75 80) .nil [11] (le [((sx ".0"),.local),((sx "name"),.local),((sx "value"),.local),((sx "_get_name_info"),.globalImplicit),((sx "table"),.free)]) (iq 266 7 81)) (.comp (.tuple (.cons (.cst (.str (sx "none")) 0 (iq 266 87 93)) (i1 (.cst (.str (sx "none")) 0 (iq 266 95 101)))) 0 (iq 266 86 102)) (.many [(47,(iq 266 107 111)),(48,(iq 266 113 118))] 0 (iq 266 107 118)) (iv 18 266 122 127) .nil [] (le [((sx ".0"),.local),((sx "name"),.local),((sx "value"),.local)]) (iq 266 85 128)) (iq 266 7 128)) (.seq
 (.ret (.cst (.bool false) 0 (iq 267 15 20)) (iq 267 8 20))
 .nil) .nil ⟨266,4,267,20⟩)
 (.seq
 (.assign 24 (iq 268 4 8) (.meth (iv 11 268 11 16) .items (iq 268 11 22) .nil (iq 268 11 24)) (iq 268 4 24))
 (.seq
 (.ite (.bool .Or (.cons (.sub (iv 21 269 7 12) (ic 0 269 13 14) (iq 269 7 15)) (i1 (.cmp .NotEq (.callb .len (iq 269 19 22) (i1 (iv 24 269 23 27)) (iq 269 19 28)) (ic 1 269 32 33) (iq 269 19 33)))) (iq 269 7 33)) (.seq
 (.ret (.bool .And (.cons (.sub (iv 21 270 15 20) (ic 0 270 21 22) (iq 270 15 23)) (i1 (.cmp .Eq (iv 24 270 28 32) (.list .nil (iq 270 36 38)) (iq 270 28 38)))) (iq 270 15 38)) (iq 270 8 38))
 .nil) .nil ⟨269,4,270,38⟩)
 (.seq
 (.assign 25 (iq 271 4 11) (.meth (iv 10 271 14 19) .index (iq 271 14 25) (i1 (.sub (.sub (iv 24 271 26 30) (ic 0 271 31 32) (iq 271 26 33)) (ic 1 271 34 35) (iq 271 26 36))) (iq 271 14 37)) (iq 271 4 37))
 (.seq
 (.for_ (.one 17 (iq 272 8 13)) (.callb .range (iq 272 17 22) (i1 (ic 16 272 23 25)) (iq 272 17 26)) (.seq
 (.assign 8 (iq 273 8 13) (.bin .BitAnd (.bin .RShift (iv 25 273 16 23) (.bin .Add (.bin .Mult (ic 2 273 27 28) (.bin .BitAnd (.bin .RShift (iv 17 273 32 37) (ic 1 273 41 42) (iq 273 32 42)) (ic 1 273 45 46) (iq 273 32 46)) (iq 273 27 47)) (.bin .BitAnd (.bin .RShift (iv 17 273 51 56) (ic 2 273 60 61) (iq 273 51 61)) (ic 1 273 64 65) (iq 273 51 65)) (iq 273 27 66)) (iq 273 16 66)) (ic 1 273 69 70) (iq 273 16 70)) (iq 273 8 70))
 (.seq
 (.ite (.bool .And (.cons (.cmp .Eq (iv 8 274 11 16) (ic 0 274 20 21) (iq 274 11 21)) (i1 (.cmp .Eq (.comp (iv 49 274 27 33) (.one 49 (iq 274 38 44)) (.slc (iv 1 274 48 55) .miss (ic 3 274 57 58) .miss (iq 274 56 58) (iq 274 48 59)) (i1 (.cmp .Eq (.bin .BitAnd (iv 49 274 63 69) (.sub (iv 20 274 72 78) (iv 17 274 79 84) (iq 274 72 85)) (iq 274 63 85)) (ic 0 274 89 90) (iq 274 63 90))) [17,20] (le [((sx ".0"),.local),((sx "clause"),.local),((sx "place"),.free),((sx "truths"),.free)]) (iq 274 26 91)) (.list .nil (iq 274 95 97)) (iq 274 26 97)))) (iq 274 11 97)) (.seq
 (.ret (.cst (.bool false) 0 (iq 275 19 24)) (iq 275 12 24))
 .nil) .nil ⟨274,8,275,24⟩)
 (.seq
 (.ite (.bool .And (.cons (.cmp .Eq (iv 8 276 11 16) (ic 1 276 20 21) (iq 276 11 21)) (i1 (.cmp .Eq (.comp (iv 50 276 27 33) (.one 50 (iq 276 38 44)) (.slc (iv 1 276 48 55) (ic 3 276 56 57) .miss .miss (iq 276 56 58) (iq 276 48 59)) (i1 (.cmp .Eq (.bin .BitAnd (iv 50 276 63 69) (.sub (iv 20 276 72 78) (iv 17 276 79 84) (iq 276 72 85)) (iq 276 63 85)) (ic 0 276 89 90) (iq 276 63 90))) [17,20] (le [((sx ".0"),.local),((sx "clause"),.local),((sx "place"),.free),((sx "truths"),.free)]) (iq 276 26 91)) (.list .nil (iq 276 95 97)) (iq 276 26 97)))) (iq 276 11 97)) (.seq
 (.ret (.cst (.bool false) 0 (iq 277 19 24)) (iq 277 12 24))
 .nil) .nil ⟨276,8,277,24⟩)
 .nil))) .nil ⟨272,4,277,24⟩)
 (.seq
 (.ret (.cst (.bool true) 0 (iq 278 11 15)) (iq 278 4 15))
 .nil)))))))))))))))))))
noncomputable abbrev pw:Program:=PySem.Challenge.pw_ta0088_02
noncomputable def aK(i:Nat):Stmt:=(pw.main.body[i]?).getD (.Pass ⟨0,0,0,0⟩)
noncomputable def aG(j:Nat):Stmt:=match aK 67 with
 |.ClassDef _ _ _ body ..=>(body[j]?).getD (.Pass ⟨0,0,0,0⟩)
 |_=>.Pass ⟨0,0,0,0⟩
noncomputable def wH:Scope:={ kind:=.function,names:=[],isGenerator:=false,isCoroutine:=false }
noncomputable def B4:Stmt->Str
 |.FunctionDef name ..=>name
 |_=>⟨#[]⟩
noncomputable def xP:Stmt->Arguments
 |.FunctionDef _ args ..=>args
 |_=>⟨[],[],none,[],[],none,[]⟩
noncomputable def cP:Stmt->List Stmt
 |.FunctionDef _ _ body ..=>body
 |_=>[]
noncomputable def aQ:Stmt->Scope
 |.FunctionDef _ _ _ _ _ _ scope ..=>scope
 |_=>wH
noncomputable def am(s:Stmt)(qual:Str)(mod:Str)(t:Nat)(code:Addr)(dflt:Value):FuncData:=
 { name:=B4 s,qualname:=qual,params:=xP s,body:=.stmts (cP s),scope:=aQ s,globals:=mainGlobals,closure:=[],defaults:=dflt,kwdefaults:=.none,pyModule:=.str mod t,code:=.ref code,builtins:=builtinsNs }
noncomputable abbrev cr(s:Stmt)(qual:Str)(mod:Str)(t:Nat)(code:Addr)(dflt:Value:=.none):Obj:={ cls:=.type "function",data:=.func (am s qual mod t code dflt) }
noncomputable abbrev pW:Str:=sx "cpy313.dis"
noncomputable abbrev Gi:Str:=sx "cpy313.token"
noncomputable abbrev bv:Str:=sx "cpy313.wsgiref.headers"
noncomputable abbrev uB:Str:=sx "law_ta0088_02"
noncomputable def yZ(nm:Nat->Str)(N:Nat)(ns:gM):List Nat:=(List.range N).filter λi=>(wU ns (nm i)).isSome && !(List.range i).any λj=>nm j==nm i
theorem bx{nm:Nat->Str}:∀{sc:SC},gS nm sc=true->bU nm sc
 |[],_=>λ_ _ _ _ h=>nomatch h
 |x :: r,h=>by
  simp only[qT,cC,bD,kJ,beq_eq_false_iff_ne]at h;intro i c j d hi hj e;rcases ah.mp hi with h1|h1
  ·rcases ah.mp hj with h2|h2
   ·replace h1:=h2.symm▸h1;cases h1;rfl
   ·replace h:=h1.symm▸h;exact absurd e (h.1 (j,d) h2)
  ·rcases ah.mp hj with h2|h2
   ·replace h:=h2.symm▸h;exact absurd e.symm (h.1 (i,c) h1)
   ·exact bx h.2 i c j d h1 h2 e
noncomputable def oM(nm:Nat->Str)(N:Nat)(params:List Nat)(X:S)(ns:gM):Bool:=
 match hH nm ns (yZ nm N ns)with
 |some sc=>gS nm sc&&((params.all λi=>Nat.blt i N&&sc.any λy=>y.1==i)&&(X.ok nm N ns sc&&X.wf.2))
 |none=>false
theorem EU{B:aX}{a:Addr}{nm:Nat->Str}{N:Nat}{params:List Nat}{X:S}{o:Obj}{fd:FuncData}(ho:B.hb.get? a=some o)(dat:o.data=.func fd)(body:fd.body=.stmts (X.toSs nm))(clo:fd.closure=[])
  (kind:fd.scope.kind=.function) (cor:fd.scope.isCoroutine=false) (gen:fd.scope.isGenerator=false) (gl:fd.globals=mainGlobals) (bt:fd.builtins=builtinsNs) (code:B.hb.CodeRec fd.code fd.qualname)
  (bind:∀vals:List Value,vals.length=params.length->bindArgs fd ⟨vals,[]⟩=pure ((params.map nm).zip vals)) (ok:oM nm N params X fd.scope.names=true):
  ∃sc,HT B a nm N (yZ nm N fd.scope.names) params X sc o fd:=by
 unfold oM at ok
 split at ok
 ·rename_i sc hsc
  simp only[cC,bD]at ok;refine⟨sc,ho,dat,body,clo,kind,cor,gen,gl,bt,code,bind,hsc,bx ok.1,λi hi=>?_,ok.2.2.1,ok.2.2.2⟩;have h:=ok.2.1 i hi;refine⟨by simpa[Nat.blt_eq]using h.1,?_⟩;obtain⟨⟨j,c⟩,hj,e⟩:=ls.mp h.2;have:j=i:=by simpa using e
  subst this;exact⟨c,hj⟩
 ·exact fT ok
noncomputable def Iq(o:Option Obj)(q:Str):Prop:=∃ob vs t,o=some ob/\ob.data=.fields vs/\vs[1]?=some (.str q t)
theorem vx:cP (aK 4)=iY.toSs lY:=rfl
theorem xV:cP (aK 69)=bQ.toSs nR:=rfl
theorem zf:cP (aK 70)=cM.toSs pA:=rfl
theorem wt:cP (aK 72)=oa.toSs nQ:=rfl
theorem wq:cP (aK 73)=dm.toSs nP:=rfl
theorem rM:cP (aK 74)=b9.toSs jD:=rfl
theorem zE:cP (aK 61)=wK.toSs qN:=rfl
theorem Be:cP (aK 62)=CI.toSs tc:=rfl
theorem AT:cP (aK 63)=Cu.toSs uL:=rfl
theorem Hp:∃st3,cP (aK 75)=i6.toSs DJ++st3 :: aY.toSs vC:=⟨((cP (aK 75))[2]?).getD (.Pass ⟨0,0,0,0⟩),rfl⟩
theorem yk:oM lY io dz iY (aQ (aK 4)).names=true:=by decide +kernel
theorem CM:oM nR qc eY bQ (aQ (aK 69)).names=true:=by decide +kernel
theorem Db:oM pA yP ir cM (aQ (aK 70)).names=true:=by decide +kernel
theorem CW:oM nQ pY iT oa (aQ (aK 72)).names=true:=by decide +kernel
theorem BG:oM nP qk iQ dm (aQ (aK 73)).names=true:=by decide +kernel
theorem vX:oM jD oC ft b9 (aQ (aK 74)).names=true:=by decide +kernel
theorem Ee:oM qN yL mD wK (aQ (aK 61)).names=true:=by decide +kernel
theorem Ge:oM tc BJ oV CI (aQ (aK 62)).names=true:=by decide +kernel
theorem Fi:oM uL Ak oY Cu (aQ (aK 63)).names=true:=by decide +kernel
theorem vA{q m t c}(vals:List Value)(h:vals.length=dz.length):bindArgs (am (aK 4) q m t c .none) ⟨vals,[]⟩=pure ((dz.map lY).zip vals):=tm h λa=>rfl
theorem q8{q m t c}(vals:List Value)(h:vals.length=ft.length):bindArgs (am (aK 74) q m t c .none) ⟨vals,[]⟩=pure ((ft.map jD).zip vals):=Ii h λa b c=>rfl
theorem jf{B:aX}{a:Addr}{st:Stmt}{qual mod:Str}{t:Nat}{code:Addr}{dflt:Value}{nm:Nat->Str}{N:Nat}{params:List Nat}{sc:SC}(ho:B.hb.get? a=some (cr st qual mod t code dflt))(hc:B.hb.CodeRec (.ref code) qual)
  (k:(aQ st).kind=.function) (co:(aQ st).isCoroutine=false) (ge:(aQ st).isGenerator=false) (hok:hH nm (aQ st).names (List.range N)=some sc) (nd:gS nm sc=true)
  (ps:(params.all λi=>Nat.blt i N&&sc.any λy=>y.1==i)=true):dX B a nm N params sc (cr st qual mod t code dflt) (am st qual mod t code dflt) where
 ho:=ho
 dat:=rfl
 clo:=rfl
 kind:=k
 cor:=co
 gen:=ge
 gl:=rfl
 bt:=rfl
 code:=hc
 own:=⟨_,hok⟩
 nd:=bx nd
 ps:=λi hi=>by
  have h:=eA.mp (bD.mp ps i hi);refine⟨by simpa[Nat.blt_eq]using h.1,?_⟩;obtain⟨⟨j,c⟩,hj,e⟩:=ls.mp h.2;have:j=i:=by simpa using e
  subst this;exact⟨c,hj⟩
structure HF(B:aX)(mN:Str->Option Value):Prop where
 cls:∃t1 t2,B.hb.get? 240=some (excClassObj (sx "Headers") (sx "Headers") 240 239 [.type "object"] [.type "object"] true [] [] false none none none none (some (.str (sx "Headers") t1)) (some (.str (sx "Headers") t2)) (some (.bool true)) "object.__new__")
 ns:B.hb.Ns 239 mN
 ga:mN "__getattribute__"=none
 gx:mN "__getattr__"=none
 sa:mN "__setattr__"=none
 hd:mN "_headers"=none
 mInit:mN "__init__"=some (.ref 132)
 mConv:mN "_convert_string_type"=some (.ref 139)
 mDel:mN "__delitem__"=some (.ref 158)
 mGet:mN "get"=some (.ref 187)
 mKeys:mN "keys"=some (.ref 192)
 mItems:mN "items"=some (.ref 204)
 mSet:mN "setdefault"=some (.ref 230)
 fConv:B.hb.get? 139=some (cr (aG 1) (sx "Headers._convert_string_type") bv 599 138)
 cConv:B.hb.CodeRec (.ref 138) (sx "Headers._convert_string_type")
 gType:B.at ("type":Str)=some (.type "type")
 gStr:B.at ("str":Str)=some (.type "str")
 gN:B.at ("_name_disallowed_re":Str)=some (.ref 112)
 gV:B.at ("_value_disallowed_re":Str)=some (.ref 117)
 pN:nh B.hb 112 oZ
 pV:nh B.hb 117 kf
theorem nh.keeps{h h':Heap}{r:Addr}{code:Array Nat}(P:nh h r code)(hk:∀a o,h.get? a=some o->h'.get? a=some o):nh h' r code:=by obtain⟨o,p,f,c,oc,n,vs,h1,h2,h3,h4,h5,h6,h7⟩:=P.at';exact⟨o,p,f,c,oc,n,vs,hk _ _ h1,h2,h3,h4,hk _ _ h5,h6,h7⟩
section
variable{B:aX}{C:Cx}{A:Around}{env:Env}{nm:Nat->Str}{sc:SC}{σ:aF}{mt:List (Nat×Addr)}{s:Shared}{T:aC}
theorem At.name{i:Nat}{c:Kd}{av:AV}{x:Str}{p:Pos}{Q:aJ Value}(Y:At B C env nm sc σ mt T s.heap)(hi:(i,c)∈sc)(he:σ.getD i none=some av)(hx:nm i=x)(hp:bc x=true)
  (h:∀v,an C s.heap av.read v->Q v s):WP B A (eval (.Name x p) env) Q s:=by
 subst hx;exact wpAny_Name (Y.sim.load hi he (au hp).2 h) (au hp).1
theorem At.glob{x:Str}{v:Value}{p:Pos}{Q:aJ Value}(Y:At B C env nm sc σ mt T s.heap)(hk:env.kindOf x=some .globalImplicit)(hv:B.at x=some v)(hp:bc x=true)(h:Q v s):WP B A (eval (.Name x p) env) Q s:=
 wpAny_Name (Y.sim.loadG hk hv h) (au hp).1
noncomputable abbrev ql:Nat->Str:=hZ [sx "self",sx "value",sx "name",sx "regex"]
noncomputable abbrev fY:SC:=[(0,.loc),(1,.loc),(2,.loc),(3,.loc)]
theorem xv{f:Value}{x:Sem Value}{Q:aJ Args}(h:WP B A x (λv s'=>Q ⟨[v],[]⟩ s') s):WP B A (evalArgs f true [(false,x)] []) Q s:=
 fB (by simp) (df (wpAny_mono h (λ_ _ hq=>fJ hq) λ_ _ f=>f))
theorem mX{x:Sem Value}{Q:List Value->Shared->Prop}(h:WP B A x (λv s'=>Q [v] s') s):WP B A (spliced [(false,x)]) Q s:=
 df (wpAny_mono h (λ_ _ hq=>fJ hq) λ_ _ f=>f)
set_option backward.match.sparseCases true in
theorem zO{mN:Str->Option Value}(H:HF B mN){st:Stmt}{a:Value}{x:Str}{b:Bool}{Q:aJ Flow}(hx:aS x=true)(EO:bl env (aQ (aG 1)).names)
  (Y:At B C env ql fY [some (.val (.ob a)),some (.val (.str x)),some (.val (.bool b)),none] [] T s.heap) {p1 p2 p3 p4 p5 p6 p7 p8 p9 p10 p11 p12 p13 p14 p15 p16 p17 p18 p19:Pos} {rest els:List Stmt} (hl:(p11.endLine==p13.line)=true)
  (h:pE B ql C env fY s (.str x) T Q):
  WP B A (execs [.If (.Compare (.Call (.Name "type" p1) [.Name "value" p2] [] p3) [.Is] [.Name "str" p4] p5)
   [.Assign [.Name "regex" p6] (.IfExp (.Name "name" p7) (.Name "_name_disallowed_re" p8) (.Name "_value_disallowed_re" p9) p10) p14,
   .If (.Call (.Attribute (.Name "regex" p12) "search" p11) [.Name "value" p15] [] p13) rest [] p16,
   .Return (some (.Name "value" p17)) p18] els p19,st] env) Q s:=by
 have kd:∀x,env.kindOf x=(aQ (aG 1)).names.lookup x:=EO.names;have hn:bU ql fY:=bx (by decide +kernel);refine wpAny_execs_cons (wpAny_If (wpAny_isTrue_Compare1 ?_));refine(?_:WP B A (eval (.Name "type" p1) env >>= λfv=>callWith p3 fv [] [(false,eval (.Name "value" p2) env)] []) _ s);refine wpAny_bind (Y.glob (by rw[kd ..];decide +kernel) H.gType (by decide +kernel) ?_);refine PySem.callWith_type rfl (xv (Y.name (i:=1) (c:=.loc) kl rfl rfl (by decide +kernel) λv hv=>?_));refine af hv ?_;clear hv;intro u q1q;subst q1q;refine call_type_of (Tx:="str") rfl (by decide) ?_;refine Y.glob (by rw[kd ..];decide +kernel) H.gStr (by decide +kernel) ?_;refine wpAny_is_self rfl (wpAny_truthy_bool ?_);rw[if_pos rfl];refine wpAny_execs_cons (wpAny_Assign_Name (wpAny_IfExp (wpAny_isTrue_value (Y.name (i:=2) (c:=.loc) mf rfl rfl (by decide +kernel) λv hv=>?_))));obtain rfl:v=.bool b:=hv;refine wpAny_truthy_bool ?_;have key:∀(r:Addr) (code:Array Nat),nh B.hb r code->(∀text:Array Nat,(∀c∈text.toList,32<=c/\c<=126)->dw (Sre.forSearch code text 0 0 text.size false)) ->
   WP B A (storeName env "regex" (.ref r)) (λ_ s'=>WP B A (execs [.If (.Call (.Attribute (.Name "regex" p12) "search" p11) [.Name "value" p15] [] p13) rest [] p16,.Return (some (.Name "value" p17)) p18] env)
    (λf s'=>match f with|.next=>WP B A (execs [st] env) Q s'|f=>Q f s') s') s:=by
  intro r code P hc;refine wpAny_mono (lh (nm:=ql) (N:=4) (i:=3) (p:=.ob (.ref r)) (Q:=λ_ s'=>WP B A (execs [.If (.Call (.Attribute (.Name "regex" p12) "search" p11) [.Name "value" p15] [] p13) rest [] p16,.Return (some (.Name "value" p17)) p18] env)
    (λf s'=>match f with|.next=>WP B A (execs [st] env) Q s'|f=>Q f s') s') hn (by decide +kernel) rfl (a9.refl C.hl s) Y rfl rfl λC' f s1 mt1 g c1 Y1 n1 f1=>?_) (λ_ _ q=>q) λ_ _ q=>q
  have P1:=P.keeps Y1.sim.vol.base;obtain⟨o,_,_,_,_,_,_,ho,hcls,hdict,_⟩:=id P1.at';refine wpAny_execs_cons (wpAny_If (wpAny_isTrue_value (dy (λ{Q} hQ=>hQ) (by intro x hx;rcases ah.mp hx with rfl|hx;rfl;cases hx) (eE (dh _)) hl (Y1.name (i:=3) (c:=.loc) w7 rfl rfl (by decide +kernel) λv hv pl=>?_))));obtain rfl:v=.ref r:=hv;refine getMethod_builtin (T:="re.Pattern") ⟨o,ho,hcls⟩ lK nU ve (λz e=>by cases e;exact⟨o,ho,hdict⟩) ?_;refine eW (by intro x hx;rcases ah.mp hx with rfl|hx;rfl;cases hx) (mX (Y1.name (i:=1) (c:=.loc) kl rfl rfl (by decide +kernel) λw hw=>?_));refine af hw ?_;clear hw;intro u2 q1q;subst q1q;refine zC P1 hx hc (PyProof.Rows.truthy_none ?_);rw[if_neg j9];refine wpAny_execs_nil (wpAny_execs_cons (wpAny_Return_some (Y1.name (i:=1) (c:=.loc) kl rfl rfl (by decide +kernel) λz hz=>?_)));exact h C' z s1 mt1 _ g c1 Y1 hz
 cases b with
 |true=>rw[if_pos rfl];exact Y.glob (by rw[kd ..];decide +kernel) H.gN (by decide +kernel) (key 112 _ H.pN λ_=>zZ)
 |false=>rw[if_neg j9];exact Y.glob (by rw[kd ..];decide +kernel) H.gV (by decide +kernel) (key 117 _ H.pV λ_=>zw)
end
noncomputable abbrev Cx.ro(C:Cx):Cx:={ X:=λa=>C.X a\/C.hl=some a,F:=C.F,hl:=none,ta:=none }
section
variable{B:aX}{C:Cx}{A:Around}{s:Shared}{T:aC}
theorem cV.ro{h:Heap}(V:cV B C h):cV B C.ro h where
 base:=V.base
 baseX:=λa x=>x.elim (V.baseX a) (V.baseL a)
 baseF:=V.baseF
 baseL:=λ_ q=>nomatch q
 liveX:=λa x=>x.elim (V.liveX a) (V.liveL a)
 liveF:=V.liveF
 liveL:=λ_ q=>nomatch q
 fx:=λa f x=>x.elim (V.fx a f) λl=>V.lf a l f
 lf:=λ_ q=>nomatch q
 lx:=λ_ q=>nomatch q
theorem an.unro{h:Heap}{p:PV}{v:Value}(c:clean p=true)(r:an C.ro h p v):an C h p v:=
 r.move (C:=C.ro) (C':=C) (λa o x f _ e=>⟨λq=>x (.inl q),f,λq=>x (.inr q),e⟩) (λa e=>nomatch e) c
theorem aU.ro{T:aC}{h:Heap}:aU C.ro T h:=λa e=>nomatch e
theorem lW.ofRo{Q:aJ Value}{p:PV}(h:lW C s (dD p) Q):mW B C.ro s (dD p) [] Q:=
 λv s' x _ r _=>h v s' x (r.unro (mQ p))
variable{mN:Str->Option Value}
theorem Ed(H:HF B mN){a:Value}{x:Str}{u:Tok}{b:Bool}{Q:aJ Value}(F:bJ 1 A)(V:cV B C s.heap)(hx:aS x=true)(h:lW C s (.str x) Q):
  WP B A (call (.ref 139) [a,.str x u] [("name",.bool b)]) Q s:=by
 have I:dX B 139 ql 4 [0,1,2] fY _ _:=jf H.fConv H.cConv rfl rfl rfl (by decide +kernel) (by decide +kernel) (by decide +kernel);refine qK (K:=0) (C:=C.ro) (T:=[]) (args:=⟨[a,.str x u],[("name",.bool b)]⟩) (vs:=[a,.str x u,.bool b]) (ps:=[.ob a,.str x,.bool b]) (p:=.str x) I rfl (BindsTo.of_eq rfl) rfl F V.ro aU.ro
  ⟨_,_,rfl,rfl,_,_,rfl,⟨u,rfl⟩,_,_,rfl,rfl,rfl⟩ (λF' A' env s₁ Q' hF hA EO hl Y x1 hP=>?_) (lW.ofRo (p:=.str x) h)
 exact zO H hx EO Y rfl hP
end
structure Ob(h:Heap)(a l d:Addr)(o:Obj)(vs:List Value)(n:Nat):Prop where
 here:h.get? a=some o
 cls:o.cls=.ref DL
 dat:∀c,o.data≠.cls c
 dict:o.dict=some d
 ne:d≠a
 ns:h.Ns1 d (je l)
 list:h.get? l=some (aT vs n)
theorem Ob.keeps{h h':Heap}{a l d:Addr}{o:Obj}{vs:List Value}{n:Nat}(O:Ob h a l d o vs n)(hk:∀a o,h.get? a=some o->h'.get? a=some o):Ob h' a l d o vs n:=
 ⟨hk _ _ O.here,O.cls,O.dat,O.dict,O.ne,O.ns.at λob e=>hk _ _ e,hk _ _ O.list⟩
theorem Ob.inst{h:Heap}{a l d:Addr}{o:Obj}{vs:List Value}{n:Nat}(O:Ob h a l d o vs n):h.Inst a 240 (je l):=⟨o,O.here,O.cls,O.dat,.inr ⟨d,O.dict,O.ne,O.ns⟩⟩
theorem dt.ob{C:Cx}{T:aC}{h:Heap}{a l d:Addr}{o:Obj}{vs:List Value}{n:Nat}(t:dt C T h a l d o vs n):Ob h a l d o vs n:=⟨t.here,t.cls,t.dat,t.dict,t.ne,t.ns,t.list⟩
theorem qZ:typeLookup (.type "object") "_headers"=pure none:=by rw[typeLookup_type ..];rw[builtinLookup_eq_fast];kernel_rfl
theorem Em:typeLookup (.type "object") "_convert_string_type"=pure none:=by rw[typeLookup_type ..];rw[builtinLookup_eq_fast];kernel_rfl
theorem Cf:typeLookup (.type "object") "get"=pure none:=by rw[typeLookup_type ..];rw[builtinLookup_eq_fast];kernel_rfl
theorem Dr:typeLookup (.type "object") "keys"=pure none:=by rw[typeLookup_type ..];rw[builtinLookup_eq_fast];kernel_rfl
theorem vZ:typeLookup (.type "object") "items"=pure none:=by rw[typeLookup_type ..];rw[builtinLookup_eq_fast];kernel_rfl
theorem rA:typeLookup (.type "object") "setdefault"=pure none:=by rw[typeLookup_type ..];rw[builtinLookup_eq_fast];kernel_rfl
section
variable{B:aX}{C:Cx}{A:Around}{env:Env}{nm:Nat->Str}{sc:SC}{σ:aF}{mt:List (Nat×Addr)}{s:Shared}{T:aC}{mN:Str->Option Value}
theorem kc(H:HF B mN){a l d:Addr}{o:Obj}{vs:List Value}{n:Nat}{f:Addr}{of:Obj}{name:Str}{pl:Sem Bool}{y:Option Value}{Q:Value×List Value->Shared->Prop}(hb:∀a o,B.hb.get? a=some o->s.heap.get? a=some o)(O:Ob s.heap a l d o vs n)
  (hm:mN name=some (.ref f)) (hf:B.hb.get? f=some of) (hfc:of.cls=.type "function") (hB:typeLookup (.type "object") name=pure y) (hne:name≠("_headers":Str)) (h:Q (.ref f,[.ref a]) s):WP B A (getMethod (.ref a) name pl) Q s:=by
 refine eV H.cls λt1 t2 hc=>?_;obtain⟨hp,g,dr,tk,os⟩:=s;exact method_of (hb _ _ hc) (H.ns.keeps hb) H.ga H.gx hm (hb _ _ hf) hfc hB O.inst (by unfold je;rw[if_neg hne];rfl) h
theorem kU(H:HF B mN){i:Nat}{c:Kd}{x:Str}{a l d:Addr}{o:Obj}{vs:List Value}{n:Nat}{p p2:Pos}{Q:aJ Value}(Y:At B C env nm sc σ mt T s.heap)(hi:(i,c)∈sc)(he:σ.getD i none=some (.val (.ob (.ref a))))(hx:nm i=x)(hp:bc x=true)
  (O:Ob s.heap a l d o vs n) (h:∀s',a9 none s s'->Q (.ref l) s'):WP B A (eval (.Attribute (.Name x p) "_headers" p2) env) Q s:=by
 refine eV H.cls λt1 t2 hc=>?_;rw[arm_eval_Attribute ..];refine(?_:WP B A (eval (.Name x p) env >>= _) Q s);refine wpAny_bind (Y.name hi he hx hp λv hv=>?_);obtain rfl:v=.ref a:=hv;refine wpAny_bind (wpAny_standAt (wpAny_bind (wpAny_holding ?_)));have hb:=Y.sim.vol.base;obtain⟨hp',g,dr,tk,os⟩:=s;refine load_attr (hb _ _ hc) (H.ns.keeps hb) H.ga H.hd qZ O.inst (v:=.ref l) (by unfold je;rw[if_pos rfl];rfl) rfl ?_;exact wpAny_bind (wpAny_letTemporaryGo (wpAny_pure (h _ ⟨rfl,rfl,rfl,λ_ _ _ e=>e⟩)))
theorem y4{o:Expr}{name:Str}{apos pos:Pos}{args:List Expr}{kws:List Keyword}{Q:aJ Value}
  (hbase:∀{Q:aJ Value},WP B A (eval o env) Q s->WP B A (attributeBase o name env (eval o env)) Q s)
  (hs:∀x∈backTo pos (starEach args env),x.1=false) (hk:(backToKw pos (keywordEach kws env)).all (·.1.isSome)=true) (hn:args.length+kws.length+(if (backToKw pos (keywordEach kws env)).isEmpty=true then 0 else 1)<30) (hline:(apos.endLine==pos.line)=true)
  (h:WP B A (eval o env) (λov s₁=>∀pl,WP B A (getMethod ov name pl) (λr s₂=>WP B A (callWith pos r.1 r.2 (backTo pos (starEach args env)) (backToKw pos (keywordEach kws env))) Q s₂) s₁) s):
  WP B A (eval (.Call (.Attribute o name apos) args kws pos) env) Q s:=by
 rw[arm_eval_Call ..];refine wpAny_bind (wpAny_mono (hbase h) (λov s₁ h₁=>?_) λ_ _ e=>e);refine wpAny_bind (wpAny_standAt ?_);have hform:methodCallForm (args.length+kws.length) (backTo pos (starEach args env)) (backToKw pos (keywordEach kws env))=true:=by
  unfold methodCallForm;have h1:(backTo pos (starEach args env)).all (λx=> !x.1)=true:=by rewrite[bD];intro x hx;rw[hs x hx];rfl
  rw[h1];rw[hk];simpa using hn
 have hpos:methodCallPos true o env apos pos=pure pos:=by unfold methodCallPos;simp[hline]
 unfold methodCall;rw[hform];refine wpAny_bind (wpAny_holding (wpAny_mono (h₁ _) (λr s₂ h₂=>?_) λ_ _ x=>x));exact wpAny_bind (wpAny_of_eq hpos h₂)
theorem gy(H:HF B mN){i:Nat}{c:Kd}{x:Str}{a l d:Addr}{o:Obj}{vs:List Value}{n:Nat}{p ap p2 p3 p4:Pos}{k:Nat}{b:Bool}{arg:Expr}{Q:aJ Value}(F:bJ 1 A)(Y:At B C env nm sc σ mt T s.heap)(hi:(i,c)∈sc)(he:σ.getD i none=some (.val (.ob (.ref a))))(hx:nm i=x)(hp:bc x=true)
  (O:Ob s.heap a l d o vs n) (hline:(ap.endLine==p4.line)=true) (hstar:backTo p4 (starEach [arg] env)=[(false,eval arg env)])
  (h:WP B A (eval arg env) (λv s'=>∃y u,v=.str y u/\aS y=true/\cV B C s'.heap/\lW C s' (.str y) Q) s):
  WP B A (eval (.Call (.Attribute (.Name x p) "_convert_string_type" ap) [arg] [⟨some "name",.Constant (.bool b) k p2,p3⟩] p4) env) Q s:=by
 refine y4 (λ{Q} hQ=>hQ) (by rw[hstar];simp) rfl (by show(1+1+1)<30;lia) hline (Y.name hi he hx hp λv hv pl=>?_);obtain rfl:v=.ref a:=hv;refine kc H Y.sim.vol.base O H.mConv H.fConv rfl Em (by decide +kernel) ?_;refine callWith_function_kw (o:=cr (aG 1) (sx "Headers._convert_string_type") bv 599 138) (fd:=am (aG 1) (sx "Headers._convert_string_type") bv 599 138 .none) ?_;rw[hstar];refine evalArgs_kw rfl (mX (wpAny_mono h (λv s' hq=>?_) λ_ _ x=>x));refine vh hq ?_;clear hq;intro y u q1q hy V hG;subst q1q;refine wpAny_evalAll_cons (wpAny_bind (wpAny_Constant_bool (wpAny_bind (wpAny_standAt (wpAny_pure (wpAny_evalAll_nil ⟨⟨V.base _ _ H.fConv,rfl⟩,?_⟩))))));exact Ed H F V hy hG
end
noncomputable def mh(c:Nat):Nat:=if 65<=c/\c<=90 then c+32 else c
theorem rH{c:Nat}(h1:32<=c)(h2:c<=126):Unicode.lowerOf c=[mh c]:=by
 have key:∀c:Fin 95,Unicode.lowerOf (c.val+32)=[mh (c.val+32)]:=by decide +kernel
 have:=key ⟨c-32,by omega⟩;simp only[show c-32+32=c by omega]at this;exact this
theorem gj{x:Str}(h:∀c∈x.cps.toList,32<=c/\c<=126):Txt.lower x=⟨x.cps.map mh⟩:=by
 unfold Txt.lower placed
 congr 1
 have e:(x.cps.mapIdx λi c=>((λi (_:Nat)=>Unicode.lowerAt x.cps i) i c).toArray)=x.cps.map λc=>#[mh c]:=by
  apply Array.ext
  ·simp
  ·intro i h1 h2;have hi:i<x.cps.size:=by simpa using h1
   have hm:=h x.cps[i] (by simp);simp only[Array.getElem_mapIdx,Array.getElem_map];have:Unicode.lowerAt x.cps i=Unicode.lowerOf x.cps[i]:=by
    unfold Unicode.lowerAt;rw[vj hi];have hne:(x.cps[i]==0x3A3)=false:=by simp;lia
    simp only[hne,Bool.false_and,Bool.false_eq_true,if_false]
   rw[this];rw[rH hm.1 hm.2];rfl
 rw[e];apply Array.toList_inj.mp;rw[Array.toList_flatten];simp only[Array.toList_map,jR]
 induction x.cps.toList with
 |nil=>rfl
 |cons a l ih=>simp[ih]
theorem cR{x:Str}(h:aS x=true):aS (Txt.lower x)=true:=by
 refine cL (d5 h) λh1 h2=>?_;rw[gj h2];simp only[aS,cC,bD];refine⟨by simpa[Str.length,Nat.ble_eq]using h1,λc hc=>?_⟩;simp only[Array.toList_map,cH]at hc;refine aP hc ?_;clear hc;intro b hb q1q;subst q1q;have:=h2 b hb;unfold mh
 split<;>simp[Nat.ble_eq]<;>lia
theorem eN{x:Str}(h:aS x=true):PyData.canLay0 (.str x)=true:=by refine cL (d5 h) λ_ h2=>?_;refine(?_:PyData.strOk x=true);unfold PyData.strOk;rw[Eq.symm Array.all_toList];rewrite[bD];intro c hc;have:=h2 c hc;simp;lia
section
variable{B:aX}{nm:Nat->Str}{N:Nat}{Φ:fA}{K:Nat}
theorem nE{o:E}{ap p:Pos}(ho:bL B nm N Φ K o):bL B nm N Φ K (.meth o .lower ap .nil p):=by
 intro ns sc C A env σ mt T s r Q ok F e Y h;refine bE e λx ex e=>?_;refine bE e λps ep e=>?_;replace ok:=a4 ok;obtain⟨q,T1⟩:=x;replace ep:=iS ep;subst ep;obtain⟨r,T3⟩:=r;refine dy (xt o) (by intro x hx;cases hx) (dh 28) ok.1 (ho ok.2.2.1 F ex Y λv s1 x1 Y1 r1 pl=>?_);cases q with
 |str t=>
  refine af r1 ?_;clear r1;intro u q1q;subst q1q;have:=qt (B:=B) (C:=C) (A:=A) (s:=s1) (Q:=Q) (u:=u) (m:=.lower) (x:=t) (ps:=[]) (T:=T1) (pos:=p) (pl:=pl) (args:=[]) (by intro x hx;cases hx) e (fJ ⟨Y1.live,rfl,λw s3 x3 r3=>?_⟩)
  ·exact this.2
  ·exact h w s3 (x1.trans x3.up) (sR (m:=.lower) (ps:=[]) (x:=t) e▸Y1.kept x3) r3
 |_=>exact nS e
theorem DI{c:E}{a b:S}{p:Pos}(hc:mn B nm N Φ K c)(ha:iL B nm N Φ K a)(hb:iL B nm N Φ K b):eP B nm N Φ K (.ite c a b p):=by
 intro ns sc C A env σ mt T s o Q ok hn F EO ex Y h;refine bE ex λt et ex=>?_;replace ok:=a3 ok;refine(?_:WP B A (exec (.If (c.toE nm) (a.toSs nm) (b.toSs nm) p) env) Q s);refine wpAny_If (hc ok.1 F et Y λs1 x1 Y1=>?_);have fin:qu B nm N C env sc s1 o Q:=λC2 f2 s2 mt2 g2 c2 Y2 n2 fr2=>h C2 f2 s2 mt2 (bC.trans (.refl _ _) (x1.chgAt Y1) g2) ((x1.chgAt Y1).trans c2) Y2 n2 fr2;obtain⟨t,T1⟩:=t;cases t with
 |true=>exact ha ok.2.1 hn F EO ex Y1 fin
 |false=>exact hb ok.2.2 hn F EO ex Y1 fin
theorem CB{e:E}{p:Pos}(he:bL B nm N Φ K e):eP B nm N Φ K (.ret e p):=by intro ns sc C A env σ mt T s o Q ok hn F EO ex Y h;refine mE ex λr er qq=>?_;subst qq;exact wpAny_Return_some (he ok F er Y λv s1 x1 Y1 r1=>h C (.ret v) s1 mt (.refl _ _) (x1.chgAt Y1) Y1 F.len ⟨v,rfl,r1⟩)
theorem lO{C:Cx}{A:Around}{s:Shared}{xs:List PV}{l:Addr}{vs:List Value}{n:Nat}{Q:aJ Value}(hh:A.handled=none)(L:ef C s.heap)(c:aA xs=true)(hfl:¬C.F l)(hll:C.hl≠some l)(g:s.heap.get? l=some (aT vs n))(rs:aH C s.heap xs vs)
  (h:∀it s',a9 none s s'->fe B C A s s' false true xs it->Q it s'):WP B A (pyIter (.ref l)) Q s:=by
 have n0:=L.new (aV s.heap);have hl:s.heap.IsList l vs.toArray:=⟨_,g,rfl,n,rfl⟩;have lne:l≠s.heap.objs.size:=λe=>by replace g:=e▸g;replace g:=(aV ..)▸g;exact nS g
 have hI:(s.heap.push { cls:=.type "list_iterator",data:=.fields #[.ref l,.int 0 0] }).get? s.heap.objs.size=some _:=cZ _ rfl;refine wpAny_pyIter_list hl (h _ _ .lay' ⟨(·∈[s.heap.objs.size]),[s.heap.objs.size,l],λa ha=>?_,λa ha=>?_,c,λC' h1 h2 h3 h4=>?_⟩)
 ·rcases ah.mp ha with rfl|ha
  ·exact⟨aV _,(by rw[hI];exact λq=>nomatch q)⟩
  ·cases ha
 ·rcases ah.mp ha with rfl|ha
  ·exact⟨(by rw[hI];exact λq=>nomatch q),n0.2.2,λ_=>n0.2.1⟩
  ·rcases ah.mp ha with rfl|ha
   ·exact⟨(by rw[bK _ g];exact λq=>nomatch q),hll,λ_=>hfl⟩
   ·cases ha
 ·exact⟨_,⟨⟨⟨_,cZ _ rfl,rfl,rfl⟩,hl.push _⟩,λ_ _ _ _ _ e=>e⟩,yM hh lne ⟨h3 _ iW,h1▸n0.2.2,(by rw[cZ _ rfl];exact λq=>nomatch q)⟩ (h2 _ iW) ⟨h3 _ kl,h1▸hll,(by rw[bK _ g];exact λq=>nomatch q)⟩ c (aH.moves h4 c rs)⟩
end
noncomputable abbrev gI:Nat->Str:=hZ [sx "self",sx "name",sx "default",sx "k",sx "v"]
noncomputable abbrev xk:SC:=[(0,.loc),(1,.loc),(2,.loc),(3,.loc),(4,.loc)]
noncomputable abbrev bH:fA:=λ_ _ _=>none
noncomputable abbrev Cl(p1 p2 p3 p4 p5 p6 p7 p8:Pos):S:=.seq (.ite (.cmp .Eq (.meth (.var 3 p1) .lower p2 .nil p3) (.var 1 p4) p5) (.seq (.ret (.var 4 p6) p7) .nil) .nil p8) .nil
noncomputable def qE:aC->Str->Option Str
 |[],_=>none
 |(k,v) :: r,y=>bif Txt.lower k==y then some v else qE r y
theorem vK:∀(T:aC) (x:Str),lookT T x=qE T (Txt.lower x)
 |[],_=>rfl
 |(k,v) :: r,x=>by show(bif Txt.lower k==Txt.lower x then some v else lookT r x)=bif Txt.lower k==Txt.lower x then some v else qE r (Txt.lower x);rw[vK r x];rfl
theorem yT(a b:Str):PyData.eqv (.str a) (.str b)=(a==b):=by unfold PyData.eqv;rfl
theorem E7{p1 p2 p3 p4 p5 p6 p7 p8:Pos}{a d:Option AV}{k v y:Str}{T:aC}(hk:aS k=true)(hy:aS y=true):
  (Cl p1 p2 p3 p4 p5 p6 p7 p8).ex bH [a,some (.val (.str y)),d,some (.val (.str k)),some (.val (.str v))] T=
   some (bif Txt.lower k==y then⟨.ret (.str v),[a,some (.val (.str y)),d,some (.val (.str k)),some (.val (.str v))],T⟩else⟨.next,[a,some (.val (.str y)),d,some (.val (.str k)),some (.val (.str v))],T⟩):=by
 have h1:Nat.ble k.length 5000=true:=by simpa[Nat.ble_eq]using(d5 hk).1
 have h2:gU 4 (.str (Txt.lower k))=true:=eN (cR hk);have h3:gU 4 (.str y)=true:=eN hy;have e1:((E.meth (.var 3 p1) .lower p2 .nil p3).sm bH).ev [a,some (.val (.str y)),d,some (.val (.str k)),some (.val (.str v))] T=aw (Nat.ble k.length 5000) (some (PV.str (Txt.lower k),T)):=rfl;replace e1:=h1▸e1;replace e1:=vO▸e1;have e2:((E.cmp .Eq (.meth (.var 3 p1) .lower p2 .nil p3) (.var 1 p4) p5).sm bH).evT [a,some (.val (.str y)),d,some (.val (.str k)),some (.val (.str v))] T=some (Txt.lower k==y,T):=by refine(?_:(((((E.meth (.var 3 p1) .lower p2 .nil p3).sm bH).ev [a,some (.val (.str y)),d,some (.val (.str k)),some (.val (.str v))] T).bind λp=>(((E.var 1 p4).sm bH).ev [a,some (.val (.str y)),d,some (.val (.str k)),some (.val (.str v))] p.2).bind λq=>(nN .Eq p.1 q.1).map (PV.bool ·,q.2)).bind λp=>(eS p.1).map (·,p.2))=_);rw[e1];refine(?_:((aw (gU 4 (.str (Txt.lower k))&&gU 4 (.str y)) (some (PyData.eqv (.str (Txt.lower k)) (.str y)))).map (PV.bool ·,T)).bind (λp=>(eS p.1).map (·,p.2))=_);rw[h2];rw[h3];rw[yT ..];rfl
 show((((E.cmp .Eq (.meth (.var 3 p1) .lower p2 .nil p3) (.var 1 p4) p5).sm bH).evT [a,some (.val (.str y)),d,some (.val (.str k)),some (.val (.str v))] T).bind λt=>match t.1 with
  |true=>(S.seq (.ret (.var 4 p6) p7) .nil).ex bH _ t.2
  |false=>S.nil.ex bH _ t.2).bind (λo=>match o.fl with
  |.next=>S.nil.ex bH o.σ o.T
  |.brk=>some o
  |.ret _=>some o)=_
 rw[e2];cases Txt.lower k==y<;>rfl
noncomputable def Hc(l:List Stmt)(i:Nat):Stmt:=(l[i]?).getD (.Pass ⟨0,0,0,0⟩)
noncomputable def I0:Stmt->List Stmt
 |.For _ _ b _ _=>b
 |_=>[]
noncomputable def JG:Stmt->Expr
 |.For t _ _ _ _=>t
 |_=>.Constant .none 0 ⟨0,0,0,0⟩
noncomputable abbrev De:List Stmt:=cP (aG 8)
noncomputable def Gu:{b:S // b.toSs gI=I0 (Hc De 1)}:=⟨Cl _ _ _ _ _ _ _ _,rfl⟩
noncomputable def Ft:{t:Tg // t.toE gI=JG (Hc De 1)}:=⟨.many [(3,_),(4,_)] _ _,rfl⟩
noncomputable abbrev sO:S:=Gu.1
noncomputable abbrev yV:Tg:=Ft.1
theorem uT{y:Str}(hy:aS y=true)(a d:Option AV)(R:aC):∀(T:aC) (k0 v0:Option AV),(∀r∈T,aS r.1=true/\aS r.2=true) ->
  ∃k1 v1,cU yV (sO.ex bH) (S.nil.ex bH) (ba T) [a,some (.val (.str y)),d,k0,v0] R=
   some ⟨match qE T y with|some v=>.ret (.str v)|none=>.next,[a,some (.val (.str y)),d,k1,v1],R⟩
 |[],k0,v0,_=>⟨k0,v0,rfl⟩
 |(k,v) :: T,k0,v0,h=>by
  have hk:=(h (k,v) bW).1;have e:sO.ex bH [a,some (.val (.str y)),d,some (.val (.str k)),some (.val (.str v))] R=_:=E7 hk hy;have step:cU yV (sO.ex bH) (S.nil.ex bH) (ba ((k,v) :: T)) [a,some (.val (.str y)),d,k0,v0] R=
    (sO.ex bH [a,some (.val (.str y)),d,some (.val (.str k)),some (.val (.str v))] R).bind λo=>match o.fl with
     |.next=>cU yV (sO.ex bH) (S.nil.ex bH) (ba T) o.σ o.T
     |.brk=>some ⟨.next,o.σ,o.T⟩
     |.ret p=>some ⟨.ret p,o.σ,o.T⟩:=rfl
  rw[step];rw[e];rw[show qE ((k,v) :: T) y=bif Txt.lower k==y then some v else qE T y from rfl];cases hb:Txt.lower k==y with
  |true=>exact⟨_,_,rfl⟩
  |false=>exact uT hy a d R T _ _ λr hr=>h r (bZ _ hr)
structure lk(C:Cx)(T:aC)(h:Heap)(a l d:Addr)(o:Obj)(vs:List Value)(n:Nat):Prop where
 ob:Ob h a l d o vs n
 nf:∀b,b=a\/b=l\/b=d->¬C.F b
 rows:aH C h (ba T) vs
 hl:C.hl=none
 ok:∀r∈T,aS r.1=true/\aS r.2=true
section
variable{B:aX}{C C':Cx}{A:Around}{env:Env}{nm:Nat->Str}{sc:SC}{σ:aF}{mt:List (Nat×Addr)}{s s':Shared}{T T0:aC}{a l d:Addr}{o:Obj}{vs:List Value}{n:Nat}{mN:Str->Option Value}
theorem aH.chgrow(g:bC C s.heap C')(c:eR C s s'){ps:List PV}{ws:List Value}(cl:aA ps=true)(r:aH C s.heap ps ws):aH C' s'.heap ps ws:=
 r.move (C:=C) (C':=C') (λb o x f hl e=>⟨g.x▸x,λq=>(g.f b q).elim f λz=>(by replace z:=e▸z;exact sN z),g.hl▸hl,c.keep b o f hl e⟩) (λb e=>g.ta▸e) cl
theorem Ob.at'{h h':Heap}(O:Ob h a l d o vs n)(hk:∀b,b=a\/b=l\/b=d->∀ob,h.get? b=some ob->h'.get? b=some ob):Ob h' a l d o vs n:=
 ⟨hk a (.inl rfl) _ O.here,O.cls,O.dat,O.dict,O.ne,O.ns.at λob e=>hk d (.inr (.inr rfl)) _ e,hk l (.inr (.inl rfl)) _ O.list⟩
theorem lk.next(R:lk C T s.heap a l d o vs n)(g:bC C s.heap C')(c:eR C s s'):lk C' T s'.heap a l d o vs n where
 ob:=R.ob.at' λb hb ob e=>c.keep b ob (R.nf b hb) (by rw[R.hl];exact λq=>nomatch q) e
 nf:=λb hb q=>(g.f b q).elim (R.nf b hb) λz=>by
  rcases hb with rfl|rfl|rfl
  ·replace z:=R.ob.here▸z;exact sN z
  ·replace z:=R.ob.list▸z;exact sN z
  ·refine pJ R.ob.ns λod _ _ e _=>?_;replace z:=e▸z;exact sN z
 rows:=aH.chgrow g c (eB T) R.rows
 hl:=g.hl.trans R.hl
 ok:=R.ok
theorem lk.kept(R:lk C T s.heap a l d o vs n)(x:a9 none s s'):lk C T s'.heap a l d o vs n:=
 ⟨R.ob.keeps x.all,R.nf,R.rows.kept x,R.hl,R.ok⟩
theorem kQ{h h':Heap}(hk:∀b o,¬C.X b->¬C.F b->C.hl≠some b->h.get? b=some o->¬C'.X b/\¬C'.F b/\C'.hl≠some b/\h'.get? b=some o):∀{T:aC} {vs:List Value},aH C h (ba T) vs->aH C' h' (ba T) vs
 |[],_,r=>r
 |(k,v) :: T,_,r=>BH λG kk=>by obtain⟨w,ws,e0,⟨b,us,e1,x,f,hl,⟨ob,e,gr⟩,rr⟩,rest⟩:=r;refine kH (hk b ob x f hl e) λx' f' l' e'=>?_;exact kk ⟨w,ws,e0,⟨b,us,e1,x',f',l',⟨ob,e',gr⟩,rr⟩,kQ hk rest⟩
theorem dt.ro{F':Addr->Prop}(t:dt C T s.heap a l d o vs n)(V:cV B C s.heap)(x:a9 none s s')(hF:∀b,F' b->s.heap.get? b=none):lk (C.ro.enter F') T s'.heap a l d o vs n where
 ob:=t.ob.keeps x.all
 nf:=λb hb q=>by
  have z:=hF b q;rcases hb with rfl|rfl|rfl
  ·replace z:=t.here▸z;exact sN z
  ·replace z:=t.list▸z;exact sN z
  ·refine pJ t.ns λod _ _ e _=>?_;replace z:=e▸z;exact sN z
 rows:=kQ (C:=C) (C':=C.ro.enter F') (λb ob xx f hl e=>⟨λq=>q.elim (λq=>q.elim xx hl) f,λq=>(by replace e:=hF b q▸e;exact nS e),λq=>(nomatch q),x.all b ob e⟩) t.rows
 hl:=rfl
 ok:=t.ok
end
noncomputable def fq(o:Option Str)(d:PV):PV:=match o with
 |some v=>.str v
 |none=>d
structure jQ(B:aX):Prop where
 f:B.hb.get? 187=some (cr (aG 8) (sx "Headers.get") bv 599 186 (.ref 180))
 c:B.hb.CodeRec (.ref 186) (sx "Headers.get")
 d:∃o n,B.hb.get? 180=some o/\o.data=.seq #[.none] n
section
variable{B:aX}{C:Cx}{A:Around}{env:Env}{s:Shared}{T T0:aC}{a l d:Addr}{o:Obj}{vs:List Value}{n:Nat}{mN:Str->Option Value}
theorem Ax{nm:Nat->Str}{N i:Nat}{sc:SC}{ns:gM}{σ:aF}{mt:List (Nat×Addr)}{x:Str}{p ap p2:Pos}{Q:aJ Value}(Y:At B C env nm sc σ mt T s.heap)(F:fi B 1 N A env ns σ)(ok:(E.meth (.var i p) .lower ap .nil p2).ok nm N ns sc=true)
  (he:σ.getD i none=some (.val (.str x))) (hx:aS x=true) (h:∀u s',a9 C.hl s s'->At B C env nm sc σ mt T s'.heap->Q (.str (Txt.lower x) u) s'):WP B A (eval ((E.meth (.var i p) .lower ap .nil p2).toE nm) env) Q s:=by
 have h1:Nat.ble x.length 5000=true:=by simpa[Nat.ble_eq]using(d5 hx).1
 have e:((E.meth (.var i p) .lower ap .nil p2).sm bH).ev σ T=some (PV.str (Txt.lower x),T):=by refine(?_:(((σ.getD i none).map λa=>(a.read,T))).bind (λp=>(some ([],p.2):Option (List PV×aC)).bind λps=>mH .lower p.1 ps.1 ps.2)=_);rw[he];refine(?_:aw (Nat.ble x.length 5000) (some (PV.str (Txt.lower x),T))=_);rw[h1];rfl
 refine nE (Φ:=bH) fk ok F e Y λv s1 x1 Y1 r1=>?_;refine af r1 ?_;clear r1;intro u q1q;subst q1q;exact h u s1 x1 Y1
theorem H8{N:Nat}{sc:SC}{i j:Nat}(h:i<N)(m:(i,Kd.loc)∈sc)(h':j<N)(m':(j,Kd.loc)∈sc):∀k∈[i,j],k<N/\∃c,c≠Kd.cap/\(k,c)∈sc:=
 qd.mpr ⟨⟨h,.loc,λq=>(nomatch q),m⟩,qd.mpr ⟨⟨h',.loc,λq=>(nomatch q),m'⟩,λ_ q=>nomatch q⟩⟩
theorem BO(H:HF B mN){x:Str}{dp:PV}{Q:aJ Flow}(hA:bJ 1 A)(hx:aS x=true)(hd:clean dp=true)(hsz:T.length<=1000)(EO:bl env (aQ (aG 8)).names)
  (Y:At B C env gI xk [some (.val (.ob (.ref a))),some (.val (.str x)),some (.val dp),none,none] [] T0 s.heap) (R:lk C T s.heap a l d o vs n)
  (h:pE B gI C env xk s (fq (lookT T x) dp) T0 Q):
  WP B A (execs De env) Q s:=by
 have hn:bU gI xk:=bx (by decide +kernel);have glob:∀x,(aQ (aG 8)).names.lookup x=some .globalImplicit->env.kindOf x=some .globalImplicit:=λx hx=>by rw[EO.names ..];exact hx
 have hFits:∀σ:aF,σ.length=5->fi B 1 5 A env (aQ (aG 8)).names σ:=λσ hl=>⟨hA,glob,hl⟩;refine wpAny_execs_cons (wpAny_Assign_Name (gy (b:=true) H hA Y (i:=0) (c:=.loc) iW rfl rfl (by decide +kernel) R.ob rfl rfl ?_));refine Ax (i:=1) (N:=5) Y (hFits _ rfl) rfl rfl hx λu s1 x1 Y1=>⟨_,u,rfl,cR hx,Y1.sim.vol,λv s2 x2 r2=>?_⟩;replace x1:=R.hl▸x1;have Y2:=Y1.kept x2;have R2:=(R.kept x1).kept x2;refine wpAny_mono (lh (nm:=gI) (N:=5) (i:=1) (p:=.str (Txt.lower x)) (Q:=λ_ s'=>WP B A (execs (De.drop 1) env) Q s') hn (by decide +kernel) rfl (a9.refl C.hl s2) Y2 rfl r2 λC3 f s3 mt3 g3 c3 Y3 n3 f3=>?_) (λ_ _ q=>q) λ_ _ q=>q;have R3:=R2.next g3 c3;refine eV (uT (cR hx) (some (.val (.ob (.ref a)))) (some (.val dp)) T0 T none none R.ok) λk1 v1 eloop=>?_;have hbody:iL B gI 5 bH 1 sO:=tY (DI (tZ (nE fk) fk (d4 _)) (tY (CB fk) mC) mC) mC;refine wpAny_execs_cons (yG (nm:=gI) (N:=5) (Φ:=bH) (K:=1) (tg:=yV) (xs:=((ba T,true),T0)) (tup:=false) hbody mC (λ_=>rfl) (λ{Q'} hq=>?_) rfl (H8 (i:=3) (j:=4) (by decide) (.tail _ (.tail _ (.tail _ (.head _)))) (by decide) (.tail _ (.tail _ (.tail _ (.tail _ (.head _)))))) rfl
  (by decide +kernel) rfl hn (hFits _ n3) EO eloop Y3 λC4 f4 s4 mt4 g4 c4 Y4 n4 f4=>?_)
 ·refine kU H Y3 (i:=0) (c:=.loc) iW rfl rfl (by decide +kernel) R3.ob λs5 x5=>?_;have R5:=R3.kept x5;have Y5:=Y3.kept x5;exact lO hA.hd Y5.live (eB T) (R5.nf l (.inr (.inl rfl))) (by rw[R5.hl];exact λq=>nomatch q) R5.ob.list R5.rows λit s6 x6 RD=>hq it s5 s6 x5.up Y5 x6 RD
 ·have G:bC C s.heap C4:=bC.trans (bC.trans (.refl _ _) (x1.up.chgAt Y1) (bC.trans (.refl _ _) (x2.up.chgAt Y2) g3)) ((x1.up.chgAt Y1).trans ((x2.up.chgAt Y2).trans c3)) g4;have CC:eR C s s4:=((x1.up.chgAt Y1).trans ((x2.up.chgAt Y2).trans c3)).grow (bC.trans (bC.trans (.refl _ _) (x1.up.chgAt Y1) (bC.trans (.refl _ _) (x2.up.chgAt Y2) g3)) (.refl _ _) (.refl _ _)) c4;replace h:=(vK ..)▸h;cases hL:qE T (Txt.lower x)with
  |some v=>rw[hL]at f4 h;refine aP f4 ?_;clear f4;intro w q1q rw4;subst q1q;exact h C4 w s4 mt4 _ G CC Y4 rw4
  |none=>rw[hL]at f4 h;obtain rfl:_=Flow.next:=f4;refine wpAny_execs_cons (wpAny_Return_some (Y4.name (i:=2) (c:=.loc) mf rfl rfl (by decide +kernel) λw hw=>?_));exact h C4 w s4 mt4 _ G CC Y4 hw
end
section
variable{B:aX}{C:Cx}{A:Around}{s:Shared}{T:aC}{mN:Str->Option Value}
theorem ua(H:HF B mN)(G:jQ B){a:Addr}{x:Str}{u:Tok}{dp:PV}{dv:Value}{args:Args}{Q:aJ Value}(F:bJ 2 A)(V:cV B C s.heap)(ht:C.ta=some a)(Y:aU C T s.heap)(hx:aS x=true)(hd:clean dp=true)(hf:dD dp=dp)(hdr:an C.ro s.heap dp dv)(hsz:T.length<=1000)
  (hbind:BindsTo s (am (aG 8) (sx "Headers.get") bv 599 186 (.ref 180)) args [(gI 0,.ref a),(gI 1,.str x u),(gI 2,dv)]) (h:lW C s (fq (lookT T x) dp) Q):codeAny (model B.prog B.w) A (.call (.ref 187) args) (RC Q) s:=by
 have I:dX B 187 gI 5 [0,1,2] xk _ _:=jf G.f G.c rfl rfl rfl (by decide +kernel) (by decide +kernel) (by decide +kernel);refine qU (Y a ht) λl d o vs n t=>?_;have hfz:dD (fq (lookT T x) dp)=fq (lookT T x) dp:=by cases lookT T x<;>first|rfl|exact hf
 refine rj (K:=1) (C:=C.ro) (T:=[]) (T':=[]) (args:=args) (vs:=[.ref a,.str x u,dv]) (ps:=[.ob (.ref a),.str x,dp]) (p:=fq (lookT T x) dp) (σ:=[some (.val (.ob (.ref a))),some (.val (.str x)),some (.val dp),none,none]) I rfl hbind ?_ F V.ro aU.ro
  ⟨_,_,rfl,rfl,_,_,rfl,⟨u,rfl⟩,_,_,rfl,hdr,rfl⟩ (λF' A' env s₁ Q' hF hA EO hl Y x1 hP=>?_) (lW.ofRo (p:=fq (lookT T x) dp) (by rw[hfz];exact h))
 ·refine(?_:aw (clean dp) (some _)=_);rw[hd];rfl
 ·exact BO H hA hx hd hsz EO Y (t.ro V x1 hF) hP
theorem yX(H:HF B mN)(G:jQ B){a:Addr}{x:Str}{u:Tok}{dp:PV}{dv:Value}{args:Args}{Q:aJ Value}(F:bJ 2 A)(V:cV B C s.heap)(ht:C.ta=some a)(Y:aU C T s.heap)(hx:aS x=true)(hd:clean dp=true)(hf:dD dp=dp)(hdr:an C.ro s.heap dp dv)(hsz:T.length<=1000)
  (hbind:BindsTo s (am (aG 8) (sx "Headers.get") bv 599 186 (.ref 180)) args [(gI 0,.ref a),(gI 1,.str x u),(gI 2,dv)]) (h:lW C s (fq (lookT T x) dp) Q):WP B A (call (.ref 187) args.pos args.kw) Q s:=
 wpAny_call (ua H G F V ht Y hx hd hf hdr hsz hbind h)
theorem BI(H:HF B mN)(G:jQ B){a:Addr}{x:Str}{u:Tok}{Q:aJ Value}(F:bJ 2 A)(V:cV B C s.heap)(ht:C.ta=some a)(Y:aU C T s.heap)(hx:aS x=true)(hsz:T.length<=1000)
  (h:lW C s (fq (lookT T x) .none) Q):WP B A (call (.ref 187) [.ref a,.str x u] []) Q s:=by
 refine lV G.d λod n h1 h2=>?_;exact yX H G (args:=⟨[.ref a,.str x u],[]⟩) (u:=u) (dp:=.none) (dv:=.none) F V ht Y hx rfl rfl rfl hsz (BindsTo.of_defaults (fd:=am (aG 8) (sx "Headers.get") bv 599 186 (.ref 180)) rfl (V.base _ _ h1) h2 rfl rfl) h
theorem IH(H:HF B mN)(G:jQ B){a:Addr}{x y:Str}{u u2:Tok}{Q:aJ Value}(F:bJ 2 A)(V:cV B C s.heap)(ht:C.ta=some a)(Y:aU C T s.heap)(hx:aS x=true)(hsz:T.length<=1000)
  (h:lW C s (.str ((lookT T x).getD y)) Q):WP B A (call (.ref 187) [.ref a,.str x u] [("default",.str y u2)]) Q s:=by
 refine lV G.d λod n h1 h2=>?_;refine yX H G (args:=⟨[.ref a,.str x u],[("default",.str y u2)]⟩) (u:=u) (dp:=.str y) (dv:=.str y u2) F V ht Y hx rfl rfl ⟨u2,rfl⟩ hsz (BindsTo.of_defaults (fd:=am (aG 8) (sx "Headers.get") bv 599 186 (.ref 180)) rfl (V.base _ _ h1) h2 rfl rfl) ?_;cases hL:lookT T x with
 |some v=>replace h:=hL▸h;exact h
 |none=>replace h:=hL▸h;exact h
theorem Co(H:HF B mN)(G:jQ B){a:Addr}{x y:Str}{u u2:Tok}{Q:aJ Value}(F:bJ 2 A)(V:cV B C s.heap)(ht:C.ta=some a)(Y:aU C T s.heap)(hx:aS x=true)(hsz:T.length<=1000)
  (h:lW C s (.str ((lookT T x).getD y)) Q):codeAny (model B.prog B.w) A (.call (.ref 187) ⟨[.ref a,.str x u],[("default",.str y u2)]⟩) (RC Q) s:=by
 refine lV G.d λod n h1 h2=>?_;refine ua H G (args:=⟨[.ref a,.str x u],[("default",.str y u2)]⟩) (u:=u) (dp:=.str y) (dv:=.str y u2) F V ht Y hx rfl rfl ⟨u2,rfl⟩ hsz (BindsTo.of_defaults (fd:=am (aG 8) (sx "Headers.get") bv 599 186 (.ref 180)) rfl (V.base _ _ h1) h2 rfl rfl) ?_;cases hL:lookT T x with
 |some v=>replace h:=hL▸h;exact h
 |none=>replace h:=hL▸h;exact h
end
theorem jr{B:aX}{a:Addr}{st:Stmt}{qual mod:Str}{t:Nat}{code:Addr}{dflt:Value}{nm:Nat->Str}{N:Nat}{params:List Nat}{sc:SC}(slots:List Nat)(ho:B.hb.get? a=some (cr st qual mod t code dflt))(hc:B.hb.CodeRec (.ref code) qual)
  (k:(aQ st).kind=.function) (co:(aQ st).isCoroutine=false) (ge:(aQ st).isGenerator=false) (hok:hH nm (aQ st).names slots=some sc) (nd:gS nm sc=true)
  (ps:(params.all λi=>Nat.blt i N&&sc.any λy=>y.1==i)=true):dX B a nm N params sc (cr st qual mod t code dflt) (am st qual mod t code dflt) where
 ho:=ho
 dat:=rfl
 clo:=rfl
 kind:=k
 cor:=co
 gen:=ge
 gl:=rfl
 bt:=rfl
 code:=hc
 own:=⟨_,hok⟩
 nd:=bx nd
 ps:=λi hi=>by
  have h:=eA.mp (bD.mp ps i hi);refine⟨by simpa[Nat.blt_eq]using h.1,?_⟩;obtain⟨⟨j,c⟩,hj,e⟩:=ls.mp h.2;have:j=i:=by simpa using e
  subst this;exact⟨c,hj⟩
structure FW(B:aX):Prop where
 fK:B.hb.get? 192=some (cr (aG 9) (sx "Headers.keys") bv 599 191)
 cK:B.hb.CodeRec (.ref 191) (sx "Headers.keys")
 fI:B.hb.get? 204=some (cr (aG 11) (sx "Headers.items") bv 599 203)
 cI:B.hb.CodeRec (.ref 203) (sx "Headers.items")
 fS:B.hb.get? 230=some (cr (aG 15) (sx "Headers.setdefault") bv 599 229)
 cS:B.hb.CodeRec (.ref 229) (sx "Headers.setdefault")
 fD:B.hb.get? 158=some (cr (aG 4) (sx "Headers.__delitem__") bv 599 157)
 cD:B.hb.CodeRec (.ref 157) (sx "Headers.__delitem__")
noncomputable abbrev gQ:Nat->Str:=hZ [sx "self",sx "k",sx "v"]
noncomputable abbrev qO:SC:=[(0,.loc)]
theorem xm{q1 q2 q3 p:Pos}{k:Nat}(R:aC):∀(T:aC) (a k0 v0:Option AV),
  bq ((E.nil).sm bH).evIfs ((E.var 1 p).sm bH).ev (.many [(1,q1),(2,q2)] k q3) (ba T) [a,k0,v0] R=some (T.map λr=>.str r.1,R)
 |[],_,_,_=>rfl
 |(x,y) :: T,a,k0,v0=>by refine(?_:(bq ((E.nil).sm bH).evIfs ((E.var 1 p).sm bH).ev (.many [(1,q1),(2,q2)] k q3) (ba T) [a,some (.val (.str x)),some (.val (.str y))] R).map (λz=>(PV.str x :: z.1,z.2))=_);rewrite[xm R T];rfl
section
variable{B:aX}{C:Cx}{A:Around}{env:Env}{s:Shared}{T T0:aC}{a l d:Addr}{o:Obj}{vs:List Value}{n:Nat}{mN:Str->Option Value}
theorem zI(H:HF B mN){Q:aJ Flow}(hA:bJ 1 A)(hsz:T.length<=1000)(EO:bl env (aQ (aG 9)).names)
  (Y:At B C env gQ qO [some (.val (.ob (.ref a))),none,none] [] T0 s.heap) (R:lk C T s.heap a l d o vs n) {scope:Scope} {p1 p2 p3 p4 p5 p6 p7 p8:Pos} {k:Nat}
  (hsc:oR gQ 3 qO scope [] (.many [(1,p2),(2,p3)] k p4)=true) (hso:BR gQ scope.names [] (.many [(1,p2),(2,p3)] k p4)=some [(1,.loc),(2,.loc)])
  (h:pE B gQ C env qO s (.list (T.map λr=>.str r.1)) T0 Q):
  WP B A (execs [.Return (some (.ListComp (.Name "k" p1) [⟨.Tuple [.Name "k" p2,.Name "v" p3] k p4,.Attribute (.Name "self" p5) "_headers" p6,[],0⟩] scope p7)) p8] env) Q s:=by
 have glob:∀x,(aQ (aG 9)).names.lookup x=some .globalImplicit->env.kindOf x=some .globalImplicit:=λx hx=>by rw[EO.names ..];exact hx
 have hF:fi B 1 3 A env (aQ (aG 9)).names [some (.val (.ob (.ref a))),none,none]:=⟨hA,glob,rfl⟩;refine wpAny_execs_cons (wpAny_Return_some ?_);refine(?_:WP B A (comprehension (.ListComp ((E.var 1 p1).toE gQ) [⟨(Tg.many [(1,p2),(2,p3)] k p4).toE gQ,.Attribute (.Name "self" p5) "_headers" p6,(E.nil).toEs gQ,0⟩] scope p7) scope env p6 (newList []) false (eval (.Attribute (.Name "self" p5) "_headers" p6) env)) _ s);have plain:bc (gQ 1)=true:=by decide +kernel
 refine qV (B:=B) (nm:=gQ) (N:=3) (Φ:=bH) (K:=1) (tup:=false) (xs:=((ba T,true),T0)) (ysT:=(T.map λr=>.str r.1,T0)) (λ_=>rfl) (λ{Q'} hq=>?_) fk yY (i3 hsc hso) (by show(_&&bc (gQ 1))=true;rw[plain];rfl) rfl rfl hF (by simp[ba];exact de hsz (by decide)) (xm T0 T none none none) Y λys D L s₁ s' er cy x1 hL hns G M=>?_
 ·refine kU H Y (i:=0) (c:=.loc) iW rfl rfl (by decide +kernel) R.ob λs5 x5=>?_;have R5:=R.kept x5;have Y5:=Y.kept x5;exact lO hA.hd Y5.live (eB T) (R5.nf l (.inr (.inl rfl))) (by rw[R5.hl];exact λq=>nomatch q) R5.ob.list R5.rows λit s6 x6 RD=>hq it s5 s6 x5.up Y5 x6 RD
 ·refine af hns ?_;clear hns;intro m hm;refine⟨m,hm,λh' hs=>?_⟩;have g:=G h' λa ne=>hs.2 a ne;cases er;exact h C _ { s' with heap:=h' } [] _ (.refl _ _) ((x1.trans g.ext).chgAt g.at') g.at' g.rep
theorem j0:IsPart .none none:=.none
theorem mB:∀(T:aC),bd (T.map λr=>PV.str r.1)=T.map λr=>PV.str r.1
 |[]=>rfl
 |r :: T=>congrArg (PV.str r.1 :: ·) (mB T)
theorem Dp(H:HF B mN)(M:FW B){Q:aJ Value}(F:bJ 2 A)(V:cV B C s.heap)(ht:C.ta=some a)(Y:aU C T s.heap)(hsz:T.length<=1000)
  (h:lW C s (.list (T.map λr=>.str r.1)) Q):WP B A (call (.ref 192) [.ref a] []) Q s:=by
 have I:dX B 192 gQ 3 [0] qO _ _:=jr [0] M.fK M.cK rfl rfl rfl (by decide +kernel) (by decide +kernel) (by decide +kernel);refine qU (Y a ht) λl d o vs n t=>?_;have hfz:dD (.list (T.map λr=>.str r.1))=.list (T.map λr=>.str r.1):=congrArg PV.list (mB T);refine qK (K:=1) (C:=C.ro) (T:=[]) (T':=[]) (args:=⟨[.ref a],[]⟩) (vs:=[.ref a]) (ps:=[.ob (.ref a)]) (p:=.list (T.map λr=>.str r.1)) (σ:=[some (.val (.ob (.ref a))),none,none]) I rfl (BindsTo.of_eq rfl) rfl F V.ro aU.ro
  ⟨_,_,rfl,rfl,rfl⟩ (λF' A' env s₁ Q' hF hA EO hl Y x1 hP=>?_) (lW.ofRo (by rw[hfz];exact h))
 exact zI H hA hsz EO Y (t.ro V x1 hF) (by decide +kernel) (by decide +kernel) hP
theorem uz(H:HF B mN)(M:FW B){Q:aJ Value}(F:bJ 2 A)(V:cV B C s.heap)(ht:C.ta=some a)(Y:aU C T s.heap)(hsz:T.length<=1000)
  (h:∀l s' vs n,a9 none s s'->s.heap.get? l=none->s'.heap.get? l=some (aT vs n)->vs.length=T.length->an C s'.heap (.list (ba T)) (.ref l)->Q (.ref l) s'):WP B A (call (.ref 204) [.ref a] []) Q s:=by
 have I:dX B 204 (hZ [sx "self"]) 1 [0] qO _ _:=jr [0] M.fI M.cI rfl rfl rfl (by decide +kernel) (by decide +kernel) (by decide +kernel);refine qU (Y a ht) λl d o vs n t=>?_;refine sW (K:=1) (C:=C.ro) (T:=[]) (args:=⟨[.ref a],[]⟩) (vs:=[.ref a]) (ps:=[.ob (.ref a)]) (σ:=[some (.val (.ob (.ref a)))]) I (body:=cP (aG 11)) rfl (BindsTo.of_eq rfl) rfl F V.ro aU.ro
  ⟨_,_,rfl,rfl,rfl⟩ λF' A' env s₁ hF hA EO hl Y1 x1=>?_
 have R:=t.ro V x1 hF;have hlen:vs.length=T.length:=by rw[t.rows.length];simp[ba]
 refine wpAny_execs_cons (wpAny_Return_some (Subscript_ (kU H Y1 (i:=0) (c:=.loc) iW rfl rfl (by decide +kernel) R.ob λs2 x2=>wpAny_Slice (wpAny_pure (wpAny_pure (wpAny_pure ?_))))));have O2:=R.ob.keeps x2.all;have hl2:s2.heap.IsList l vs.toArray:=⟨_,O2.list,rfl,n,rfl⟩;have x3:a9 none s2 { s2 with heap:=s2.heap.push { cls:=.type "slice",data:=.fields #[.none,.none,.none] } }:=.lay';refine jG (T:="list") ⟨_,x3.all _ _ O2.list,rfl⟩ PySem.F.slot_list_getitem.lookup (wpAny_getItem_list_slice (items:=vs.toArray) (lo:=none) (hi:=none) (st:=none) (hl2.push _) (Heap.IsSliceOf.new s2.heap .none .none .none) j0 j0 j0 (λq=>nomatch q) ?_ (show _<=cap by simp[hlen];exact de hsz (by decide)));rw[slicePick_all ..];have x4:a9 none s ({ s2 with heap:=(s2.heap.push { cls:=.type "slice",data:=.fields #[.none,.none,.none] }).push (aT vs 0) }:Shared):=((x1.trans x2).trans x3).trans .lay';have hnew:s.heap.get? (s2.heap.push { cls:=.type "slice",data:=.fields #[.none,.none,.none] }).objs.size=none:=by
  cases e:s.heap.get? (s2.heap.push { cls:=.type "slice",data:=.fields #[.none,.none,.none] }).objs.size with
  |none=>rfl
  |some ob=>have:=((x1.trans x2).trans x3).all _ _ e;replace this:=(show(({ s2 with heap:=s2.heap.push { cls:=.type "slice",data:=.fields #[.none,.none,.none] } }:Shared).heap.get? (s2.heap.push { cls:=.type "slice",data:=.fields #[.none,.none,.none] }).objs.size)=none from aV _)▸this;exact nS this
 have L:=V.toLive.new hnew;exact h _ _ vs 0 x4 hnew (cZ _ rfl) hlen ⟨_,vs,0,rfl,L.1,L.2.1,L.2.2,cZ _ rfl,t.rows.kept x4⟩
end
theorem se(T U:aC):ba (T++U)=ba T++ba U:=by simp[ba]
section
variable{B:aX}{C:Cx}{A:Around}{env:Env}{s:Shared}{T T':aC}{a l d:Addr}{o:Obj}{vs vs':List Value}{n n':Nat}{mN:Str->Option Value}
theorem dt.set{h h':Heap}(t:dt C T h a l d o vs n)(k:∀b ob,b≠l->h.get? b=some ob->h'.get? b=some ob)(g:h'.get? l=some (aT vs' n'))(r:aH C h' (ba T') vs')(ok:∀r∈T',aS r.1=true/\aS r.2=true):dt C T' h' a l d o vs' n':=by have na:a≠l:=λq=>(t.apart a (.inl rfl)).2.2 (q▸t.hl);have nd:d≠l:=λq=>(t.apart d (.inr rfl)).2.2 (q▸t.hl);exact⟨t.hl,g,r,k a _ na t.here,t.cls,t.dat,t.dict,t.ne,t.ns.at λob e=>k d ob nd e,t.apart,ok⟩
theorem dt.at'{h:Heap}(ht:C.ta=some a)(t:dt C T h a l d o vs n):aU C T h:=λb e=>by replace e:=ht▸e;replace e:=iS e;subst e;exact⟨l,d,o,vs,n,t⟩
noncomputable abbrev ul:Nat->Str:=hZ [sx "self",sx "name",sx "value",sx "result"]
theorem uF(x:Sem Value):∀y∈[(false,x)],y.1=false:=by intro y hy;rcases ah.mp hy with rfl|hy;rfl;cases hy
theorem Cj{nm:Nat->Str}{N i:Nat}{sc:SC}{σ:aF}{mt:List (Nat×Addr)}{p:PV}{v:Value}{x:Str}{R:aJ Unit}(hn:bU nm sc)(hi:cw nm N sc i=true)(hl:σ.length=N)(hx:nm i=x)(Y:At B C env nm sc σ mt T s.heap)(c:clean p=true)(r:an C s.heap p v)
  (h:∀s' mt',eR C s s'->ug s s'->At B C env nm sc (σ.set i (some (.val p))) mt' T s'.heap->R () s'):WP B A (storeName env x v) R s:=by
 obtain⟨h1,⟨k,hk,hm⟩,_⟩:=ay hi;subst hx;exact Y.sim.store (av:=.val p) hm hn (hl▸h1) hk ⟨c,r⟩ λs1 S1 c1 l1=>h s1 _ c1 l1 ⟨S1,Y.tab.chg c1 l1⟩
theorem CK(H:HF B mN)(G:jQ B){x y:Str}{Q:aJ Flow}(hA:bJ 2 A)(hx:aS x=true)(hy:aS y=true)(hsz:T.length<=1000)(EO:bl env (aQ (aG 15)).names)(ht:C.ta=some a)
  (Y:At B C env ul fY [some (.val (.ob (.ref a))),some (.val (.str x)),some (.val (.str y)),none] [] T s.heap)
  {p1 p2 p3 p4 p5 p6 p7 p8 p9 p10 p11 p12 p13 p14 p15 p16 p17 p18 p19 p20 p21 p22 p23 p24 p25 p26 p27 p28 p29 p30 p31 p32:Pos} {k k2 k3 k4:Nat} (hl1:(p3.endLine==p5.line)=true) (hl2:(p12.endLine==p25.line)=true) (hl3:(p14.endLine==p18.line)=true) (hl4:(p20.endLine==p24.line)=true)
  (h:pE B ul C env fY s (.str (jN T x y).1) (jN T x y).2 Q):
  WP B A (execs [.Assign [.Name "result" p1] (.Call (.Attribute (.Name "self" p2) "get" p3) [.Name "name" p4] [] p5) p6,
   .If (.Compare (.Name "result" p7) [.Is] [.Constant .none k p8] p9)
    [.Expr (.Call (.Attribute (.Attribute (.Name "self" p10) "_headers" p11) "append" p12)
     [.Tuple [.Call (.Attribute (.Name "self" p13) "_convert_string_type" p14) [.Name "name" p15] [⟨some "name",.Constant (.bool true) k2 p16,p17⟩] p18,
         .Call (.Attribute (.Name "self" p19) "_convert_string_type" p20) [.Name "value" p21] [⟨some "name",.Constant (.bool false) k3 p22,p23⟩] p24] k4 p30] [] p25) p26,
    .Return (some (.Name "value" p27)) p28] [.Return (some (.Name "result" p29)) p31] p32] env) Q s:=by
 have hn:bU ul fY:=bx (by decide +kernel);refine qU (Y.tab a ht) λl d o vs n t=>?_;have nX:¬C.F a:=(t.apart a (.inl rfl)).1;refine wpAny_execs_cons (wpAny_Assign_Name (dy (λ{Q} hQ=>hQ) (uF _) (eE (dh _)) hl1 (Y.name (i:=0) (c:=.loc) iW rfl rfl (by decide +kernel) λv hv pl=>?_)));obtain rfl:v=.ref a:=hv;refine kc H Y.sim.vol.base t.ob H.mGet G.f rfl Cf (by decide +kernel) ?_;refine d0 (o:=cr (aG 8) (sx "Headers.get") bv 599 186 (.ref 180)) (fd:=am (aG 8) (sx "Headers.get") bv 599 186 (.ref 180)) (uF _) (mX (Y.name (i:=1) (c:=.loc) kl rfl rfl (by decide +kernel) λv hv=>?_));refine af hv ?_;clear hv;intro u q1q;subst q1q;refine⟨⟨Y.sim.vol.base _ _ G.f,rfl⟩,BI H G hA Y.sim.vol ht Y.tab hx hsz λv s2 x2 r2=>?_⟩;have Y2:=Y.kept x2;have cl:clean (fq (lookT T x) .none)=true:=by cases lookT T x<;>rfl
 refine Cj (nm:=ul) (N:=4) (i:=3) hn (by decide +kernel) rfl rfl Y2 cl r2 λs3 mt3 c3 l3 Y3=>?_;have c03:eR C s s3:=(x2.up.chgAt Y2).trans c3;refine wpAny_execs_cons (wpAny_If (wpAny_isTrue_Compare1 (Y3.name (i:=3) (c:=.loc) w7 rfl rfl (by decide +kernel) λw hw=>wpAny_Constant_none ?_)));unfold jN at h;cases hL:lookT T x with
 |some z=>rw[hL]at h hw;refine af hw ?_;clear hw;intro u3 q1q;subst q1q;refine is_str_none (wpAny_truthy_bool ?_);rw[if_neg (λq=>nomatch q)];refine wpAny_execs_cons (wpAny_Return_some (Y3.name (i:=3) (c:=.loc) (av:=.val (.str z)) w7 (by rw[hL];rfl) rfl (by decide +kernel) λw hw=>?_));exact h C w s3 mt3 _ (.refl _ _) c03 Y3 hw
 |none=>
  rw[hL]at h hw;obtain rfl:w=.none:=hw;refine wpAny_is_self rfl (wpAny_truthy_bool ?_);rw[if_pos rfl];refine qU (Y3.tab a ht) λl d o vs n t=>?_;have hA1:=hA.mono (k':=1) (by lia);have hlen:vs.length=T.length:=by rw[t.rows.length];simp[ba]
  refine wpAny_execs_cons (wpAny_Expr_any (dy (λ{Q} hQ=>hQ) (uF _) (eE (dh _)) hl2 (kU H Y3 (i:=0) (c:=.loc) iW rfl rfl (by decide +kernel) t.ob λs4 x4 pl=>?_)) (bz EO));have Y4:=Y3.kept x4;have O4:=t.ob.keeps x4.all;refine gT PySem.F.slot_list_append PySem.F.type_list_append O4.list ?_;refine PySem.P.append_list (wpAny_Tuple (k:=k4) ?_);refine(?_:WP B A (spliced [(false,_),(false,_)]) _ s4);refine df (gy (b:=true) H hA1 Y4 (i:=0) (c:=.loc) iW rfl rfl (by decide +kernel) O4 hl3 rfl (Y4.name (i:=1) (c:=.loc) kl rfl rfl (by decide +kernel) λv hv=>?_));refine af hv ?_;clear hv;intro u5 q1q;subst q1q;refine⟨x,u5,rfl,hx,Y4.sim.vol,λv1 s5 x5 r5=>?_⟩;have Y5:=Y4.kept x5;have O5:=O4.keeps x5.all;refine df (gy (b:=false) H hA1 Y5 (i:=0) (c:=.loc) iW rfl rfl (by decide +kernel) O5 hl4 rfl (Y5.name (i:=2) (c:=.loc) mf rfl rfl (by decide +kernel) λv hv=>?_));refine af hv ?_;clear hv;intro u6 q1q;subst q1q;refine⟨y,u6,rfl,hy,Y5.sim.vol,λv2 s6 x6 r6=>fJ ⟨eE (dh _),?_⟩⟩;have Y6:=Y5.kept x6;have O6:=O5.keeps x6.all;refine af r5 ?_;clear r5;intro t5 q1q;subst q1q;refine af r6 ?_;clear r6;intro t6 q1q;subst q1q;have x36:a9 none s3 s6:=(x4.trans x5).trans x6;have x7:a9 none s6 { s6 with heap:=s6.heap.push (eg [.str x t5,.str y t6] 0) }:=.lay';have Y7:=Y6.kept x7;have hnewL:=Y6.live.new (aV s6.heap);have rt:an C (s6.heap.push (eg [.str x t5,.str y t6] 0)) (.tuple [.str x,.str y]) (.ref s6.heap.objs.size):=an.newTuple Y6.live ⟨_,_,rfl,⟨t5,rfl⟩,_,_,rfl,⟨t6,rfl⟩,rfl⟩;have O7:=O6.keeps x7.all;have t7:dt C T (s6.heap.push (eg [.str x t5,.str y t6] 0)) a l d o vs n:=⟨t.hl,O7.list,(t.rows.kept x36).kept x7,O7.here,t.cls,t.dat,t.dict,t.ne,O7.ns,t.apart,t.ok⟩;refine⟨vs.toArray,n,(show _<=cap by simp[hlen];exact de hsz (by decide)),O7.list,?_⟩;have g8:((s6.heap.push (eg [.str x t5,.str y t6] 0)).update l (Obj.mapSeq λz=>z.push (.ref s6.heap.objs.size))).get? l=some (aT (vs++[.ref s6.heap.objs.size]) (n+1)):=by have:=IsL.update (f:=λz=>z.push (.ref s6.heap.objs.size)) O7.list;simpa[IsL]using this
  have k8:∀b ob,b≠l->(s6.heap.push (eg [.str x t5,.str y t6] 0)).get? b=some ob->((s6.heap.push (eg [.str x t5,.str y t6] 0)).update l (Obj.mapSeq λz=>z.push (.ref s6.heap.objs.size))).get? b=some ob:=
   λb ob ne e=>((Heap.SameBut.update (h:=s6.heap.push (eg [.str x t5,.str y t6] 0)) (a:=l) (f:=Obj.mapSeq λz=>z.push (.ref s6.heap.objs.size))).2 b ne).trans e
  have khl:∀b ob,C.hl≠some b->(s6.heap.push (eg [.str x t5,.str y t6] 0)).get? b=some ob->((s6.heap.push (eg [.str x t5,.str y t6] 0)).update l (Obj.mapSeq λz=>z.push (.ref s6.heap.objs.size))).get? b=some ob:=
   λb ob ne e=>k8 b ob (λq=>ne (q▸t.hl)) e
  have liveL:∀b,C.hl=some b->((s6.heap.push (eg [.str x t5,.str y t6] 0)).update l (Obj.mapSeq λz=>z.push (.ref s6.heap.objs.size))).get? b≠none:=λb e=>by replace e:=t.hl▸e;replace e:=iS e;subst e;rw[g8];exact λq=>nomatch q
  have t8:=t7.set (T':=T++[(x,y)]) k8 g8 (by
   rw[se ..];exact(t7.rows.keep khl).append ⟨_,[],rfl,rt.keep khl,rfl⟩) (λr hr=>by
   rcases jU.mp hr with hr|hr
   ·exact t.ok r hr
   ·simp at hr;subst hr;exact⟨hx,hy⟩)
  have S8:=Y7.sim.keep khl liveL;have x8:a9 C.hl s3 { s6 with heap:=(s6.heap.push (eg [.str x t5,.str y t6] 0)).update l (Obj.mapSeq λz=>z.push (.ref s6.heap.objs.size)) }:=
   ((x36.trans x7).up).trans ⟨rfl,rfl,rfl,khl⟩
  refine wpAny_execs_cons (wpAny_Return_some (At.name (s:={ s6 with heap:=(s6.heap.push (eg [.str x t5,.str y t6] 0)).update l (Obj.mapSeq λz=>z.push (.ref s6.heap.objs.size)) }) ⟨S8,t8.at' ht⟩ (i:=2) (c:=.loc) mf rfl rfl (by decide +kernel) λw hw=>?_));exact h C w _ mt3 _ (.refl _ _) (c03.trans (x8.chg liveL)) ⟨S8,t8.at' ht⟩ hw
theorem rE(H:HF B mN)(G:jQ B)(M:FW B){x y:Str}{u u2:Tok}{Q:aJ Value}(F:bJ 3 A)(V:cV B C s.heap)(ht:C.ta=some a)(Y:aU C T s.heap)(hx:aS x=true)(hy:aS y=true)(hsz:T.length<=1000)
  (h:mW B C s (.str (jN T x y).1) (jN T x y).2 Q):WP B A (call (.ref 230) [.ref a,.str x u,.str y u2] []) Q s:=by
 have I:dX B 230 ul 4 [0,1,2] fY _ _:=jr [0,1,2,3] M.fS M.cS rfl rfl rfl (by decide +kernel) (by decide +kernel) (by decide +kernel);refine qK (K:=2) (args:=⟨[.ref a,.str x u,.str y u2],[]⟩) (vs:=[.ref a,.str x u,.str y u2]) (ps:=[.ob (.ref a),.str x,.str y]) (p:=.str (jN T x y).1) (T':=(jN T x y).2) (σ:=[some (.val (.ob (.ref a))),some (.val (.str x)),some (.val (.str y)),none]) I rfl (BindsTo.of_eq rfl) rfl F V Y
  ⟨_,_,rfl,rfl,_,_,rfl,⟨u,rfl⟩,_,_,rfl,⟨u2,rfl⟩,rfl⟩ (λF' A' env s₁ Q' hF hA EO hl Y1 x1 hP=>?_) h
 exact CK (C:=C.enter F') H G hA hx hy hsz EO ht Y1 rfl rfl rfl rfl hP
end
section
variable{prog:Program}{w:World}{A:Around}{E:aJ Value}{s:Shared}
open Builtin Builtin.List in
theorem tK{l sl D:Addr}{vs ws:List Value}{n n2:Nat}{Q:aJ Unit}(g:s.heap.get? l=some (aT vs n))(hs:s.heap.IsSliceOf sl .none .none .none)(gD:s.heap.get? D=some (aT ws n2))(hne:l≠D)(hsz:vs.length+ws.length<=sizeLine)
  (h:∀h' m,h'.get? l=some (aT ws m)->(∀b o,b≠l->s.heap.get? b=some o->h'.get? b=some o)->Q () { s with heap:=h' }):wpAny (model prog w) A (setItem (.ref l) (.ref sl) (.ref D)) Q E s:=by
 refine d1 (id hs) λos hos hcs hds=>?_;have hTs:s.TypeIs (.ref sl) "slice":=⟨os,hos,hcs⟩;have hT:s.TypeIs (.ref l) "list":=⟨_,g,rfl⟩;have hTD:s.TypeIs (.ref D) "list":=⟨_,gD,rfl⟩;unfold setItem
 try with_reducible refine wpAny_holding ?_
 refine wpAny_bind (wpAny_sequenceKey hT (by decide) ?_);refine wpAny_bind (wpAny_callSpecial?_slot (name:=Str.ofString "__setitem__") hT slot_list_setitem (wpAny_call_entry slot_list_setitem hT entry_list_setitem ?_ (args_list_setitem _ _ _)));refine(?_:wpAny _ _ (Builtin.List.listSubscript? (.ref sl) >>= _) _ _ s);refine wpAny_bind ?_;unfold Builtin.List.listSubscript?;refine wpAny_bind (wpAny_specialOf hTs slice_no_index ?_);refine wpAny_ite_true rfl ?_;refine wpAny_pure ?_;refine(?_:wpAny _ _ (typeOf (.ref sl) >>= _) _ _ s);refine wpAny_bind (wpAny_typeOf hTs ?_);refine wpAny_ite_false (by decide) ?_;rw[listSliceParts_eq ..];refine wpAny_bind (wpAny_bind (wpAny_field hos hds (x:=.none) rfl (wpAny_bind (wpAny_listPart (k:=none) .none ?_))));refine wpAny_ite_false rfl ?_;refine wpAny_bind (wpAny_field hos hds (x:=.none) rfl (wpAny_bind (wpAny_listPart (k:=none) .none ?_)));refine wpAny_bind (wpAny_field hos hds (x:=.none) rfl (wpAny_bind (wpAny_listPart (k:=none) .none (wpAny_pure ?_))));refine wpAny_ite_false (decide_eq_false λq=>hne (beq_iff_eq.mp q)) ?_;refine wpAny_bind ?_;unfold listAllItems;refine wpAny_bind (wpAny_typeOf hTD ?_);refine wpAny_ite_true (by decide) ?_;unfold listItems;refine wpAny_bind (wpAny_seqItems gD rfl (wpAny_pure ?_));refine wpAny_bind (wpAny_bind (wpAny_seqItems g rfl (wpAny_pure ?_)));refine wpAny_bind (wpAny_of_eq (sliceIndices_raw none none none vs.toArray.size (λq=>nomatch q)) ?_);refine(?_:wpAny _ _ (rule "list.__setitem__.slice" >>= _) _ _ s);refine wpAny_bind (wpAny_rule ?_);refine wpAny_ite_false (decide_eq_false λq=>absurd hsz (Nat.not_le_of_lt (of_decide_eq_true q))) ?_;have hfx:vs.toArray.extract 0 (0:Int).toNat++ws.toArray++vs.toArray.extract (max (0:Int) (vs.toArray.size:Int)).toNat vs.toArray.size=ws.toArray:=by
  have e1:(max (0:Int) (vs.toArray.size:Int)).toNat=vs.toArray.size:=by rw[Int.max_eq_right (ij _)];rfl
  rw[e1];apply Array.toList_inj.mp;simp
 refine wpAny_bind (wpAny_updateSeq (M:=model prog w) (f:=λxs=>xs.extract 0 (0:Int).toNat++ws.toArray++xs.extract (max (0:Int) (vs.toArray.size:Int)).toNat xs.size) g rfl ?_ (by simp;lia) (by refine(?_:(vs.toArray.extract 0 (0:Int).toNat++ws.toArray++vs.toArray.extract (max (0:Int) (vs.toArray.size:Int)).toNat vs.toArray.size).size<=sizeLine+1);rw[hfx];simp;lia))
 refine wpAny_bind (wpAny_letGo ?_);have g2:(s.heap.update l (Obj.mapSeq λxs=>xs.extract 0 (0:Int).toNat++ws.toArray++xs.extract (max (0:Int) (vs.toArray.size:Int)).toNat xs.size)).get? l=some (aT ws (if (ws.toArray.size==vs.toArray.size)=true then n else n+1)):=by have:=IsL.update (f:=λxs=>xs.extract 0 (0:Int).toNat++ws.toArray++xs.extract (max (0:Int) (vs.toArray.size:Int)).toNat xs.size) g;replace this:=hfx▸this;exact this
 exact wpAny_bind (wpAny_pure (wpAny_pure ⟨_,rfl,wpAny_pure (h _ _ g2 λb o ne e=>((Heap.SameBut.update (h:=s.heap) (a:=l) (f:=Obj.mapSeq λxs=>xs.extract 0 (0:Int).toNat++ws.toArray++xs.extract (max (0:Int) (vs.toArray.size:Int)).toNat xs.size)).2 b ne).trans e)⟩))
end
theorem Go:typeLookup (.type "object") "__delitem__"=pure none:=by rw[typeLookup_type ..];rw[builtinLookup_eq_fast];kernel_rfl
section
variable{B:aX}{A:Around}{s:Shared}{a l d:Addr}{o:Obj}{vs:List Value}{n:Nat}{mN:Str->Option Value}
theorem uM(H:HF B mN)(M:FW B){iv:Value}{Q:aJ Unit}(hb:∀a o,B.hb.get? a=some o->s.heap.get? a=some o)(O:Ob s.heap a l d o vs n)(h:WP B A (call (.ref 158) [.ref a,iv] []) (λ_ s'=>Q () s') s):WP B A (delItem (.ref a) iv) Q s:=by
 refine eV H.cls λt1 t2 hC'=>?_;obtain⟨hp,g,dr,tk,os⟩:=s;have hC:=hb _ _ hC';have hn:=H.ns.keeps hb;have hx:=O.here;have hc:o.cls=.ref 240:=O.cls;have hf:=hb _ _ M.fD;have hm:=H.mDel;unfold delItem sequenceKey callSpecial? specialOf
 repeat (any_goals (first|assumption|(with_reducible refine wpAny_loadPart_at hx ?_;rw[hc])|(with_reducible refine wpAny_typeLookup_exc hC hn PySem.F.mro_object Go ?_;rw[hm])|(with_reducible refine wpAny_isSubtype_exc hC ?_)|wp_step))
 refine wpAny_bindSpecial_def hf rfl ?_;refine(?_:WP B A (call (.ref 158) [.ref a,iv] [] >>= λr=>pure (some r)) _ _);exact wpAny_bind (wpAny_mono h (λv s' hq=>wpAny_pure (wpAny_pure hq)) λ_ _ f=>f)
theorem dY.ro{C:Cx}{env:Env}{nm:Nat->Str}{sc:SC}{σ:aF}{h:Heap}(S:dY B C env nm sc σ [] h)(hp:∀i av,σ.getD i none=some av->(∃v,av=.val (.ob v))\/∃x,av=.val (.str x)):dY B C.ro env nm sc σ [] h where
 vol:=S.vol.ro
 fF:=S.fF
 cF:=λx a e=>(S.cF x a e).imp id .inl
 mF:=λ_ _ q=>nomatch q
 mlist:=λ_ _ q=>nomatch q
 minj:=λ_ _ _ q=>nomatch q
 ex:=by
  refine aP S.ex λm F e=>?_;refine⟨m,F,λi c hi=>⟨?_,?_⟩⟩
  ·have k:=(e i c hi).1;cases c with
   |loc=>exact k
   |cell=>exact k
   |cap=>obtain⟨k,a,ha,x⟩:=k;exact⟨k,a,ha,.inl x⟩
  ·have y:=(e i c hi).2;cases z:σ.getD i none with
   |none=>trivial
   |some av=>
    replace y:=z▸y;rcases hp i av z with⟨v,rfl⟩|⟨x,rfl⟩
    ·obtain⟨c,w,e,r⟩:=y;exact⟨c,w,e,r⟩
    ·obtain⟨c,w,e,r⟩:=y;exact⟨c,w,e,r⟩
noncomputable def iV:aC->Str->aC
 |[],_=>[]
 |(k,v) :: r,y=>bif Txt.lower k==y then iV r y else(k,v) :: iV r y
theorem oS{k v r y}:iV ((k,v) :: r) y=(bif Txt.lower k==y then iV r y else(k,v) :: iV r y):=rfl
theorem vB:∀(T:aC) (x:Str),fg T x=iV T (Txt.lower x)
 |[],_=>rfl
 |(k,v) :: r,x=>by rw[Ez];rw[oS];rw[vB r x];rfl
theorem nT:∀{T:aC} {y:Str} {r:Str×Str},r∈iV T y->r∈T
 |[],_,_,h=>h
 |(k,v) :: T,y,r,h=>by
  replace h:=oS▸h;cases hb:Txt.lower k==y with
  |true=>replace h:=hb▸h;exact bZ _ (nT h)
  |false=>
   replace h:=hb▸h;rcases ah.mp h with h|h
   ·rw[h];exact bW
   ·exact bZ _ (nT h)
theorem r7:∀(T:aC) (y:Str),(iV T y).length<=T.length
 |[],_=>d4 _
 |(k,v) :: T,y=>by rw[oS];have:=r7 T y;cases Txt.lower k==y<;>simp<;>lia
noncomputable abbrev ky:Nat->Str:=hZ [sx "self",sx "name",sx "kv"]
noncomputable abbrev vt:SC:=[(0,.loc),(1,.cell)]
noncomputable abbrev jt(p1 p2 p3 p4 p5 p6 p7:Pos)(k:Nat):E:=.cons (.cmp .NotEq (.meth (.sub (.var 2 p1) (.cst (.int 0) k p2) p3) .lower p4 .nil p5) (.var 1 p6) p7) .nil
theorem G2{p1 p2 p3 p4 p5 p6 p7:Pos}{kk:Nat}{a:Option AV}{k v y:Str}{R:aC}(hk:aS k=true)(hy:aS y=true):
  ((jt p1 p2 p3 p4 p5 p6 p7 kk).sm bH).evIfs [a,some (.val (.str y)),some (.val (.tuple [.str k,.str v]))] R=some (!(Txt.lower k==y),R):=by
 have h1:Nat.ble k.length 5000=true:=by simpa[Nat.ble_eq]using(d5 hk).1
 have h2:gU 4 (.str (Txt.lower k))=true:=eN (cR hk);have h3:gU 4 (.str y)=true:=eN hy;have e1:((E.meth (.sub (.var 2 p1) (.cst (.int 0) kk p2) p3) .lower p4 .nil p5).sm bH).ev [a,some (.val (.str y)),some (.val (.tuple [.str k,.str v]))] R=aw (Nat.ble k.length 5000) (some (PV.str (Txt.lower k),R)):=rfl;replace e1:=h1▸e1;replace e1:=vO▸e1;refine(?_:(((((E.meth (.sub (.var 2 p1) (.cst (.int 0) kk p2) p3) .lower p4 .nil p5).sm bH).ev [a,some (.val (.str y)),some (.val (.tuple [.str k,.str v]))] R).bind λp=>(((E.var 1 p6).sm bH).ev [a,some (.val (.str y)),some (.val (.tuple [.str k,.str v]))] p.2).bind λq=>(nN .NotEq p.1 q.1).map (PV.bool ·,q.2)).bind λp=>(eS p.1).map (·,p.2))=_);rw[e1];refine(?_:((aw (gU 4 (.str (Txt.lower k))&&gU 4 (.str y)) (some (!PyData.eqv (.str (Txt.lower k)) (.str y)))).map (PV.bool ·,R)).bind (λp=>(eS p.1).map (·,p.2))=_);rw[h2];rw[h3];rw[yT ..];rfl
theorem CA{p1 p2 p3 p4 p5 p6 p7 q1 q2:Pos}{kk:Nat}{y:Str}(hy:aS y=true)(a:Option AV)(R:aC):∀(T:aC) (k0:Option AV),(∀r∈T,aS r.1=true/\aS r.2=true) ->
  bq ((jt p1 p2 p3 p4 p5 p6 p7 kk).sm bH).evIfs ((E.var 2 q1).sm bH).ev (.one 2 q2) (ba T) [a,some (.val (.str y)),k0] R=some (ba (iV T y),R)
 |[],_,_=>rfl
 |(k,v) :: T,k0,h=>by
  have e:=G2 (p1:=p1) (p2:=p2) (p3:=p3) (p4:=p4) (p5:=p5) (p6:=p6) (p7:=p7) (kk:=kk) (a:=a) (k:=k) (v:=v) (R:=R) (h (k,v) bW).1 hy;have ih:=λk0=>CA (p1:=p1) (p2:=p2) (p3:=p3) (p4:=p4) (p5:=p5) (p6:=p6) (p7:=p7) (q1:=q1) (q2:=q2) (kk:=kk) hy a R T k0 λr hr=>h r (bZ _ hr);have step:bq ((jt p1 p2 p3 p4 p5 p6 p7 kk).sm bH).evIfs ((E.var 2 q1).sm bH).ev (.one 2 q2) (ba ((k,v) :: T)) [a,some (.val (.str y)),k0] R=
    (((jt p1 p2 p3 p4 p5 p6 p7 kk).sm bH).evIfs [a,some (.val (.str y)),some (.val (.tuple [.str k,.str v]))] R).bind λr=>match r.1 with
     |false=>bq ((jt p1 p2 p3 p4 p5 p6 p7 kk).sm bH).evIfs ((E.var 2 q1).sm bH).ev (.one 2 q2) (ba T) [a,some (.val (.str y)),some (.val (.tuple [.str k,.str v]))] r.2
     |true=>(bq ((jt p1 p2 p3 p4 p5 p6 p7 kk).sm bH).evIfs ((E.var 2 q1).sm bH).ev (.one 2 q2) (ba T) [a,some (.val (.str y)),some (.val (.tuple [.str k,.str v]))] r.2).map λz=>(PV.tuple [.str k,.str v] :: z.1,z.2):=rfl
  rw[step];rw[e];rw[oS];cases hb:Txt.lower k==y with
  |true=>exact ih _
  |false=>refine(?_:(bq ((jt p1 p2 p3 p4 p5 p6 p7 kk).sm bH).evIfs ((E.var 2 q1).sm bH).ev (.one 2 q2) (ba T) [a,some (.val (.str y)),some (.val (.tuple [.str k,.str v]))] R).map _=_);rw[ih ..];rfl
end
section
variable{B:aX}{C:Cx}{A:Around}{env:Env}{s:Shared}{T:aC}{a:Addr}{mN:Str->Option Value}
noncomputable abbrev Fc(B:aX)(nm:Nat->Str)(C:Cx)(env:Env)(sc:SC)(s:Shared)(T:aC)(Q:aJ Flow):Prop:=
 ∀C' s' mt' σ',bC C s.heap C'->eR C s s'->At B C' env nm sc σ' mt' T s'.heap->Q .next s'
theorem DE{nm:Nat->Str}{N K:Nat}{a:Addr}{params:List Nat}{sc:SC}{o:Obj}{fd:FuncData}(I:dX B a nm N params sc o fd){body:List Stmt}(hbody:fd.body=.stmts body)
  {ps:List PV} {vs:List Value} {args:Args} {T':aC} {σ:aF} {Q:aJ Value}
  (hbind:BindsTo s fd args ((params.map nm).zip vs)) (eσ:aq (List.replicate N none) (params.map λi=>(i,⟨0,0,0,0⟩)) ps=some σ)
  (F:bJ (K+1) A) (V:cV B C s.heap) (Y:aU C T s.heap) (rs:aH C s.heap ps vs)
  (hb:∀F' A' env s₁ Q',(∀b,F' b->s.heap.get? b=none)->bJ K A'->bl env fd.scope.names->σ.length=N->At B (C.enter F') env nm sc σ [] T s₁.heap->a9 none s s₁->Fc B nm (C.enter F') env sc s₁ T' Q'->WP B A' (execs body env) Q' s₁)
  (hQ:mW B C s .none T' Q):WP B A (call (.ref a) args.pos args.kw) Q s:=by
 refine sW I hbody hbind eσ F V Y rs λF' A' env s₁ hF' hA EO hl Y1 x1=>hb F' A' env s₁ _ hF' hA EO hl Y1 x1 λC2 s2 mt2 σ2 g c2 Y2=>?_;refine(?_:Q .none s2);have kp:=x1.all;have hX:∀b,C2.X b↔C.X b\/C.F b:=λb=>by rw[g.x];rfl
 have hhl:C2.hl=C.hl:=g.hl;have x2:a9 C.hl s s2:=⟨c2.gens.trans x1.gens,c2.drawn.trans x1.drawn,c2.os.trans x1.os,λb o l e=>c2.keep b o (λq=>by replace e:=hF' b q▸e;exact nS e) l (kp b o e)⟩;have V2:=Y2.sim.vol;have V3:cV B C s2.heap:=⟨V2.base,V.baseX,V.baseF,V.baseL,λb x=>V2.liveX b ((hX b).mpr (.inl x)),λb x=>V2.liveX b ((hX b).mpr (.inr x)),λb l=>V2.liveL b (hhl▸l),V.fx,V.lf,V.lx⟩;have T3:aU C T' s2.heap:=Y2.tab.move (C:=C2) g.ta.symm hhl.symm (λl vs n _ e=>e) λb o x f l e=>⟨λq=>x ((hX b).mpr (.inl q)),λq=>x ((hX b).mpr (.inr q)),e⟩;exact hQ .none s2 x2 V3 rfl T3
theorem fM{nm:Nat->Str}{N i:Nat}{sc:SC}{σ:aF}{p:PV}{v:Value}{x:Str}{R:aJ Unit}(hn:bU nm sc)(hi:cw nm N sc i=true)(hl:σ.length=N)(hx:nm i=x)(Y:At B C env nm sc σ [] T s.heap)(c:clean p=true)(r:an C s.heap p v)
  (h:∀s',eR C s s'->ug s s'->At B C env nm sc (σ.set i (some (.val p))) [] T s'.heap->R () s'):WP B A (storeName env x v) R s:=by
 obtain⟨h1,⟨k,hk,hm⟩,_⟩:=ay hi;subst hx;exact Y.sim.store (av:=.val p) hm hn (hl▸h1) hk ⟨c,r⟩ λs1 S1 c1 l1=>h s1 c1 l1 ⟨S1,Y.tab.chg c1 l1⟩
theorem Bv(H:HF B mN){x:Str}{Q:aJ Flow}(hA:bJ 1 A)(hx:aS x=true)(hsz:T.length<=1000)(EO:bl env (aQ (aG 4)).names)(ht:C.ta=some a)
  (Y:At B C env ky vt [some (.val (.ob (.ref a))),some (.val (.str x)),none] [] T s.heap)
  (h:Fc B ky C env vt s (fg T x) Q):
  WP B A (execs (cP (aG 4)) env) Q s:=by
 have hn:bU ky vt:=bx (by decide +kernel);have glob:∀x,(aQ (aG 4)).names.lookup x=some .globalImplicit->env.kindOf x=some .globalImplicit:=λx hx=>by rw[EO.names ..];exact hx
 have hFits:∀σ:aF,σ.length=3->fi B 1 3 A env (aQ (aG 4)).names σ:=λσ hl=>⟨hA,glob,hl⟩;refine qU (Y.tab a ht) λl d o vs n t=>?_;refine wpAny_execs_cons (wpAny_Assign_Name (gy (b:=true) H hA Y (i:=0) (c:=.loc) iW rfl rfl (by decide +kernel) t.ob rfl rfl ?_));refine Ax (i:=1) (N:=3) Y (hFits _ rfl) rfl rfl hx λu s1 x1 Y1=>⟨_,u,rfl,cR hx,Y1.sim.vol,λv s2 x2 r2=>?_⟩;have Y2:=Y1.kept x2;refine fM (nm:=ky) (N:=3) (i:=1) hn (by decide +kernel) rfl rfl Y2 rfl r2 λs3 c3 l3 Y3=>?_;have c03:eR C s s3:=(x1.chgAt Y1).trans ((x2.up.chgAt Y2).trans c3);clear t vs n d o l;refine qU (Y3.tab a ht) λl d o vs n t=>?_;have hlen:vs.length=T.length:=by rw[t.rows.length];simp[ba]
 have hnl:∀b,b=a\/b=l\/b=d->¬C.F b:=λb hb=>by
  rcases hb with rfl|rfl|rfl
  ·exact(t.apart _ (.inl rfl)).1
  ·exact Y3.sim.vol.lf _ t.hl
  ·exact(t.apart _ (.inr rfl)).1
 have Yr:At B C.ro env ky vt [some (.val (.ob (.ref a))),some (.val (.str (Txt.lower x))),none] [] [] s3.heap:=⟨Y3.sim.ro λi av e=>by
  have e':([some (AV.val (.ob (.ref a))),some (.val (.str (Txt.lower x))),none]:aF).getD i none=some av:=e
  match i,e' with
  |0,e'=>replace e':=iS e';subst e';exact .inl ⟨_,rfl⟩
  |1,e'=>replace e':=iS e';subst e';exact .inr ⟨_,rfl⟩
  |2,e'=>exact nS e'
  |i+3,e'=>simp[List.getD]at e',aU.ro⟩
 have rr:aH C.ro s3.heap (ba T) vs:=kQ (C:=C) (C':=C.ro) (λb ob xx f hl e=>⟨λq=>q.elim xx hl,f,λq=>(nomatch q),e⟩) t.rows;refine wpAny_execs_cons (wpAny_Assign_Subscript ?_);refine(?_:WP B A (comprehension (.ListComp ((E.var 2 _).toE ky) [⟨(Tg.one 2 _).toE ky,_,(jt _ _ _ _ _ _ _ _).toEs ky,0⟩] _ _) _ env _ (newList []) false _) _ s3);refine qV (B:=B) (C:=C.ro) (nm:=ky) (N:=3) (Φ:=bH) (K:=1) (tup:=false) (xs:=((ba T,true),[])) (ysT:=(ba (iV T (Txt.lower x)),[])) (λ_=>rfl) (λ{Q'} hq=>?_) fk (ut (tZ (nE (xn fk yW)) fk (d4 _))) (i3 (caps:=[1]) (by decide +kernel) (by decide +kernel:_=some [(1,.cap),(2,.loc)])) (by decide +kernel)
  (by decide +kernel) rfl (hFits _ rfl) (by simp[ba];exact de hsz (by decide)) (CA (cR hx) none [] T none t.ok) Yr λys D L s₁ s' er cy x4 hL hns G M=>?_
 ·refine kU H Yr (i:=0) (c:=.loc) iW rfl rfl (by decide +kernel) t.ob λs5 x5=>?_;have Y5:=Yr.kept x5;exact lO hA.hd Y5.live (eB T) (hnl l (.inr (.inl rfl))) (λq=>nomatch q) (x5.all _ _ t.list) (rr.kept x5) λit s6 x6 RD=>hq it s5 s6 x5.up Y5 x6 RD
 ·refine af hns ?_;clear hns;intro m hm;refine⟨m,hm,λh' hs=>?_⟩;have g:=G h' λa ne=>hs.2 a ne;have er':ys=ba (iV T (Txt.lower x)):=by cases er;rfl
  subst er';have xg:a9 none s3 { s' with heap:=h' }:=x4.trans g.ext;have Y6:=Y3.kept xg;obtain⟨_,ws,m2,eD,hXD,_,_,gD,rws⟩:=g.rep;cases eD;have O6:=t.ob.keeps xg.all;have hwl:ws.length=(iV T (Txt.lower x)).length:=by rw[rws.length];simp[ba]
  have hne:l≠D:=λq=>hXD (.inr (q▸t.hl));refine kU (s:={ s' with heap:=h' }) H Y6 (i:=0) (c:=.loc) iW rfl rfl (by decide +kernel) O6 λs7 x7=>wpAny_Slice (wpAny_pure (wpAny_pure (wpAny_pure ?_)));have x8:a9 none s7 { s7 with heap:=s7.heap.push { cls:=.type "slice",data:=.fields #[.none,.none,.none] } }:=.lay';have x38:=(xg.trans x7).trans x8;have Y8:=Y3.kept x38;have gl:=x38.all _ _ t.list;have gD8:=(x7.trans x8).all _ _ gD;refine tK gl (Heap.IsSliceOf.new s7.heap .none .none .none) gD8 hne (by have:=r7 T (Txt.lower x);rw[hwl];rw[hlen];rw[sizeLine_eq];lia) λh9 m9 g9 k9=>?_
  have khl:∀b ob,C.hl≠some b->(s7.heap.push { cls:=.type "slice",data:=.fields #[.none,.none,.none] }).get? b=some ob->h9.get? b=some ob:=λb ob ne e=>k9 b ob (λq=>ne (q▸t.hl)) e;have liveL:∀b,C.hl=some b->h9.get? b≠none:=λb e=>by replace e:=t.hl▸e;replace e:=iS e;subst e;rw[g9];exact λq=>nomatch q
  have t8:dt C T (s7.heap.push { cls:=.type "slice",data:=.fields #[.none,.none,.none] }) a l d o vs n:=by have O8:=t.ob.keeps x38.all;exact⟨t.hl,O8.list,t.rows.kept x38,O8.here,t.cls,t.dat,t.dict,t.ne,O8.ns,t.apart,t.ok⟩
  have t9:=t8.set (T':=iV T (Txt.lower x)) k9 g9 (kQ (C:=C.ro) (C':=C) (λb ob xx f _ e=>⟨λq=>xx (.inl q),f,λq=>xx (.inr q),khl b ob (λq=>xx (.inr q)) ((x7.trans x8).all _ _ e)⟩) rws) (λr hr=>t.ok r (nT hr));have S9:=Y8.sim.keep khl liveL;have x9:a9 C.hl s3 { s7 with heap:=h9 }:=x38.up.trans ⟨rfl,rfl,rfl,khl⟩;refine wpAny_execs_nil ?_;replace h:=(vB ..)▸h;exact h C { s7 with heap:=h9 } [] _ (.refl _ _) (c03.trans (x9.chg liveL)) ⟨S9,t9.at' ht⟩
theorem Gj(H:HF B mN)(M:FW B){x:Str}{u:Tok}{Q:aJ Unit}(F:bJ 2 A)(V:cV B C s.heap)(ht:C.ta=some a)(Y:aU C T s.heap)(hx:aS x=true)(hsz:T.length<=1000)
  (h:∀s',a9 C.hl s s'->cV B C s'.heap->aU C (fg T x) s'.heap->Q () s'):WP B A (delItem (.ref a) (.str x u)) Q s:=by
 have I:dX B 158 ky 3 [0,1] vt _ _:=jr [0,1] M.fD M.cD rfl rfl rfl (by decide +kernel) (by decide +kernel) (by decide +kernel);refine qU (Y a ht) λl d o vs n t=>?_;refine uM H M V.base t.ob ?_;refine DE (K:=1) (args:=⟨[.ref a,.str x u],[]⟩) (vs:=[.ref a,.str x u]) (ps:=[.ob (.ref a),.str x]) (T':=fg T x) (σ:=[some (.val (.ob (.ref a))),some (.val (.str x)),none]) I rfl (BindsTo.of_eq rfl) rfl F V Y
  ⟨_,_,rfl,rfl,_,_,rfl,⟨u,rfl⟩,rfl⟩ (λF' A' env s₁ Q' hF hA EO hl Y1 x1 hP=>?_) λv s' x V' _ T'=>h s' x V' T'
 exact Bv (C:=C.enter F') H hA hx hsz EO ht Y1 hP
end
section
open Builtin Builtin.ObjectAttr
section
variable{prog:Program}{w:World}{A:Around}{E:aJ Value}{h:Heap}{g:Array GenState}{d:Drawn}{t:Nat}{os:OsState}
variable{nm q:Str}{C N x:Addr}{bs:List Value}{sn:List Str}{sub:List Value}{ab:Bool}{col:Option Bool}{dd:Option Addr}{k0 k1 k2 k3 k5:Option Value}{newId:String}
 {mN mA:Str->Option Value} {name:Str} {f:Addr} {of:Obj}
theorem zY:typeLookup (.type "function") "__set__"=pure none:=by rw[typeLookup_type ..];rw[builtinLookup_eq_fast];kernel_rfl
theorem tn:typeLookup (.type "function") "__delete__"=pure none:=by rw[typeLookup_type ..];rw[builtinLookup_eq_fast];kernel_rfl
set_option maxHeartbeats 1000000 in
theorem uR{tk:Tok}{Q:aJ Fin}
  (hC:h.get? C=some (excClassObj nm q C N bs [.type "object"] true sn sub ab col dd k0 k1 k2 k3 k5 newId)) (hn:h.Ns N mN) (hm:mN name=some (.ref f)) (hf:h.get? f=some of) (hfc:of.cls=.type "function")
  (hgx:mN "__getattr__"=none) (hB:typeLookup (.type "object") name=pure none) {o:Obj} {dx:Addr} (hx:h.get? x=some o) (hc:o.cls=.ref C) (hnc:∀c,o.data≠.cls c) (hdx:o.dict=some dx) (hns:h.Ns1 dx mA) (hcg:([Str.ofString "__module__",Str.ofString "__name__",Str.ofString "__qualname__",Str.ofString "__doc__",Str.ofString "__annotations__"].contains name)=false) (hv:mA name=none) (hq:Q (.done (.ret (.ref h.objs.size))) ⟨h.push { cls:=.type "method",data:=.fields #[.ref f,.ref x] },g,d,t,os⟩):
  wpAny (model prog w) A (Builtin.«proto.getattr_hooked» ⟨[.ref x,.str name tk],[]⟩) Q E ⟨h,g,d,t,os⟩:=by
 have hTf:(⟨h,g,d,t,os⟩:Shared).TypeIs (.ref f) "function":=⟨_,hf,hfc⟩;have hlk:=PySem.F.ks_slot_function_get.lookup;have hls:=zY;have hld:=tn;unfold Builtin.«proto.getattr_hooked»
 repeat (first
  |(with_reducible refine wpAny_loadPart_at hx ?_;rw[hc])
  |(with_reducible refine wpAny_typeLookup_exc hC hn PySem.F.mro_object hB ?_;rw[hm])
  |(with_reducible refine wpAny_typeOf hTf ?_)
  |(with_reducible refine wpAny_call_entry PySem.F.ks_slot_function_get hTf PySem.F.ks_entry_function_get ?_ (PySem.F.ks_getArgs_function _ _ _))
  |(with_reducible refine⟨_,rfl,?_⟩)
  |wp_step)
 split
 ·rename_i c hcd
  exact absurd hcd (hnc c)
 unfold instanceDict
 repeat (first
  |(with_reducible refine wpAny_loadPart_at hx ?_;rw[hc])
  |with_reducible refine wpAny_loadPart_at hC ?_
  |wp_step)
 rw[hdx]
 repeat (first
  |(with_reducible refine wpAny_nsGet hns.ns ?_;rw[hv])
  |wp_step)
 rw[if_neg (by rw[hcg];exact j9)];refine wpAny_pure ?_;show wpAny _ A (do rule "getattr.non-data-descriptor";pure (Found.bind (.builtin "function.__get__") (.ref f))) _ E _
 repeat (first
  |(with_reducible refine wpAny_typeLookup_exc hC hn PySem.F.mro_object PySem.F.lk_object_getattr ?_;rw[hgx])
  |wp_step)
 refine codeAny_call_builtin PySem.F.ks_slot_function_get.plain PySem.F.ks_entry_function_get (PySem.F.ks_slot_function_get.check _ _ _ _ _ _ _ _ hTf (PySem.F.ks_getArgs_function _ _ _) ?_);unfold Builtin.«function.__get__»
 repeat wp_step
 exact hq
theorem xQ{expr:Bool}{Q:aJ Value}
  (hC:h.get? C=some (excClassObj nm q C N bs [.type "object"] true sn sub ab col dd k0 k1 k2 k3 k5 newId)) (hn:h.Ns N mN) (hng:mN "__getattribute__"=none) (hm:mN name=some (.ref f)) (hf:h.get? f=some of) (hfc:of.cls=.type "function")
  (hgx:mN "__getattr__"=none) (hB:typeLookup (.type "object") name=pure none) {o:Obj} {dx:Addr} (hx:h.get? x=some o) (hc:o.cls=.ref C) (hnc:∀c,o.data≠.cls c) (hdx:o.dict=some dx) (hns:h.Ns1 dx mA) (hcg:([Str.ofString "__module__",Str.ofString "__name__",Str.ofString "__qualname__",Str.ofString "__doc__",Str.ofString "__annotations__"].contains name)=false) (hv:mA name=none)
  (hq:Q (.ref h.objs.size) ⟨h.push { cls:=.type "method",data:=.fields #[.ref f,.ref x] },g,d,t+1,os⟩):
  wpAny (model prog w) A (getAttr (.ref x) name expr) Q E ⟨h,g,d,t,os⟩:=by
 unfold getAttr getAttrBy
 repeat (first|(with_reducible refine wpAny_loadPart_at hx ?_;rw[hc])|(with_reducible refine wpAny_typeLookup_exc hC hn PySem.F.mro_object PySem.F.lk_object_ga ?_;rw[hng])|wp_step)
 refine(?_:wpAny _ _ ((runValue (.builtin "proto.getattr_hooked" ⟨[.ref x,.str name t],[]⟩)).onRaise (noteIf true (.ref x) (.str name t))) _ _ _);refine wpAny_onRaise (wpAny_runValue (codeAny_builtin PySem.F.plainObj_entry_getattr_hooked (uR hC hn hm hf hfc hgx hB hx hc hnc hdx hns hcg hv ?_)));exact wpAny_pure hq
end
end
noncomputable abbrev jw:Obj:={ cls:=.type "dict",data:=.dict #[] }
noncomputable abbrev tz(h:Int)(k v:Value)(n:Nat):Obj:={ cls:=.type "dict",data:=.dict #[⟨h,k,v⟩] n }
section
variable{prog:Program}{w:World}{A:Around}{E:aJ Value}{s:Shared}
theorem vz{a:Addr}{name:Str}{v:Value}{Q:aJ Unit}(g:s.heap.get? a=some jw)
  (h:∀h',h'.get? a=some (tz (hashStr w name) (.str name s.toks) v 1)->Heap.SameBut a s.heap h'->Q () { s with heap:=h',toks:=s.toks+1 }):wpAny (model prog w) A (nsSet a name v) Q E s:=by
 obtain⟨hp,gs,dr,tk,os⟩:=s;unfold nsSet strHash;refine wpAny_bind (wpAny_bind (wpAny_askSetting (wpAny_pure ?_)));refine wpAny_bind (wpAny_mkText (wpAny_bind (wpAny_loadPart (s:=⟨hp,gs,dr,tk+1,os⟩) g ?_)));have e1:aRefKeyMayBeTheName name #[]=false:=rfl;refine(?_:wpAny _ _ (if aRefKeyMayBeTheName name #[]=true then _ else _) _ _ _);rw[e1];rw[if_neg j9];refine wpAny_updatePart (s:=⟨hp,gs,dr,tk+1,os⟩) g ?_;refine h _ ?_ (Heap.SameBut.update ..);rw[qo _ g rfl];rfl
theorem kt{d:Addr}{x:Str}{t:Tok}{n:Nat}{Q:Option Nat->Shared->Prop}(g:s.heap.get? d=some { cls:=.type "dict",data:=.dict #[] n })(h:Q none s):wpAny (model prog w) A (dictFind d (.str x t) (hashStr w x)) Q E s:=by refine wpAny_dictFind_of (knd:=PySem.strKind prog w) (k:=x) (by simp[PySem.strKind,Value.isStrOf]) g rfl (λe he=>by simp at he) ?_;simpa using h
theorem oJ:typeLookup (.type "dict") "__iter__"=pure (some (.builtin "dict.__iter__")):=by rw[typeLookup_type ..];rw[builtinLookup_eq_fast];kernel_rfl
theorem rK:isSubtype (.type "dict") (.type "dict")=pure true:=by rw[isSubtype_type ..];kernel_rfl
theorem AN{d m:Addr}{x:Str}{t:Tok}{v:Value}{n:Nat}{Q:aJ Unit}(gd:s.heap.get? d=some jw)(gm:s.heap.get? m=some (tz (hashStr w x) (.str x t) v n))(hm:(m==sysModules)=false)(hne:m≠d)
  (h:∀h',h'.get? d=some (tz (hashStr w x) (.str x t) v 1)->Heap.SameBut d s.heap h'->Q () { s with heap:=h' }):wpAny (model prog w) A (mergeMapping d (.ref m) true) Q E s:=by
 have hT:s.TypeIs (.ref m) "dict":=⟨_,gm,rfl⟩;unfold mergeMapping;refine wpAny_bind (wpAny_isInstance (T:="dict") (b:=true) hT rK ?_);rw[if_pos rfl];refine wpAny_bind (wpAny_specialOf hT oJ (wpAny_bind (wpAny_pure ?_)));have hb:(some (Value.builtin "dict.__iter__")==some (Value.builtin "dict.__iter__"))=true:=rfl;rw[hb];refine(?_:wpAny _ _ (if (m==sysModules)=true then _ else _) _ _ s);rw[hm];rw[if_neg j9];refine wpAny_bind (wpAny_dictEntries gd rfl ?_);rw[if_pos (show(#[]:Array DictEntry).isEmpty=true from rfl)];refine wpAny_bind (wpAny_dictEntries gm rfl ?_);refine wpAny_bind ?_;refine wpAny_mono (Q:=λ_ s'=>s'=s) (E:=λ_ _=>False) ?_ (λ_ s' e=>?_) λ_ _ f=>f.elim
 ·exact wpAny_pure rfl
 ·subst e;refine wpAny_bind (wpAny_dictEntries gm rfl (wpAny_bind (wpAny_dictEpoch gm rfl ?_)));refine wpAny_bind ?_;refine wpAny_mono (Q:=λ_ s''=>Q () s'') (E:=λ_ _=>False) ?_ (λ_ s' e=>wpAny_pure e) λ_ _ f=>f.elim;rw[show List.range (#[({ hash:=hashStr w x,key:=Value.str x t,val:=v }:DictEntry)]).size=[0]from rfl];rw[List.forIn_cons ..];refine wpAny_bind (wpAny_bind (wpAny_dictEntries gm rfl ?_));refine wpAny_bind (wpAny_holding ?_);rw[if_pos rfl];refine wpAny_bind (kt gd ?_);rw[if_neg j9];unfold dictPut;refine wpAny_bind (kt gd ?_);refine wpAny_updateDictKeys gd rfl ?_;have g2:(s'.heap.update d (Obj.mapDictKeys λes=>es.push ⟨hashStr w x,.str x t,v⟩)).get? d=some (tz (hashStr w x) (.str x t) v 1):=by rw[qo _ gd rfl];rfl
  have k2:=Heap.SameBut.update (h:=s'.heap) (a:=d) (f:=Obj.mapDictKeys λes=>es.push ⟨hashStr w x,.str x t,v⟩);refine wpAny_bind (wpAny_dictEpoch (s:={ s' with heap:=s'.heap.update d (Obj.mapDictKeys λes=>es.push ⟨hashStr w x,.str x t,v⟩) }) ((k2.2 m hne).trans gm) rfl ?_);rw[if_neg (by simp)];refine wpAny_pure ?_;exact wpAny_pure (h _ g2 k2)
theorem pa{f:Value}{d:Addr}{x:Str}{t:Tok}{v:Value}{hh:Int}{n:Nat}{Q:List (Str×Value)->Shared->Prop}(g:s.heap.get? d=some (tz hh (.str x t) v n))(h:Q [(x,v)] s):wpAny (model prog w) A (keywordsIn f d) Q E s:=by unfold keywordsIn;refine wpAny_bind (wpAny_dictEntries g rfl ?_);refine wpAny_bind ?_;refine wpAny_mono (Q:=λkw s'=>s'=s/\kw=[(x,v)]) (E:=λ_ _=>False) (wpAny_pure ⟨rfl,rfl⟩) (λ_ _ e=>?_) λ_ _ f=>f.elim;refine cL e ?_;clear e;intro q1q q2q;subst q1q;subst q2q;exact wpAny_pure h
noncomputable def FU(w:World)(d:Addr)(Q:aJ Addr)(mv:Value)(s₁:Shared):Prop:=
 ∃m y t v n,mv=.ref m/\s₁.heap.get? d=some jw/\s₁.heap.get? m=some (tz (hashStr w y) (.str y t) v n)/\(m==sysModules)=false/\m≠d /\
    ∀h',h'.get? d=some (tz (hashStr w y) (.str y t) v 1)->Heap.SameBut d s₁.heap h'->Q d { s₁ with heap:=h' }
theorem Ag{d:Addr}{Q:aJ Addr}{mv:Value}{s₁:Shared}(h:FU w d Q mv s₁):wpAny (model prog w) A (mergeMapping d mv true) (λ_=>Q d) (λ_ _=>False) s₁:=by obtain⟨m,y,t,v,n,rfl,gd,gm,hm,hne,hq⟩:=h;exact AN gd gm hm hne hq
theorem xL{f:Value}{x:Sem Value}{Q:aJ Addr}
  (h:∀d s₀,Heap.get? s₀.heap d=some jw->(s.heap.get? d=none)->(∀b o,s.heap.get? b=some o->s₀.heap.get? b=some o)->s₀={ s with heap:=s₀.heap } ->
   wpAny (model prog w) A x (FU w d Q) (λ_ _=>False) s₀):wpAny (model prog w) A (mergedKeywords f [(none,x)]) Q E s:=by
 unfold mergedKeywords;refine wpAny_bind (wpAny_alloc (wpAny_bind (wpAny_holding (wpAny_bind (wpAny_bind (wpAny_bind (wpAny_pure (wpAny_bind (wpAny_mono (h s.heap.objs.size { s with heap:=s.heap.push jw } (cZ _ rfl) (gi (d4 _)) (λb o e=>bK _ e) rfl) (λmv s₁ hq=>?_) λ_ _ f=>f.elim)))))))));exact wpAny_bind (wpAny_onRaise (wpAny_holding (wpAny_tryCatch (wpAny_onRaise (wpAny_mono (Ag hq) (λ_ _ h=>wpAny_pure (wpAny_pure (wpAny_pure (wpAny_pure h)))) λ_ _ f=>f.elim)))))
end
structure AS(B:aX):Prop where
 f:B.hb.get? 76=some (cr (aK 7) (sx "_get_name_info") pW 289 75)
 c:B.hb.CodeRec (.ref 75) (sx "_get_name_info")
 g:B.at ("_get_name_info":Str)=some (.ref 76)
 m:B.hb.get? sysModules≠none
noncomputable abbrev ji:Nat->Str:=hZ [sx "name_index",sx "get_name",sx "extrainfo",sx "argval"]
section
variable{B:aX}{C:Cx}{A:Around}{env:Env}{s:Shared}{T:aC}{a:Addr}{mN:Str->Option Value}
noncomputable abbrev mm(f a:Addr):Obj:={ cls:=.type "method",data:=.fields #[.ref f,.ref a] }
theorem rL{x m:Sem Value}{fv:Value}{Q:aJ Args}
  (h:WP B A x (λv s₁=>wpAny (model B.prog B.w) A (mergedKeywords fv [(none,m)]) (λd s₂=>∃y t u n hh,s₂.heap.get? d=some (tz hh (.str y t) u n)/\Q ⟨[v],[(y,u)]⟩ s₂) (λ_ _=>False) s₁) s):
  WP B A (evalArgs fv true [(false,x)] [(none,m)]) Q s:=by
 unfold evalArgs;refine wpAny_bind (mX (wpAny_mono h (λv s₁ h₁=>?_) λ_ _ f=>f));refine wpAny_bind (wpAny_pure (wpAny_holding ?_));rw[if_neg (λq=>nomatch q)];refine wpAny_bind (wpAny_mono h₁ (λd s₂ h₂=>?_) λ_ _ f=>f);obtain⟨y,t,u,n,hh,g,hq⟩:=h₂;refine wpAny_bind (wpAny_pure ?_);exact wpAny_bind (wpAny_holding (pa g (wpAny_pure hq)))
set_option backward.match.sparseCases true in
theorem o9{pos:Pos}{bm f:Addr}{args:List (Bool×Sem Value)}{kws:List (Option Str×Sem Value)}{Q:aJ Value}(hst:(args.any (·.1)||kws.any (·.1.isNone))=true)
  (h:WP B A (evalArgs (.ref bm) true args kws) (λr s₁=>s₁.heap.get? bm=some (mm f a)/\(∃o fd,s₁.heap.get? f=some o/\o.data=.func fd)/\codeAny (model B.prog B.w) A (.call (.ref f) ⟨.ref a :: r.pos,r.kw⟩) (RC Q) s₁) s):
  WP B A (callWith pos (.ref bm) [] args kws) Q s:=by
 unfold callWith;refine wpAny_bind (wpAny_holding (wpAny_mono h (λr s₁ h₁=>?_) λ_ _ f=>f));obtain⟨g,⟨o,fd,gf,hd⟩,hc⟩:=h₁;refine wpAny_bind (wpAny_standAt ?_);unfold keeperOf;refine wpAny_bind (wpAny_bind (wpAny_load g ?_));refine(?_:wpAny _ A (load f >>= λo=>pure (match o.data with|.func _=>Keeper.boundFrame|_=>Keeper.caller)) _ _ s₁);refine wpAny_bind (wpAny_load gf (wpAny_pure ?_));rw[hst];rw[hd];refine(?_:wpAny _ A (operate _ (call (.ref bm) ([]++r.pos) r.kw) >>= _) _ _ s₁);refine wpAny_bind (wpAny_operating (wpAny_call (W.method_call (f:=.ref f) (self:=.ref a) g ?_)));refine codeAny_mono hc λr' s' hr=>?_;cases r' with
 |error e=>exact hr.elim
 |ok fl=>
  cases fl with
  |ret v=>exact wpAny_bind (wpAny_holding (wpAny_point (wpAny_pure hr)))
  |_=>exact hr.elim
end
section
variable{B:aX}{C:Cx}{A:Around}{env:Env}{s:Shared}{T:aC}{a:Addr}{mN:Str->Option Value}
theorem DH{F':Addr->Prop}{s₁ s2:Shared}{C2:Cx}{p:PV}{v:Value}(hF:∀b,F' b->s.heap.get? b=none)(x1:a9 none s s₁)(g:bC (C.ro.enter F') s₁.heap C2)(c2:eR (C.ro.enter F') s₁ s2)(rp:an C2 s2.heap p v):
  a9 none s s2/\an C s2.heap (dD p) v:=by
 have hX:∀b,C2.X b↔(C.X b\/C.hl=some b)\/C.F b:=λb=>by rw[g.x];rfl
 refine⟨⟨c2.gens.trans x1.gens,c2.drawn.trans x1.drawn,c2.os.trans x1.os,λb o _ e=>c2.keep b o (λq=>by replace e:=hF b q▸e;exact nS e) (λq=>nomatch q) (x1.all b o e)⟩,?_⟩;exact rp.freeze (C:=C2) (C':=C) (λb o x _ e=>⟨λq=>x ((hX b).mpr (.inl (.inl q))),λq=>x ((hX b).mpr (.inr q)),λq=>x ((hX b).mpr (.inl (.inr q))),e⟩) λb e=>by have:C2.ta=none:=g.ta;replace e:=this▸e;exact nS e
theorem AW(H:HF B mN)(G:jQ B){C0:Cx}{bm dd:Addr}{x y:Str}{t:Tok}{u:Tok}{n:Nat}{Q:aJ Flow}(hA:bJ 2 A)(hx:aS x=true)(hsz:T.length<=1000)(EO:bl env (aQ (aK 7)).names)(ht:C0.ta=some a)
  (V0:cV B C0 s.heap) (T0:aU C0 T s.heap) (gb:s.heap.get? bm=some (mm 187 a)) (gd:s.heap.get? dd=some (tz (hashStr B.w "default") (.str "default" t) (.str y u) n)) (hsm:(dd==sysModules)=false)
  (Y:At B C env ji fY [some (.val (.str x)),some (.val (.ob (.ref bm))),some (.val (.ob (.ref dd))),none] [] [] s.heap) {p1 p2 p3 p4 p5 p6 p7 p8 p9 p10 p11 p12 p13 p14 p15:Pos} {k k2:Nat} {els:List Stmt}
  (h:pE B ji C env fY s (.tuple [.str ((lookT T x).getD y),.str ((lookT T x).getD y)]) [] Q):
  WP B A (execs [.If (.Compare (.Name "get_name" p1) [.IsNot] [.Constant .none k p2] p3)
   [.Assign [.Name "argval" p4] (.Call (.Name "get_name" p5) [.Name "name_index" p6] [⟨none,.Name "extrainfo" p7,p8⟩] p9) p10,
   .Return (some (.Tuple [.Name "argval" p11,.Name "argval" p12] k2 p13)) p14] els p15] env) Q s:=by
 have hn:bU ji fY:=bx (by decide +kernel);refine wpAny_execs_cons (wpAny_If (wpAny_isTrue_Compare1 (Y.name (i:=1) (c:=.loc) kl rfl rfl (by decide +kernel) λw hw=>wpAny_Constant_none ?_)));obtain rfl:w=.ref bm:=hw;refine wpAny_isNot_other rfl (λq=>nomatch q) (wpAny_truthy_bool ?_);rw[if_pos rfl];refine wpAny_execs_cons (wpAny_Assign_Name ?_);show WP B A (eval (.Name "get_name" p5) env >>= λfv=>callWith p9 fv [] [(false,eval (.Name "name_index" p6) env)] [(none,do let v <-eval (.Name "extrainfo" p7) env;standAt p9;pure v)]) _ s;refine wpAny_bind (Y.name (i:=1) (c:=.loc) kl rfl rfl (by decide +kernel) λw hw=>?_);obtain rfl:w=.ref bm:=hw;refine o9 (a:=a) (f:=187) rfl (rL (Y.name (i:=0) (c:=.loc) iW rfl rfl (by decide +kernel) λw hw=>?_));refine af hw ?_;clear hw;intro ux q1q;subst q1q;refine xL λd s₀ hd hd0 hk hs₀=>?_;have x0:a9 none s s₀:=by rw[hs₀];exact⟨rfl,rfl,rfl,λb o _ e=>hk b o e⟩
 have Y0:=Y.kept x0;refine wpAny_bind (Y0.name (i:=2) (c:=.loc) mf rfl rfl (by decide +kernel) λw hw=>?_);obtain rfl:w=.ref dd:=hw;refine wpAny_bind (wpAny_standAt (wpAny_pure ⟨dd,_,t,_,n,rfl,hd,x0.all _ _ gd,hsm,(λq=>by replace gd:=q▸gd;replace gd:=hd0▸gd;exact nS gd),λh' g' k'=>?_⟩));have x1:a9 none s { s₀ with heap:=h' }:=⟨x0.gens,x0.drawn,x0.os,λb o _ e=>(k'.2 b (λq=>by replace e:=q▸e;replace e:=hd0▸e;exact nS e)).trans (x0.all b o e)⟩;refine⟨_,t,_,1,_,g',x1.all _ _ gb,⟨_,_,V0.base _ _ G.f |> x1.all _ _,rfl⟩,?_⟩;have V1:cV B C0 h':=V0.keep (λb o _ e=>x1.all b o e) λb l=>by
  have:=V0.liveL b l;cases e:s.heap.get? b with
  |none=>exact absurd e this
  |some o=>rw[show h'.get? b=some o from x1.all b o e];exact λq=>nomatch q
 refine Co (C:=C0) (s:={ s₀ with heap:=h' }) H G hA V1 ht (T0.kept x1) hx hsz λv s2 x2 r2=>?_;have Y2:=Y.kept (x1.trans x2);have r2':an C s2.heap (.str ((lookT T x).getD y)) v:=r2;refine fM (nm:=ji) (N:=4) (i:=3) hn (by decide +kernel) rfl rfl Y2 rfl r2' λs3 c3 l3 Y3=>?_;refine wpAny_execs_cons (wpAny_Return_some (wpAny_Tuple (k:=k2) ?_));refine(?_:WP B A (spliced [(false,_),(false,_)]) _ s3);refine df (Y3.name (i:=3) (c:=.loc) w7 rfl rfl (by decide +kernel) λw1 hw1=>df (Y3.name (i:=3) (c:=.loc) w7 rfl rfl (by decide +kernel) λw2 hw2=>fJ ⟨eE (dh _),?_⟩));have Y4:=Y3.kept (s':={ s3 with heap:=s3.heap.push (eg [w1,w2] 0) }) .lay';have c4:eR C s { s3 with heap:=s3.heap.push (eg [w1,w2] 0) }:=((x1.trans x2).up.chgAt Y2).trans (c3.trans ((a9.lay' (s:=s3)).up.chgAt Y4));exact h C _ _ [] _ (.refl _ _) c4 Y4 (an.newTuple Y3.live ⟨_,_,rfl,hw1,_,_,rfl,hw2,rfl⟩)
end
section
variable{B:aX}{C:Cx}{A:Around}{env:Env}{s:Shared}{T:aC}{a:Addr}{mN:Str->Option Value}
theorem yp{M:Model}{A:Around}{E:aJ Value}{v1 v2 v3:Value}{Q:List (Str×Value)->Shared->Prop}
  (h:wpAny M A (alloc jw) (λd s₁=>wpAny M A (nsSet d "default" v3) (λ_ s₂=>Q [(ji 0,v1),(ji 1,v2),(ji 2,.ref d)] s₂) E s₁) E s):
  wpAny M A (bindArgs (am (aK 7) (sx "_get_name_info") pW 289 75 .none) ⟨[v1,v2],[("default",v3)]⟩) Q E s:=by
 have e:bindArgs (am (aK 7) (sx "_get_name_info") pW 289 75 .none) ⟨[v1,v2],[("default",v3)]⟩=
   (alloc jw >>= λd=>(forIn [((sx "default",v3):Str×Value)] PUnit.unit (λx _=>nsSet d x.1 x.2 >>= λ_=>pure (ForInStep.yield PUnit.unit)):Sem PUnit) >>= λ_=>pure [(ji 0,v1),(ji 1,v2),(ji 2,.ref d)]):=rfl
 rw[e];refine wpAny_bind (wpAny_mono h (λd s₁ h₁=>wpAny_bind ?_) λ_ _ x=>x);rw[List.forIn_cons ..];refine wpAny_bind (wpAny_bind (wpAny_mono h₁ (λ_ s₂ q=>wpAny_pure ?_) λ_ _ x=>x));exact wpAny_pure (wpAny_pure q)
theorem CF(H:HF B mN)(G:jQ B)(GN:AS B){bm:Addr}{x y:Str}{u u2:Tok}{Q:aJ Value}(F:bJ 3 A)(V:cV B C s.heap)(ht:C.ta=some a)(Y:aU C T s.heap)(hx:aS x=true)(hsz:T.length<=1000)(gb:s.heap.get? bm=some (mm 187 a))
  (h:lW C s (.tuple [.str ((lookT T x).getD y),.str ((lookT T x).getD y)]) Q):WP B A (call (.ref 76) [.str x u,.ref bm] [("default",.str y u2)]) Q s:=by
 have I:dX B 76 ji 4 [0,1,2] fY _ _:=jr [0,1,2,3] GN.f GN.c rfl rfl rfl (by decide +kernel) (by decide +kernel) (by decide +kernel);have nd0:s.heap.get? s.heap.objs.size=none:=aV _;have hsm:(s.heap.objs.size==sysModules)=false:=by
  cases e:s.heap.objs.size==sysModules with
  |false=>rfl
  |true=>
   exfalso;have e':s.heap.objs.size=sysModules:=by simpa using e
   replace nd0:=e'▸nd0;refine GN.m ?_;cases e2:B.hb.get? sysModules with
   |none=>rfl
   |some o=>replace nd0:=V.base _ _ e2▸nd0;exact sN nd0
 refine wpAny_call (qB (K:=2) (C:=C.ro) (T:=[]) (args:=⟨[.str x u,.ref bm],[("default",.str y u2)]⟩) (vs:=[.str x u,.ref bm,.ref s.heap.objs.size]) (ps:=[.str x,.ob (.ref bm),.ob (.ref s.heap.objs.size)]) (σ:=[some (.val (.str x)),some (.val (.ob (.ref bm))),some (.val (.ob (.ref s.heap.objs.size))),none]) I (body:=cP (aK 7)) rfl rfl F V.ro (yp (wpAny_alloc (vz (s:={ s with heap:=s.heap.push jw }) (cZ _ rfl) λh1 g1 k1=>?_))));have x1:a9 none s { s with heap:=h1,toks:=s.toks+1 }:=⟨rfl,rfl,rfl,λb o _ e=>(k1.2 b (λq=>by replace e:=q▸e;replace e:=nd0▸e;exact nS e)).trans (bK _ e)⟩;have V1:cV B C.ro h1:=V.ro.keep (λb o _ e=>x1.all b o e) λb l=>nomatch l;refine⟨rfl,V1,aU.ro,⟨_,_,rfl,⟨u,rfl⟩,_,_,rfl,rfl,_,_,rfl,rfl,rfl⟩,λF' A' env s₂ hF hA EO hl Y2 x2=>?_⟩;have x12:=x1.trans x2;have liveC:∀b,C.hl=some b->s₂.heap.get? b≠none:=λb l=>by
  have:=V.liveL b l;cases e:s.heap.get? b with
  |none=>exact absurd e this
  |some o=>rw[x12.all b o e];exact λq=>nomatch q
 refine AW (C0:=C) (T:=T) H G hA hx hsz EO ht (V.keep (λb o _ e=>x12.all b o e) liveC) (Y.kept x12) (x12.all _ _ gb) (x2.all _ _ g1) hsm Y2 λC2 v s3 mt3 σ3 g3 c3 Y3 r3=>?_;refine(?_:Q v s3);have hF0:∀b,F' b->s.heap.get? b=none:=λb f=>by
  cases e:s.heap.get? b with
  |none=>rfl
  |some o=>have:=hF b f;replace this:=(show({ s with heap:=h1,toks:=s.toks+1 }:Shared).heap.get? b=some o from x1.all b o e)▸this;exact sN this
 refine cL (DH (s:=s) (C:=C) hF0 x12 g3 c3 r3) λx3 r=>?_;exact h v s3 x3 r
end
section
variable{B:aX}{mN:Str->Option Value}
theorem E2{p q r:PV}{T1:aC}(e:CJ p (some (.val .tab)) q T1=some r):∃xs ys,p=.str xs/\q=.str ys/\r=.tuple [.str ((lookT T1 xs).getD ys),.str ((lookT T1 xs).getD ys)]/\aS xs=true/\aS ys=true/\Nat.ble T1.length 1000=true:=by
 cases p<;>try exact nS e
 rename_i xs
 cases q<;>try exact nS e
 rename_i ys
 refine bA e λc e=>?_;exact⟨xs,ys,rfl,rfl,(iS e).symm,a3 c⟩
theorem BU(H:HF B mN)(G:jQ B)(GN:AS B){K:Nat}(hK:3<=K){C:Cx}{A:Around}{s:Shared}{a:Addr}{env:Env}{T1:aC}{p q r:PV}{np ip ap bp pos:Pos}{x:Str}{ae be:Expr}{Q:aJ Value}
  (hst:∀es,starEach (ae :: es) env=(false,eval ae env) :: starEach es env) (ht:C.ta=some a) (F:bJ K A) (V:cV B C s.heap)
  (hg:∀{Q':aJ Value} {s':Shared},cV B C s'.heap->(∀v,(B.mg ("_get_name_info":Str)).or (B.mb ("_get_name_info":Str))=some v->Q' v s')->WP B A (loadName env "_get_name_info") Q' s')
  (e:CJ p (some (.val .tab)) q T1=some r)
  (h:WP B A (eval ae env) (λv s1=>WP B A (eval (.Name x ip) env) (λtv s2=>tv=.ref a/\cV B C s2.heap/\(∃T0,aU C T0 s2.heap) /\
    ∀s3,a9 none s2 s3->WP B A (eval be env) (λw s4=>cV B C s4.heap/\aU C T1 s4.heap/\an C s4.heap p v/\an C s4.heap q w /\
     (∀b o,C.hl≠some b->s3.heap.get? b=some o->s4.heap.get? b=some o)/\lW C s4 r Q) s3) s1) s):
  WP B A (eval (.Call (.Name "_get_name_info" np) [ae,.Attribute (.Name x ip) "get" ap] [⟨some "default",be,bp⟩] pos) env) Q s:=by
 refine vh (E2 e) λxs ys q1q q2q q3q c=>?_;subst q1q;subst q2q;subst q3q;clear e;have e1:backTo pos (starEach [ae,.Attribute (.Name x ip) "get" ap] env)=[(false,eval ae env),(false,eval (.Attribute (.Name x ip) "get" ap) env)]:=by rw[hst ..];rfl
 show WP B A (eval (.Name "_get_name_info" np) env >>= λfv=>callWith pos fv [] (backTo pos (starEach [ae,.Attribute (.Name x ip) "get" ap] env)) [(some "default",do let v <-eval be env;standAt pos;pure v)]) Q s;rw[e1];refine wpAny_bind (wpAny_Name (hg V λfv hfv=>?_) (by decide));have hfv':fv=.ref 76:=by have:=GN.g;unfold aX.at at this;replace this:=hfv▸this;replace this:=iS this;subst this;rfl
 subst hfv';refine callWith_function_kw (o:=cr (aK 7) (sx "_get_name_info") pW 289 75) (fd:=am (aK 7) (sx "_get_name_info") pW 289 75 .none) ?_;refine evalArgs_kw rfl (df (wpAny_mono h (λv s1 h1=>df ?_) λ_ _ f=>f));rw[arm_eval_Attribute ..];refine(?_:WP B A (eval (.Name x ip) env >>= _) _ s1);refine wpAny_bind (wpAny_mono h1 (λtv s2 h2=>?_) λ_ _ f=>f);obtain⟨rfl,V2,⟨T0,Y2⟩,h3⟩:=h2;refine wpAny_bind (wpAny_standAt (wpAny_bind (wpAny_holding ?_)));refine qU (Y2 a ht) λl d o vs n t=>?_;refine eV H.cls λt1 t2 hc=>?_;have hb:=V2.base;have nb:s2.heap.get? s2.heap.objs.size=none:=aV _;have hlb:C.hl≠some s2.heap.objs.size:=λq=>V2.liveL _ q nb;have x3:a9 none s2 { s2 with heap:=s2.heap.push (mm 187 a),toks:=s2.toks+1 }:=.lay;have h3':=h3 _ x3;have gbm:({ s2 with heap:=s2.heap.push (mm 187 a),toks:=s2.toks+1 }:Shared).heap.get? s2.heap.objs.size=some (mm 187 a):=cZ _ rfl;refine xQ (hb _ _ hc) (H.ns.keeps hb) H.ga H.mGet (hb _ _ G.f) rfl H.gx Cf t.here t.cls t.dat t.dict t.ns (by decide +kernel) (by unfold je;rw[if_neg (by decide +kernel)];rfl) ?_;refine wpAny_bind (wpAny_letTemporaryGo (wpAny_pure (fJ ?_)));refine wpAny_evalAll_cons (wpAny_bind (wpAny_mono h3' (λw s4 h4=>?_) λ_ _ f=>f));obtain⟨V4,Y4,rp,rq,kp,hG⟩:=h4;refine wpAny_bind (wpAny_standAt (wpAny_pure (wpAny_evalAll_nil ⟨⟨V4.base _ _ GN.f,rfl⟩,?_⟩)));refine af rp ?_;clear rp;intro u q1q;subst q1q;refine af rq ?_;clear rq;intro u2 q1q;subst q1q;exact CF H G GN (F.mono hK) V4 ht Y4 c.1 (fn c.2.2) (kp _ _ hlb gbm) hG
end
section
variable{B:aX}{mN:Str->Option Value}
theorem cV.kept{C:Cx}{s s':Shared}(V:cV B C s.heap)(x:a9 none s s'):cV B C s'.heap:=V.keep (λa o _ e=>x.all a o e) λa l=>by
 have:=V.liveL a l;cases e:s.heap.get? a with
 |none=>exact absurd e this
 |some o=>rw[x.all a o e];exact λq=>nomatch q
theorem zL(H:HF B mN)(G:jQ B)(M:FW B){K:Nat}(hK:3<=K){C:Cx}{A:Around}{s:Shared}{a:Addr}{m:MF}{ps:List PV}{T T1:aC}{r:PV×aC}{args:List (Bool×Sem Value)}{pos:Pos}{pl:Sem Bool}{Q:aJ Value}
  (ht:C.ta=some a) (F:bJ K A) (V:cV B C s.heap) (Y:aU C T s.heap) (hs:∀x∈args,x.1=false) (e:mH m .tab ps T1=some r)
  (h:WP B A (spliced args) (λvs s'=>cV B C s'.heap/\aU C T1 s'.heap/\aH C s'.heap ps vs/\mW B C s' r.1 r.2 Q) s):
  WP B A (getMethod (.ref a) m.nm pl) (λf s₂=>WP B A (callWith pos f.1 f.2 args []) Q s₂) s:=by
 refine qU (Y a ht) λl d o vs0 n t=>?_;have got:∀{s':Shared} {p:PV} {T':aC},cV B C s'.heap->aU C T' s'.heap->mW B C s' p T' Q->lW C s' p Q:=λV' Y' hP v s2 x r2=>hP v s2 x.up (V'.kept x) r2 (Y'.kept x);revert h;cases m with
 |keys=>refine uI e λe h=>?_;refine bA e λc e=>?_;obtain rfl:=iS e;refine kc H V.base t.ob H.mKeys M.fK rfl Dr (by decide +kernel) ?_;refine d0 (o:=cr (aG 9) (sx "Headers.keys") bv 599 191) (fd:=am (aG 9) (sx "Headers.keys") bv 599 191 .none) hs (wpAny_mono h (λvs s' hq=>?_) λ_ _ f=>f);refine kH hq ?_;clear hq;intro V' Y' q1q hP;subst q1q;exact⟨⟨V'.base _ _ M.fK,rfl⟩,Dp H M (F.mono (by lia)) V' ht Y' (fn c) (got V' Y' hP)⟩
 |items=>refine uI e λe h=>?_;refine bA e λc e=>?_;obtain rfl:=iS e;refine kc H V.base t.ob H.mItems M.fI rfl vZ (by decide +kernel) ?_;refine d0 (o:=cr (aG 11) (sx "Headers.items") bv 599 203) (fd:=am (aG 11) (sx "Headers.items") bv 599 203 .none) hs (wpAny_mono h (λvs s' hq=>?_) λ_ _ f=>f);refine kH hq ?_;clear hq;intro V' Y' q1q hP;subst q1q;exact⟨⟨V'.base _ _ M.fI,rfl⟩,uz H M (F.mono (by lia)) V' ht Y' (fn c) λl' s2 vs n x _ _ _ r2=>got V' Y' hP _ s2 x r2⟩
 |setdefault=>refine wh e λp q e=>i4 e λk e=>i4 e λv e h=>?_;refine bA e λc e=>?_;obtain rfl:=iS e;refine kc H V.base t.ob H.mSet M.fS rfl rA (by decide +kernel) ?_;refine d0 (o:=cr (aG 15) (sx "Headers.setdefault") bv 599 229) (fd:=am (aG 15) (sx "Headers.setdefault") bv 599 229 .none) hs (wpAny_mono h (λvs s' hq=>?_) λ_ _ f=>f);refine Af hq.2.2.1 λv1 v2 r1 r2=>?_;refine af r1 ?_;clear r1;intro t1 q1q;subst q1q;refine af r2 ?_;clear r2;intro t2 q1q;subst q1q;exact⟨⟨hq.1.base _ _ M.fS,rfl⟩,rE H G M (F.mono hK) hq.1 ht hq.2.1 (a3 c).1 (a3 c).2.1 (fn (a3 c).2.2) hq.2.2.2⟩
 |_=>exact nS e
theorem qw(H:HF B mN)(M:FW B){K:Nat}(hK:3<=K){C:Cx}{A:Around}{s:Shared}{a:Addr}{T:aC}{pos:Pos}{pl:Sem Bool}{Q:aJ Value}(ht:C.ta=some a)(F:bJ K A)(V:cV B C s.heap)(Y:aU C T s.heap)(hsz:T.length<=1000)
  (h:∀l s' vs n,a9 none s s'->s.heap.get? l=none->s'.heap.get? l=some (aT vs n)->vs.length=T.length->Q (.ref l) s'):
  WP B A (getMethod (.ref a) "items" pl) (λf s₂=>WP B A (callWith pos f.1 f.2 [] []) Q s₂) s:=by
 refine qU (Y a ht) λl d o vs0 n t=>?_;refine kc H V.base t.ob H.mItems M.fI rfl vZ (by decide +kernel) ?_;refine d0 (o:=cr (aG 11) (sx "Headers.items") bv 599 203) (fd:=am (aG 11) (sx "Headers.items") bv 599 203 .none) (λx hx=>nomatch hx) (fJ ⟨⟨V.base _ _ M.fI,rfl⟩,?_⟩);exact uz H M (F.mono (by lia)) V ht Y hsz λl' s2 vs n x h0 g hl _=>h l' s2 vs n x h0 g hl
structure gL(B:aX)(mN:Str->Option Value):Prop where
 D:fy B
 H:HF B mN
 G:jQ B
 M:FW B
 N:AS B
theorem Ew(X:gL B mN){K:Nat}(hK:3<=K){Φ:fA}(uf:∀f:UF,∃a o fd,(B.mg f.nm).or (B.mb f.nm)=some (.ref a)/\B.hb.get? a=some o/\o.data=.func fd/\bn B K a (Φ f)):bV B Φ K where
 bf:=X.D.bf
 gint:=X.D.gint
 uf:=uf
 tok:=C8 X.D
 flag:=zH X.D
 tabM:=λht F V Y hs e h=>zL X.H X.G X.M hK ht F V Y hs e h
 tabDel:=λht F V Y hx hsz h=>Gj X.H X.M (F.mono (by lia)) V ht Y hx hsz h
 tabItems:=λht F V Y hsz h=>qw X.H X.M hK ht F V Y hsz h
 zipT:=λhh L e r r2 c c2 hle h=>zy hh L e r r2 c c2 hle h
 gniV:=⟨_,X.N.g⟩
 gni:=λhst ht F V hg e h=>BU X.H X.G X.N hK hst ht F V hg e h
end
noncomputable def UF.addr:UF->Addr
 |.pretty=>46|.drawn=>249|.read=>254|.numbers=>261|.words=>266|.masks=>271|.resolved=>276|.isterm=>93|.isnon=>100|.iseof=>107
noncomputable def UF.st:UF->Stmt
 |.pretty=>aK 4|.drawn=>aK 69|.read=>aK 70|.numbers=>aK 71|.words=>aK 72|.masks=>aK 73|.resolved=>aK 74|.isterm=>aK 61|.isnon=>aK 62|.iseof=>aK 63
noncomputable def UF.md:UF->Str
 |.pretty=>pW|.isterm=>Gi|.isnon=>Gi|.iseof=>Gi|_=>uB
noncomputable def UF.tk:UF->Nat
 |.pretty=>289|.isterm=>379|.isnon=>379|.iseof=>379|_=>818
structure nJ(B:aX):Prop where
 g:∀f:UF,B.at f.nm=some (.ref f.addr)
 o:∀f:UF,B.hb.get? f.addr=some (cr f.st f.nm f.md f.tk (f.addr-1))
 c:∀f:UF,B.hb.CodeRec (.ref (f.addr-1)) f.nm
theorem bn.mono{B:aX}{K K':Nat}{a:Addr}{φ:List PV->aC->Option (PV×aC)}(h:bn B K a φ)(hK:K<=K'):bn B K' a φ:=
 λe F V Y rs c hq=>h e (F.mono hK) V Y rs c hq
theorem bn.none{B:aX}{K:Nat}{a:Addr}:bn B K a λ_ _=>Option.none:=λe=>nS e
section
variable{B:aX}{mN:Str->Option Value}
theorem tG(X:gL B mN)(U:nJ B){K:Nat}(hK:3<=K){Φ:fA}(h:∀f:UF,bn B K f.addr (Φ f)):bV B Φ K:=
 Ew X hK λf=>⟨f.addr,_,_,U.g f,U.o f,rfl,h f⟩
theorem tC(U:nJ B)(f:UF){nm:Nat->Str}{N:Nat}{params:List Nat}{X:S}(body:cP f.st=X.toSs nm)(kind:(aQ f.st).kind=.function)(cor:(aQ f.st).isCoroutine=false)(gen:(aQ f.st).isGenerator=false)
  (bind:∀vals:List Value,vals.length=params.length->bindArgs (am f.st f.nm f.md f.tk (f.addr-1) .none) ⟨vals,[]⟩=pure ((params.map nm).zip vals)) (ok:oM nm N params X (aQ f.st).names=true)
  {Φ:fA} {K:Nat} (P:bV B Φ K) (hK:1<=K):bn B (K+1) f.addr (fQ Φ X N params):=by
 refine af (EU (fd:=am f.st f.nm f.md f.tk (f.addr-1) .none) (U.o f) rfl (by show FuncBody.stmts _=_;rw[body];rfl) rfl kind cor gen rfl rfl (U.c f) bind ok) λsc I=>?_;exact zp P hK I
theorem xh{q m t c}(vals:List Value)(h:vals.length=eY.length):bindArgs (am (aK 69) q m t c .none) ⟨vals,[]⟩=pure ((eY.map nR).zip vals):=tm h λa=>rfl
theorem yu{q m t c}(vals:List Value)(h:vals.length=ir.length):bindArgs (am (aK 70) q m t c .none) ⟨vals,[]⟩=pure ((ir.map pA).zip vals):=tm h λa=>rfl
theorem wv{q m t c}(vals:List Value)(h:vals.length=iT.length):bindArgs (am (aK 72) q m t c .none) ⟨vals,[]⟩=pure ((iT.map nQ).zip vals):=tm h λa=>rfl
theorem wN{q m t c}(vals:List Value)(h:vals.length=iQ.length):bindArgs (am (aK 73) q m t c .none) ⟨vals,[]⟩=pure ((iQ.map nP).zip vals):=tm h λa=>rfl
theorem zJ{q m t c}(vals:List Value)(h:vals.length=mD.length):bindArgs (am (aK 61) q m t c .none) ⟨vals,[]⟩=pure ((mD.map qN).zip vals):=tm h λa=>rfl
theorem Cy{q m t c}(vals:List Value)(h:vals.length=oV.length):bindArgs (am (aK 62) q m t c .none) ⟨vals,[]⟩=pure ((oV.map tc).zip vals):=tm h λa=>rfl
theorem A4{q m t c}(vals:List Value)(h:vals.length=oY.length):bindArgs (am (aK 63) q m t c .none) ⟨vals,[]⟩=pure ((oY.map uL).zip vals):=tm h λa=>rfl
noncomputable def Φ0:fA:=λ_ _ _=>none
noncomputable def Φ1:fA
 |.pretty=>fQ Φ0 iY io dz
 |.drawn=>fQ Φ0 bQ qc eY
 |.words=>fQ Φ0 oa pY iT
 |.masks=>fQ Φ0 dm qk iQ
 |.isterm=>fQ Φ0 wK yL mD
 |.isnon=>fQ Φ0 CI BJ oV
 |.iseof=>fQ Φ0 Cu Ak oY
 |.numbers=>λ_ _=>none
 |.read=>λ_ _=>none
 |.resolved=>λ_ _=>none
noncomputable def Φ2:fA
 |.read=>fQ Φ1 cM yP ir
 |.resolved=>fQ Φ1 b9 oC ft
 |f=>Φ1 f
theorem Fq(X:gL B mN)(U:nJ B):∀f:UF,bn B 4 f.addr (Φ1 f):=by
 have P0:bV B Φ0 3:=tG X U (d4 _) λ_=>bn.none;intro f;cases f with
 |pretty=>exact tC U .pretty vx rfl rfl rfl vA yk P0 (by decide)
 |drawn=>exact tC U .drawn xV rfl rfl rfl xh CM P0 (by decide)
 |words=>exact tC U .words wt rfl rfl rfl wv CW P0 (by decide)
 |masks=>exact tC U .masks wq rfl rfl rfl wN BG P0 (by decide)
 |isterm=>exact tC U .isterm zE rfl rfl rfl zJ Ee P0 (by decide)
 |isnon=>exact tC U .isnon Be rfl rfl rfl Cy Ge P0 (by decide)
 |iseof=>exact tC U .iseof AT rfl rfl rfl A4 Fi P0 (by decide)
 |numbers=>exact bn.none
 |read=>exact bn.none
 |resolved=>exact bn.none
theorem Gw(X:gL B mN)(U:nJ B):∀f:UF,bn B 5 f.addr (Φ2 f):=by
 have h1:=Fq X U;have P1:bV B Φ1 4:=tG X U (by decide) h1;intro f;cases f with
 |read=>exact tC U .read zf rfl rfl rfl yu Db P1 (by decide)
 |resolved=>exact tC U .resolved rM rfl rfl rfl q8 vX P1 (by decide)
 |pretty=>exact bn.mono (λ{C A s ps vs T r Q}=>h1 .pretty) (by decide)
 |drawn=>exact bn.mono (λ{C A s ps vs T r Q}=>h1 .drawn) (by decide)
 |words=>exact bn.mono (λ{C A s ps vs T r Q}=>h1 .words) (by decide)
 |masks=>exact bn.mono (λ{C A s ps vs T r Q}=>h1 .masks) (by decide)
 |isterm=>exact bn.mono (λ{C A s ps vs T r Q}=>h1 .isterm) (by decide)
 |isnon=>exact bn.mono (λ{C A s ps vs T r Q}=>h1 .isnon) (by decide)
 |iseof=>exact bn.mono (λ{C A s ps vs T r Q}=>h1 .iseof) (by decide)
 |numbers=>exact bn.mono (λ{C A s ps vs T r Q}=>h1 .numbers) (by decide)
theorem F8(X:gL B mN)(U:nJ B):bV B Φ2 5:=tG X U (by decide) (Gw X U)
end
noncomputable def good(m:Nat):Bool:=m &&& (m >>> 1) &&& 85==0
noncomputable def goods:List Nat:=(List.range 256).filter good
noncomputable def FR:List (List Nat):=[[79,80,84,73,77,73,90,69,68],[78,69,87,76,79,67,65,76,83],[86,65,82,65,82,71,83],[86,65,82,75,69,89,87,79,82,68,83],[78,69,83,84,69,68],[71,69,78,69,82,65,84,79,82],[78,79,70,82,69,69],[67,79,82,79,85,84,73,78,69]]
noncomputable def yQ:List (List Nat)->Nat->List Nat->List Nat
 |[],_,acc=>acc
 |f :: fs,m,acc=>bif Nat.beq (m%2) 1 then yQ fs (m/2) (match acc with|[]=>f|_=>acc++44 :: 32 :: f)else yQ fs (m/2) acc
noncomputable def aR(m:Nat):Str:=⟨(bif Nat.beq m 0 then[48,120,48]else yQ FR m []).toArray⟩
theorem vc:(goods.map λ(m:Nat)=>λT:aC=>fQ Φ0 iY io dz [.int (m:Nat)] T)=goods.map λ(m:Nat)=>λT=>some (.str (aR m),T):=by kernel_rfl
theorem nr{m:Nat}(h:m∈goods)(T:aC):fQ Φ0 iY io dz [.int (m:Nat)] T=some (.str (aR m),T):=
 congrFun ((iu.mp vc) m h) T
theorem rk{m:Nat}(h:m<256)(g:good m=true):m∈goods:=cf.mpr ⟨bS.mpr h,g⟩
theorem HA{m:Nat}(h:m∈goods):m<256/\good m=true:=let ⟨a,b⟩:=cf.mp h;⟨bS.mp a,b⟩
theorem eZ{α:Type}{ifs:aF->aC->Option (Bool×aC)}{elt:aF->aC->Option (PV×aC)}{tg:Tg}(enc:α->PV)(P:aF->Prop)(c:α->Bool)(f:α->PV){T:aC}:∀{L:List α},
  (∀x∈L,∀σ,P σ->∃σ',cN σ tg (enc x)=some σ'/\P σ'/\ifs σ' T=some (c x,T)/\(c x=true->elt σ' T=some (f x,T)/\clean (f x)=true)) ->
  ∀σ,P σ->bq ifs elt tg (L.map enc) σ T=some ((L.filter c).map f,T)
 |[],_,_,_=>rfl
 |x :: L,h,σ,p=>by
  refine iU (h x bW σ p) λσ' e1 p' e2 e3=>?_;have ih:=eZ (L:=L) enc P c f (λy hy=>h y (bZ _ hy)) σ' p';rw[bh];rw[vv];rw[e1];refine(?_:(ifs σ' T).bind _=_);rw[e2];cases hc:c x with
  |false=>rw[List.filter_cons_of_neg (by simp[hc])];exact ih
  |true=>refine cL (e3 hc) λe4 e5=>?_;rw[List.filter_cons_of_pos hc];refine(?_:(elt σ' T).bind _=_);rw[e4];refine(?_:aw (clean (f x)) ((bq ifs elt tg (L.map enc) σ' T).map _)=_);rw[e5];rw[ih];rfl
noncomputable def oL{α:Type}(f:α->aC->PV)(g:α->aC->aC):List α->aC->List PV×aC
 |[],T=>([],T)
 |x :: r,T=>(f x T :: (oL f g r (g x T)).1,(oL f g r (g x T)).2)
theorem Fs{α:Type}{f:α->aC->PV}{g:α->aC->aC}{x r T}:oL f g (x :: r) T=((f x T :: (oL f g r (g x T)).1,(oL f g r (g x T)).2)):=rfl
theorem pP{α:Type}{ifs:aF->aC->Option (Bool×aC)}{elt:aF->aC->Option (PV×aC)}{tg:Tg}(enc:α->PV)(P:aF->Prop)(J:aC->Prop)(f:α->aC->PV)(g:α->aC->aC):∀{L:List α},
  (∀x∈L,∀σ T,P σ->J T->∃σ',cN σ tg (enc x)=some σ'/\P σ'/\ifs σ' T=some (true,T)/\elt σ' T=some (f x T,g x T)/\clean (f x T)=true/\J (g x T)) ->
  ∀σ T,P σ->J T->bq ifs elt tg (L.map enc) σ T=some (oL f g L T)/\J (oL f g L T).2
 |[],_,_,_,_,j=>⟨rfl,j⟩
 |x :: L,h,σ,T,p,j=>by obtain⟨σ',e1,p',e2,e3,e4,j'⟩:=h x bW σ T p j;refine cL (pP (L:=L) enc P J f g (λy hy=>h y (bZ _ hy)) σ' (g x T) p' j') λih jh=>?_;refine⟨?_,jh⟩;rw[bh];rw[vv];rw[e1];refine(?_:(ifs σ' T).bind _=_);rw[e2];refine(?_:(elt σ' T).bind _=_);rw[e3];refine(?_:aw (clean (f x T)) ((bq ifs elt tg (L.map enc) σ' (g x T)).map _)=_);rw[e4];rw[ih];rfl
theorem iO{α β:Type}{tg:Tg}{body els:Ex}(enc:α->PV)(P:β->aF->Prop)(eT:β->aC)(step:β->α->β)(hels:∀σ T,els σ T=some ⟨.next,σ,T⟩):∀{L:List α},
  (∀x∈L,∀b σ,P b σ->∃σ' o,cN σ tg (enc x)=some σ'/\body σ' (eT b)=some ⟨.next,o,eT (step b x)⟩/\P (step b x) o) ->
  ∀b σ,P b σ->∃σ',P (L.foldl step b) σ'/\cU tg body els (L.map enc) σ (eT b)=some ⟨.next,σ',eT (L.foldl step b)⟩
 |[],_,b,σ,p=>⟨σ,p,hels σ _⟩
 |x :: L,h,b,σ,p=>by refine lr (h x bW b σ p) λσ' o e1 e2 p'=>?_;refine aP (iO (L:=L) enc P eT step hels (λy hy=>h y (bZ _ hy)) (step b x) o p') λσ2 p2 e3=>?_;refine⟨σ2,p2,?_⟩;rw[bh];rw[gw];rw[e1];refine(?_:(body σ' (eT b)).bind _=_);rw[e2];exact e3
noncomputable def E.elt:E->E
 |.comp e ..=>e
 |e=>e
noncomputable def E.ifs:E->E
 |.comp _ _ _ i ..=>i
 |e=>e
noncomputable def E.src:E->E
 |.comp _ _ s ..=>s
 |e=>e
noncomputable def E.tg:E->Tg
 |.comp _ t ..=>t
 |_=>.one 0 ⟨0,0,0,0⟩
noncomputable def E.caps:E->List Nat
 |.comp _ _ _ _ c ..=>c
 |_=>[]
noncomputable def E.isComp:E->Bool
 |.comp ..=>true
 |_=>false
theorem kM{Φ:fA}{e:E}{σ:aF}{T T' T'':aC}{xs ys:List PV}{b:Bool}(he:e.isComp=true)(h1:(e.src.sm Φ).evSrc σ T=some ((xs,b),T'))(h2:xs.length<=cap)(h3:bq (e.ifs.sm Φ).evIfs (e.elt.sm Φ).ev e.tg xs (jT e.caps σ) T'=some (ys,T'')):(e.sm Φ).ev σ T=some (.list ys,T''):=by
 cases e<;>try exact fT he
 rename_i elt tg src ifs caps sc p
 refine(?_:((src.sm Φ).evSrc σ T).bind _=_);rw[show(src.sm Φ).evSrc σ T=_ from h1];refine(?_:fit xs.length (Option.map _ (bq (ifs.sm Φ).evIfs (elt.sm Φ).ev tg xs (jT caps σ) T'))=_);rw[bN h2];rw[show bq (ifs.sm Φ).evIfs (elt.sm Φ).ev tg xs (jT caps σ) T'=_ from h3];rfl
noncomputable def E.arg1:E->E
 |.callb _ _ es _=>es.arg1
 |.callu _ _ es _=>es.arg1
 |.meth _ _ _ es _=>es.arg1
 |.cons a _=>a
 |e=>e
noncomputable def E.args:E->E
 |.callb _ _ es _=>es
 |.callu _ _ es _=>es
 |.meth _ _ _ es _=>es
 |e=>e
noncomputable def S.nth:S->Nat->S
 |.seq a _,0=>a
 |.seq _ b,n+1=>b.nth n
 |s,_=>s
noncomputable def S.tail:S->Nat->S
 |s,0=>s
 |.seq _ b,n+1=>b.tail n
 |s,_=>s
noncomputable def S.e:S->E
 |.assign _ _ e _=>e
 |.own _ _ e _ _=>e
 |.unpack _ _ _ e _=>e
 |.unpackD _ _ _ e _ _ _ _=>e
 |.append _ _ _ e _ _=>e
 |.extend _ _ _ e _ _=>e
 |.appendPop _ _ _ _ _ _ e _ _ _=>e
 |.expr e _=>e
 |.delT _ _ e _ _=>e
 |.tempApp _ _ _ _ _ e _ _=>e
 |.ite c _ _ _=>c
 |.for_ _ s _ _ _=>s
 |.ret e _=>e
 |_=>.nil
noncomputable def S.tg:S->Tg
 |.for_ t _ _ _ _=>t
 |_=>.one 0 ⟨0,0,0,0⟩
noncomputable def S.body:S->S
 |.for_ _ _ b _ _=>b
 |.ite _ a _ _=>a
 |s=>s
theorem aE{Φ:fA}{a b:S}{σ σ':aF}{T T':aC}{r:Option AE}(h:a.ex Φ σ T=some ⟨.next,σ',T'⟩)(k:b.ex Φ σ' T'=r):(S.seq a b).ex Φ σ T=r:=by refine(?_:(a.ex Φ σ T).bind _=r);rw[h];exact k
theorem i5{Φ:fA}{a b:S}{σ σ':aF}{T T':aC}{p:PV}(h:a.ex Φ σ T=some ⟨.ret p,σ',T'⟩):(S.seq a b).ex Φ σ T=some ⟨.ret p,σ',T'⟩:=by refine(?_:(a.ex Φ σ T).bind _=_);rw[h];rfl
noncomputable def lP:List PV:=FR.map λl=>.str ⟨l.toArray⟩
noncomputable def Ca:E:=((dm.nth 1).e).elt
theorem uh:(goods.map λ(m:Nat)=>λT:aC=>(Ca.sm Φ0).ev [none,some (.val (.list lP)),some (.val (.str (aR m))),none] T)=goods.map λ(m:Nat)=>λT=>some (.int (m:Nat),T):=by kernel_rfl
theorem aM{α:Type}{f:α->PV}(h:∀x,clean (f x)=true):∀L:List α,aA (L.map f)=true
 |[]=>rfl
 |x :: L=>by simp[bb,bR,h x,aM h L]
theorem jz{α:Type}{f:α->PV}(h:∀x,dD (f x)=f x):∀L:List α,bd (L.map f)=L.map f
 |[]=>rfl
 |x :: L=>by simp[sH,kY,h x,jz h L]
theorem eJ{a b:Nat}(h:a<=b):Nat.ble a b=true:=sB h
theorem vu{L:List Nat}(hg:∀m∈L,m∈goods){T:aC}(hT:T.map (·.1)=L.map aR)(hl:T.length<=1000):fQ Φ0 dm qk iQ [.tab] T=some (.list (L.map λ(m:Nat)=>.int (m:Nat)),T):=by
 have hlen:L.length<=1000:=by have:=congrArg List.length hT;simp at this;lia
 have hk:(T.map λr=>PV.str r.1)=L.map λ(m:Nat)=>PV.str (aR m):=by have:=congrArg (List.map PV.str) hT;simp only[jR]at this;exact this
 have hc:=eZ (ifs:=((((dm.nth 1).e).ifs).sm Φ0).evIfs) (elt:=(Ca.sm Φ0).ev) (tg:=((dm.nth 1).e).tg) (λm=>PV.str (aR m)) (λσ=>∃x,σ=[none,some (.val (.list lP)),x,none]) (λ_=>true) (λ(m:Nat)=>PV.int (m:Nat)) (T:=T) (L:=L)
  (λm hm σ ⟨x,e⟩=>by subst e;exact⟨_,rfl,⟨_,rfl⟩,rfl,λ_=>⟨congrFun ((iu.mp uh) m (hg m hm)) T,rfl⟩⟩) _ ⟨none,rfl⟩
 replace hc:=(jg.mpr (λ_ _=>rfl))▸hc;have src:((((dm.nth 1).e).src).sm Φ0).evSrc [some (.val .tab),some (.val (.list lP)),none,none] T=some ((L.map (λ(m:Nat)=>PV.str (aR m)),true),T):=by refine(?_:Option.bind (aw (Nat.ble T.length 1000) (some (PV.list (T.map λr=>.str r.1),T))) _=_);rw[eJ hl];rw[hk];refine(?_:aw (aA (L.map λ(m:Nat)=>PV.str (aR m))) (fit (L.map λ(m:Nat)=>PV.str (aR m)).length _)=_);rewrite[aM (λ_=>rfl)];rw[bN (by simp;unfold cap;lia)];rfl
 have r:((dm.nth 1).e.sm Φ0).ev [some (.val .tab),some (.val (.list lP)),none,none] T=some (.list (L.map λ(m:Nat)=>.int (m:Nat)),T):=by exact kM rfl src (by simp;unfold cap;lia) hc
 have e1:dm.ex Φ0 [some (.val .tab),none,none,none] T=some ⟨.ret (.list (L.map λ(m:Nat)=>.int (m:Nat))),[some (.val .tab),some (.val (.list lP)),none,none],T⟩:=by refine aE (σ':=[some (.val .tab),some (.val (.list lP)),none,none]) (T':=T) (by kernel_rfl) (i5 ?_);refine(?_:Option.map _ (((dm.nth 1).e.sm Φ0).ev [some (.val .tab),some (.val (.list lP)),none,none] T)=_);rw[r];rfl
 refine(?_:Option.bind (dm.ex Φ0 [some (.val .tab),none,none,none] T) _=_);rw[e1];refine(?_:some (PV.list (bd (L.map λ(m:Nat)=>.int (m:Nat))),T)=_);rewrite[jz (λ_=>rfl)];rfl
noncomputable def IN(s:Str):Nat:=s.cps.toList.foldl (λh c=>(h*17+c)%386) 0
noncomputable def H6:List Nat:=[134,235,336,156,63,110,67,92,345,261,142,281,125,276,291,228,121,366,329,86,159,327,298,267,320,361,112,183,64,203,47,198,213,150,43,288,138,215,284,226,151,164,341,274,229,94,115,204,118,273,66,9,96,189,116,259,332,114,85,54,107,148,285,209,230,319,233,2,181,124,211,304,197,308,227,379,316,49,244,373,258]
theorem EV:(goods.map λm=>aS (aR m))=goods.map λ_=>true:=by kernel_rfl
theorem dl{m:Nat}(h:m∈goods):aS (aR m)=true:=(iu.mp EV) m h
theorem qG{x:Str}(h:aS x=true):∀c∈x.cps.toList,32<=c/\c<=126:=by unfold aS at h;simp only[cC,bD]at h;intro c hc;have:=h.2 c hc;exact⟨fn this.1,fn this.2⟩
theorem Bu:(goods.map λm=>IN ⟨((aR m).cps.toList.map mh).toArray⟩)=H6:=by kernel_rfl
theorem w5:H6.Nodup:=by decide +kernel
theorem Bo{m:Nat}(h:m∈goods):Txt.lower (aR m)=⟨((aR m).cps.toList.map mh).toArray⟩:=by
 rw[gj (qG (dl h))];have:(aR m).cps.map mh=((aR m).cps.toList.map mh).toArray:=by rewrite[<-Array.toList_inj];simp
 rw[this];rfl
theorem mJ{α:Type}{f:α->Nat}:∀{L:List α},(L.map f).Nodup->∀a∈L,∀b∈L,f a=f b->a=b
 |[],_,a,ha,_,_,_=>nomatch ha
 |x :: L,h,a,ha,b,hb,e=>by
  replace h:=bh▸h;rewrite[List.nodup_cons]at h;rcases ah.mp ha with ha|ha
  ·rcases ah.mp hb with hb|hb
   ·rw[ha];rw[hb];rfl
   ·replace e:=ha▸e;exact absurd (cH.mpr ⟨b,hb,e.symm⟩) h.1
  ·rcases ah.mp hb with hb|hb
   ·replace e:=hb▸e;exact absurd (cH.mpr ⟨a,ha,e⟩) h.1
   ·exact mJ h.2 a ha b hb e
theorem Dh{a b:Nat}(ha:a∈goods)(hb:b∈goods)(e:Txt.lower (aR a)=Txt.lower (aR b)):a=b:=
 mJ (f:=λm=>IN (Txt.lower (aR m))) (by rw[List.map_congr_left λm hm=>congrArg IN (Bo hm)];rw[Bu];exact w5) a ha b hb (congrArg IN e)
theorem zF(c:Nat):mh (mh c)=mh c:=by
 unfold mh
 repeat' split
 all_goals first|rfl|lia
theorem Bm{x:Str}(h:aS x=true):Txt.lower (Txt.lower x)=Txt.lower x:=by
 rw[gj (qG (cR h))];rw[gj (qG h)]
 congr 1
 simp[Array.map_map,Function.comp_def,zF]
theorem Es{m:Nat}(h:m∈goods):Txt.lower (Txt.lower (aR m))=Txt.lower (aR m):=Bm (dl h)
theorem kh{m:Nat}(h:m∈goods):aS (aR m)=true/\aS (Txt.lower (aR m))=true/\Nat.ble (aR m).length 5000=true:=by refine⟨dl h,cR (dl h),?_⟩;have:=dl h;unfold aS at this;exact(eA.mp this).1
noncomputable def oz(x:Str)(m:Nat):Prop:=Txt.lower x=Txt.lower (aR m)
theorem lQ(m:Nat):oz (aR m) m:=rfl
theorem kZ{m:Nat}(h:m∈goods):oz (Txt.lower (aR m)) m:=Es h
theorem Bb{x:Str}{a m:Nat}(ha:a∈goods)(hm:m∈goods)(t:oz x m):(Txt.lower (aR a)==Txt.lower x)=(m==a):=by
 rw[t];by_cases e:a=m
 ·subst e;simp
 ·have h1:¬Txt.lower (aR a)=Txt.lower (aR m):=λq=>e (Dh ha hm q);have h2:¬m=a:=λq=>e q.symm;rw[beq_eq_false_iff_ne.mpr h1];rw[beq_eq_false_iff_ne.mpr h2];rfl
noncomputable abbrev MV:=List (Nat×Nat)
noncomputable def aD(wd:Nat->Str)(R:MV):aC:=R.map λp=>(aR p.1,wd p.2)
noncomputable def rc(R:MV):Prop:=∀p∈R,p.1∈goods
noncomputable def me(R:MV)(m v:Nat):MV:=match R.lookup m with
 |some _=>R
 |none=>R++[(m,v)]
section
variable{wd:Nat->Str}
theorem i9{x:Str}{m:Nat}(hm:m∈goods)(t:oz x m):∀{R:MV},rc R->lookT (aD wd R) x=(R.lookup m).map wd
 |[],_=>rfl
 |(a,v) :: R,h=>by have ih:=i9 hm t (R:=R) λp hp=>h p (bZ _ hp);refine(?_:(bif Txt.lower (aR a)==Txt.lower x then some (wd v)else lookT (aD wd R) x)=_);rw[Bb (h (a,v) bW) hm t];rw[fh];rw[ih];cases m==a<;>rfl
theorem px{x:Str}{m:Nat}(hm:m∈goods)(t:oz x m):∀{R:MV},rc R->fg (aD wd R) x=aD wd (R.filter λp=> !(m==p.1))
 |[],_=>rfl
 |(a,v) :: R,h=>by
  have ih:=px hm t (R:=R) λp hp=>h p (bZ _ hp);refine(?_:(bif Txt.lower (aR a)==Txt.lower x then fg (aD wd R) x else(aR a,wd v) :: fg (aD wd R) x)=_);rw[Bb (h (a,v) bW) hm t];rw[ih];cases e:m==a with
  |true=>rw[List.filter_cons_of_neg (by simp[e])];rfl
  |false=>rw[List.filter_cons_of_pos (by simp[e])];rfl
theorem kg{m v:Nat}{x:Str}(hm:m∈goods)(t:oz x m)(hx:x=aR m\/(∃u,(R:MV).lookup m=some u))(hR:rc R):jN (aD wd R) x (wd v)=(wd ((R.lookup m).getD v),aD wd (me R m v)):=by
 unfold jN;rw[i9 hm t hR];unfold me;cases e:R.lookup m with
 |some u=>rfl
 |none=>
  rcases hx with rfl|⟨u,e'⟩
  ·refine(?_:(wd v,aD wd R++[(aR m,wd v)])=(wd v,aD wd (R++[(m,v)])));rewrite[aD,aD];rw[kv];rfl
  ·replace e:=e'▸e;exact sN e
theorem HJ{R:MV}{m v:Nat}(hR:rc R)(hm:m∈goods):rc (me R m v):=by
 unfold me;cases R.lookup m with
 |some u=>exact hR
 |none=>
  intro p hp;rcases jU.mp hp with h|h
  ·exact hR p h
  ·rw[ju.mp h];exact hm
theorem rW(R:MV):(aD wd R).map (·.1)=(R.map (·.1)).map aR:=by simp[aD]
end
theorem pd(a b:Nat):Builtin.bitAnd (a:Int) (b:Int)=((a &&& b:Nat):Int):=by unfold Builtin.bitAnd;rw[decide_eq_true (ij a)];rw[decide_eq_true (ij b)];rfl
theorem iR(a b:Nat):Builtin.bitOr (a:Int) (b:Int)=((a ||| b:Nat):Int):=by
 have key:∀x:Nat,Builtin.bitNot (Builtin.bitNot (x:Int))=x:=λx=>by unfold Builtin.bitNot;lia
 have neg:∀x:Nat,¬(0<=Builtin.bitNot (x:Int)):=λx=>by unfold Builtin.bitNot;lia
 unfold Builtin.bitOr Builtin.bitAnd;rw[decide_eq_false (neg a)];rw[decide_eq_false (neg b)];refine(?_:Builtin.bitNot (Builtin.bitNot (((Builtin.bitNot (Builtin.bitNot (a:Int))).toNat ||| (Builtin.bitNot (Builtin.bitNot (b:Int))).toNat:Nat):Int))=_);rw[key a];rw[key b];rw[key ..];rfl
theorem v9(a b:Nat):Int.fdiv (a:Int) (b:Int)=((a/b:Nat):Int):=by rw[Int.natCast_ediv ..];rw[Int.fdiv_eq_ediv_of_nonneg _ (ij b)];rfl
noncomputable def newOf(u a b:Nat):Nat:=(a ||| b)-3*4 ^ u
noncomputable def bO(u v w:Nat):Nat:=match u with
 |0=>v ||| w
 |1=>(12 ||| v) &&& (3 ||| w)
 |2=>(10 ||| v) &&& (5 ||| w)
 |_=>(0 ||| v) &&& (0 ||| w)
noncomputable def dQ:S:=(b9.nth 1).body
noncomputable def ot:S:=((dQ.nth 2).body.nth 0).body
noncomputable def uC:PV:=.tuple [.tuple [.int 0,.int 0],.tuple [.int 12,.int 3],.tuple [.int 10,.int 5],.tuple [.int 0,.int 0]]
noncomputable def kD(od ws ms:PV)(lf:List PV)(u nms ways:Option AV)(g:Nat->Option AV):aF:=
 [some (.val .tab),some (.val od),some (.val ws),some (.val ms),some (.own lf),some (.val uC),u,nms,g 8,g 9,ways,g 11,g 12,g 13,g 14,g 15,g 16,g 17,g 18,g 19,g 20,g 21]
noncomputable abbrev iN(n:Nat):PV:=.int (n:Nat)
noncomputable abbrev aN(n:Nat):Option AV:=some (.val (.int (n:Nat)))
section
variable{od ws ms:PV}{lf:List PV}{nms ways:Option AV}{g:Nat->Option AV}{T:aC}{x:PV}
theorem IK:(b9.nth 0).e=(b9.nth 0).e:=rfl
theorem Cr{u v w:Nat}(hu:u<4)(g:Nat->Option AV)(h16:g 16=aN v)(h17:g 17=aN w):
  (ot.nth 1).ex Φ1 (kD od ws ms lf (aN u) nms ways g) T=some ⟨.next,kD od ws ms lf (aN u) nms ways (λi=>if i=18 then aN (bO u v w)else g i),T⟩:=by
 have e:∀u:Nat,(kD od ws ms lf (aN u) nms ways g)=[some (.val .tab),some (.val od),some (.val ws),some (.val ms),some (.own lf),some (.val uC),aN u,nms,g 8,g 9,ways,g 11,g 12,g 13,g 14,g 15,aN v,aN w,g 18,g 19,g 20,g 21]:=λu=>by rewrite[kD];rw[h16];rw[h17];rfl
 have f:∀u:Nat,(kD od ws ms lf (aN u) nms ways (λi=>if i=18 then aN (bO u v w)else g i))=[some (.val .tab),some (.val od),some (.val ws),some (.val ms),some (.own lf),some (.val uC),aN u,nms,g 8,g 9,ways,g 11,g 12,g 13,g 14,g 15,aN v,aN w,aN (bO u v w),g 19,g 20,g 21]:=λu=>by simp[kD,h16,h17]
 rw[e ..];rw[f ..];have b1:∀a b c d:Nat,Builtin.bitAnd (Builtin.bitOr (a:Int) (b:Int)) (Builtin.bitOr (c:Int) (d:Int))=(((a ||| b) &&& (c ||| d):Nat):Int):=λa b c d=>by rw[iR ..];rw[iR ..];rw[pd ..];rfl
 refine IU hu ?_ ?_ ?_ ?_
 ·refine(?_:some (⟨.next,[_,_,_,_,_,_,_,_,_,_,_,_,_,_,_,_,_,_,some (.val (.int (Builtin.bitOr (v:Int) (w:Int)))),_,_,_],T⟩:AE)=_);rw[iR ..];rfl
 ·refine(?_:some (⟨.next,[_,_,_,_,_,_,_,_,_,_,_,_,_,_,_,_,_,_,some (.val (.int (Builtin.bitAnd (Builtin.bitOr ((12:Nat):Int) (v:Int)) (Builtin.bitOr ((3:Nat):Int) (w:Int))))),_,_,_],T⟩:AE)=_);rw[b1 ..];rfl
 ·refine(?_:some (⟨.next,[_,_,_,_,_,_,_,_,_,_,_,_,_,_,_,_,_,_,some (.val (.int (Builtin.bitAnd (Builtin.bitOr ((10:Nat):Int) (v:Int)) (Builtin.bitOr ((5:Nat):Int) (w:Int))))),_,_,_],T⟩:AE)=_);rw[b1 ..];rfl
 ·refine(?_:some (⟨.next,[_,_,_,_,_,_,_,_,_,_,_,_,_,_,_,_,_,_,some (.val (.int (Builtin.bitAnd (Builtin.bitOr ((0:Nat):Int) (v:Int)) (Builtin.bitOr ((0:Nat):Int) (w:Int))))),_,_,_],T⟩:AE)=_);rw[b1 ..];rfl
end
section
variable{Φ:fA}{σ σ':aF}{T T1 T2 T3:aC}{p q r:PV}{ps qs:List PV}{a b c es o i:E}{pos ap ip np bp:Pos}
theorem aZ{op:Operator}(h1:(a.sm Φ).ev σ T=some (p,T))(h2:(b.sm Φ).ev σ T=some (q,T))(h3:gW op p q=some r):((E.bin op a b pos).sm Φ).ev σ T=some (r,T):=by refine(?_:((a.sm Φ).ev σ T).bind _=_);rw[h1];refine(?_:((b.sm Φ).ev σ T).bind _=_);rw[h2];refine(?_:(gW op p q).map _=_);rw[h3];rfl
theorem qS{op:CmpOp}{t:Bool}(h1:(a.sm Φ).ev σ T=some (p,T))(h2:(b.sm Φ).ev σ T=some (q,T))(h3:nN op p q=some t):((E.cmp op a b pos).sm Φ).ev σ T=some (.bool t,T):=by refine(?_:((a.sm Φ).ev σ T).bind _=_);rw[h1];refine(?_:((b.sm Φ).ev σ T).bind _=_);rw[h2];refine(?_:(nN op p q).map _=_);rw[h3];rfl
theorem bM{op:CmpOp}{t:Bool}(h1:(a.sm Φ).ev σ T=some (p,T))(h2:(b.sm Φ).ev σ T=some (q,T))(h3:nN op p q=some t):((E.cmp op a b pos).sm Φ).evT σ T=some (t,T):=by refine(?_:(((E.cmp op a b pos).sm Φ).ev σ T).bind _=_);rw[qS h1 h2 h3];rfl
theorem tu{op:Operator}{t:Bool}(h:((E.bin op a b pos).sm Φ).ev σ T=some (p,T))(ht:eS p=some t):((E.bin op a b pos).sm Φ).evT σ T=some (t,T):=by refine(?_:(((E.bin op a b pos).sm Φ).ev σ T).bind _=_);rw[h];refine(?_:(eS p).map _=_);rw[ht];rfl
theorem bg(h1:(a.sm Φ).ev σ T=some (p,T))(h2:(i.sm Φ).ev σ T=some (q,T))(h3:kn p q=some r):((E.sub a i pos).sm Φ).ev σ T=some (r,T):=by refine(?_:((a.sm Φ).ev σ T).bind _=_);rw[h1];refine(?_:((i.sm Φ).ev σ T).bind _=_);rw[h2];refine(?_:(kn p q).map _=_);rw[h3];rfl
theorem xq{t:Bool}(h1:(a.sm Φ).ev σ T=some (p,T))(h2:(i.sm Φ).ev σ T=some (q,T))(h3:kn p q=some r)(h4:eS r=some t):((E.sub a i pos).sm Φ).evT σ T=some (t,T):=by refine(?_:(((E.sub a i pos).sm Φ).ev σ T).bind _=_);rw[bg h1 h2 h3];refine(?_:(eS r).map _=_);rw[h4];rfl
theorem aL(h1:(a.sm Φ).ev σ T=some (p,T))(h2:(b.sm Φ).evs σ T=some (ps,T)):((E.cons a b).sm Φ).evs σ T=some (p :: ps,T):=by refine(?_:((a.sm Φ).ev σ T).bind _=_);rw[h1];refine(?_:((b.sm Φ).evs σ T).map _=_);rw[h2];rfl
theorem ac:((E.nil).sm Φ).evs σ T=some ([],T):=rfl
theorem ci{m:MF}(h1:(o.sm Φ).ev σ T=some (p,T))(h2:(es.sm Φ).evs σ T=some (ps,T))(h3:mH m p ps T=some (r,T3)):((E.meth o m ap es pos).sm Φ).ev σ T=some (r,T3):=by refine(?_:((o.sm Φ).ev σ T).bind _=_);rw[h1];refine(?_:((es.sm Φ).evs σ T).bind _=_);rw[h2];exact h3
theorem fU{f:UF}(h2:(es.sm Φ).evs σ T=some (ps,T))(hc:aA ps=true)(h3:Φ f ps T=some (r,T3)):((E.callu f ap es pos).sm Φ).ev σ T=some (r,T3):=by refine(?_:((es.sm Φ).evs σ T).bind _=_);rw[h2];refine(?_:aw (aA ps) (Φ f ps T)=_);rw[hc];rw[h3];rfl
theorem iX{f:BF}(h2:(es.sm Φ).evs σ T=some (ps,T))(h3:eL f ps=some r):((E.callb f ap es pos).sm Φ).ev σ T=some (r,T):=by refine(?_:((es.sm Φ).evs σ T).bind _=_);rw[h2];refine(?_:(eL f ps).map _=_);rw[h3];rfl
theorem IX(h2:(es.sm Φ).evs σ T=some (ps,T))(hc:aA ps=true)(hl:ps.length<=cap):((E.list es pos).sm Φ).ev σ T=some (.list ps,T):=by refine(?_:((es.sm Φ).evs σ T).bind _=_);rw[h2];refine(?_:aw (aA ps) (fit ps.length _)=_);rw[hc];rw[bN hl];rfl
theorem jy{k:Nat}(h2:(es.sm Φ).evs σ T=some (ps,T))(hl:ps.length<=cap):((E.tuple es k pos).sm Φ).ev σ T=some (.tuple ps,T):=by refine(?_:((es.sm Φ).evs σ T).bind _=_);rw[h2];refine(?_:fit ps.length _=_);rw[bN hl];rfl
theorem Br{x d:Str}{j:Nat}(h1:(a.sm Φ).ev σ T=some (.str x,T))(h2:(b.sm Φ).ev σ T=some (.str d,T))(hj:σ.getD j none=some (.val .tab))(hx:aS x=true)(hd:aS d=true)(hl:T.length<=1000):
  ((E.gni np a j ip ap b bp pos).sm Φ).ev σ T=some (.tuple [.str ((lookT T x).getD d),.str ((lookT T x).getD d)],T):=by
 refine(?_:((a.sm Φ).ev σ T).bind _=_);rw[h1];refine(?_:((b.sm Φ).ev σ T).bind _=_);rw[h2];refine(?_:(CJ (.str x) (σ.getD j none) (.str d) T).map _=_);rw[hj];refine(?_:(aw (aS x&&(aS d&&Nat.ble T.length 1000)) _).map _=_);rw[hx];rw[hd];rw[sB hl];rfl
theorem ct{f:BF}{xs:List PV}(h2:(es.sm Φ).evs σ T=some (ps,T))(h3:sh f ps=some xs):((E.callb f ap es pos).sm Φ).evSrc σ T=some ((xs,ps.all fN),T):=by refine(?_:((es.sm Φ).evs σ T).bind _=_);rw[h2];refine(?_:(sh f ps).map _=_);rw[h3];rfl
theorem jA{ts:List (Nat×Pos)}{ow:List Bool}{k ek:Nat}{tp ep:Pos}(h:(es.sm Φ).evs σ T=some (ps,T1))(h2:mj es ow=true)(h3:ps.length<=cap)(h4:hU σ ts ps ow=some σ'):(S.unpackD ts k tp es ow ek ep pos).ex Φ σ T=some ⟨.next,σ',T1⟩:=by refine(?_:((es.sm Φ).evs σ T).bind _=_);rw[h];refine(?_:aw (mj es ow) (fit ps.length ((hU σ ts ps ow).map _))=_);rw[h2];rw[bN h3];rw[h4];rfl
theorem ik{j:Nat}{np:Pos}(h:(a.sm Φ).ev σ T=some (p,T1))(hc:clean p=true):(S.assign j np a pos).ex Φ σ T=some ⟨.next,σ.set j (some (.val p)),T1⟩:=by refine(?_:((a.sm Φ).ev σ T).bind _=_);rw[h];refine(?_:aw (clean p) _=_);rw[hc];rfl
theorem Eh(h:(a.sm Φ).ev σ T=some (p,T1)):(S.expr a pos).ex Φ σ T=some ⟨.next,σ,T1⟩:=by refine(?_:((a.sm Φ).ev σ T).map _=_);rw[h];rfl
theorem wL(h:(a.sm Φ).ev σ T=some (p,T1)):(S.ret a pos).ex Φ σ T=some ⟨.ret p,σ,T1⟩:=by refine(?_:((a.sm Φ).ev σ T).map _=_);rw[h];rfl
theorem rY{j:Nat}{xs:List PV}{xp:Pos}(h0:σ.getD j none=some (.own xs))(h:(a.sm Φ).ev σ T=some (p,T1))(hc:clean p=true)(hl:xs.length+1<=cap):(S.append j xp ap a ip pos).ex Φ σ T=some ⟨.next,σ.set j (some (.own (xs++[p]))),T1⟩:=by refine(?_:(fL σ j).bind _=_);rw[show fL σ j=some xs by unfold fL;rw[h0];rfl];refine(?_:((a.sm Φ).ev σ T).bind _=_);rw[h];refine(?_:aw (clean p) (fit (xs.length+1) _)=_);rw[hc];rw[bN hl];rfl
theorem dK{t:Bool}{x y:S}{z:Option AE}(h:(c.sm Φ).evT σ T=some (t,T1))(k:(bif t then x.ex Φ σ T1 else y.ex Φ σ T1)=z):(S.ite c x y pos).ex Φ σ T=z:=by refine(?_:((c.sm Φ).evT σ T).bind _=_);rw[h];cases t<;>exact k
theorem gG{tg:Tg}{src:E}{body els:S}{xs:List PV}{z:Option AE}(h:(src.sm Φ).evSrc σ T=some ((xs,true),T1))(k:cU tg (body.ex Φ) (els.ex Φ) xs σ T1=z):(S.for_ tg src body els pos).ex Φ σ T=z:=by refine(?_:((src.sm Φ).evSrc σ T).bind _=_);rw[h];exact k
end
noncomputable def cu(wd:Nat->Str):PV:=.list ((List.range 16).map λv=>.str (wd v))
structure bX(wd:Nat->Str):Prop where
 idx:∀v<16,∀T:aC,mH .index (cu wd) [.str (wd v)] T=some (iN v,T)
 ok:∀v<16,aS (wd v)=true
 cl:clean (cu wd)=true
 inj:∀v<16,∀w<16,wd v=wd w->v=w
noncomputable abbrev ko(x:Str):PV:=.tuple [.str x,.str x]
section
variable{od ms:PV}{lf:List PV}{nms ways:Option AV}{g:Nat->Option AV}{T:aC}{wd:Nat->Str}
theorem pD(W:bX wd){v:Nat}(h:v<16):kn (cu wd) (iN v)=some (.str (wd v)):=by refine(?_:aw (decide ((0:Int)<=(v:Int))&&decide ((v:Int)<1000000)) (((List.range 16).map λv=>PV.str (wd v))[(v:Int).toNat]?)=_);rw (occs:=.all) [decide_eq_true (ij v),decide_eq_true (by lia:(v:Int)<1000000)];simp[aw,h]
theorem Ds{u a b:Nat}(h:3*4 ^ u<=a ||| b):(Builtin.bitOr (a:Int) (b:Int)-3*4 ^ u)=((newOf u a b:Nat):Int):=by rw[iR ..];rewrite[newOf];rw[Int.ofNat_sub h];push_cast;rfl
theorem Gd(W:bX wd){u a b v w:Nat}(hu:u<4)(hv:v<16)(hw:w<16)(hle:3*4 ^ u<=a ||| b)(g:Nat->Option AV)(h11:g 11=aN a)(h12:g 12=some (.val (ko (wd v))))(h13:g 13=aN b)(h14:g 14=some (.val (ko (wd w)))):
  (ot.nth 0).ex Φ1 (kD od (cu wd) ms lf (aN u) nms ways g) T=some ⟨.next,kD od (cu wd) ms lf (aN u) nms ways (λi=>if i=15 then aN (newOf u a b)else if i=16 then aN v else if i=17 then aN w else g i),T⟩:=by
 refine jA (ps:=[iN (newOf u a b),iN v,iN w]) (aL (aZ (p:=.int (Builtin.bitOr (a:Int) (b:Int))) (q:=.int (3*4 ^ u)) (aZ (p:=iN a) (q:=iN b) ?_ ?_ rfl) ?_ ?_) (aL (ci (p:=cu wd) (ps:=[.str (wd v)]) rfl (aL (bg (p:=ko (wd v)) (q:=.int 0) ?_ rfl rfl) ac) (W.idx v hv T)) (aL (ci (p:=cu wd) (ps:=[.str (wd w)]) rfl (aL (bg (p:=ko (wd w)) (q:=.int 1) ?_ rfl rfl) ac) (W.idx w hw T)) ac))) rfl (by show 3<=16777216;decide) rfl
 ·show Option.map _ (g 11)=_;rw[h11];rfl
 ·show Option.map _ (g 13)=_;rw[h13];rfl
 ·exact IU hu rfl rfl rfl rfl
 ·refine(?_:some (PV.int (Builtin.bitOr (a:Int) (b:Int)-3*4 ^ u))=_);rw[Ds hle];rfl
 ·show Option.map _ (g 12)=_;rw[h12];rfl
 ·show Option.map _ (g 14)=_;rw[h14];rfl
end
theorem gt(a b:Nat):gW .BitAnd (iN a) (iN b)=some (iN (a &&& b)):=by show some (PV.int (Builtin.bitAnd (a:Int) (b:Int)))=_;rw[pd ..];rfl
theorem JL(a b:Nat):gW .BitOr (iN a) (iN b)=some (iN (a ||| b)):=by show some (PV.int (Builtin.bitOr (a:Int) (b:Int)))=_;rw[iR ..];rfl
theorem kO(a k:Nat):gW .RShift (iN a) (iN k)=some (iN (a >>> k)):=by
 refine(?_:Option.map PV.int (aw (decide (0<=(k:Int))) (some (Int.fdiv (a:Int) (2 ^ (k:Int).toNat))))=_);rw[decide_eq_true (ij k)];refine(?_:some (PV.int (Int.fdiv (a:Int) (2 ^ k)))=_);have:((2:Int) ^ k)=((2 ^ k:Nat):Int):=by push_cast;rfl
 rw[this];rw[v9 ..];rw[Nat.shiftRight_eq_div_pow ..];rfl
theorem cn(a b:Nat):nN .Eq (iN a) (iN b)=some (a==b):=by
 refine(?_:some (PyData.eqv (.int (a:Int)) (.int (b:Int)))=_);have:((a:Int)==(b:Int))=(a==b):=by
  by_cases h:a=b
  ·subst h;simp
  ·have h':¬(a:Int)=(b:Int):=by lia
   rw[beq_eq_false_iff_ne.mpr h];rw[beq_eq_false_iff_ne.mpr h'];rfl
 rw[this.symm];rfl
section
variable{od ms:PV}{lf:List PV}{nms ways:Option AV}{g:Nat->Option AV}{T:aC}{wd:Nat->Str}
theorem ER{u n:Nat}(g:Nat->Option AV)(h15:g 15=aN n):(((ot.nth 2).e).sm Φ1).evT (kD od (cu wd) ms lf (aN u) nms ways g) T=some (good n,T):=by
 have v15:∀{pos:Pos},((E.var 15 pos).sm Φ1).ev (kD od (cu wd) ms lf (aN u) nms ways g) T=some (iN n,T):=by intro pos;show Option.map _ (g 15)=_;rw[h15];rfl
 exact bM (q:=iN 0) (aZ (q:=iN 85) (aZ v15 (aZ (q:=iN 1) v15 rfl (kO n 1)) (gt _ _)) rfl (gt _ _)) rfl (cn _ _)
end
structure TI(R:MV):Prop where
 goods:rc R
 nd:(R.map (·.1)).Nodup
 vals:∀p∈R,p.2<16
theorem iM:∀{L M:List Nat},L.Nodup->(∀x∈L,x∈M)->L.length<=M.length
 |[],_,_,_=>Nat.zero_le _
 |x :: L,M,h,s=>by
  rewrite[List.nodup_cons]at h;have:=iM (L:=L) (M:=M.erase x) h.2 λy hy=>by have hne:y≠x:=λq=>h.1 (q▸hy);exact(List.mem_erase_of_ne hne).mpr (s y (bZ _ hy))
  replace this:=List.length_erase_of_mem (s x bW)▸this;have hp:=List.length_pos_of_mem (s x bW);simp only[lF];lia
theorem tt:goods.length=81:=by decide +kernel
theorem TI.length{R:MV}(h:TI R):R.length<=1000:=by
 have:=iM (L:=R.map (·.1)) (M:=Mine.goods) h.nd λx hx=>by refine aP (cH.mp hx) λp hp q1q=>?_;subst q1q;exact h.goods p hp
 replace this:=tt▸this;replace this:=(lH ..)▸this;lia
theorem fH{R:MV}{m:Nat}(h:R.lookup m=none):m∉R.map (·.1):=by
 induction R with
 |nil=>simp
 |cons p R ih=>
  rewrite[fh]at h;cases e:m==p.1 with
  |true=>replace h:=e▸h;exact sN h
  |false=>replace h:=e▸h;simp only[bh,ah,not_or];exact⟨by simpa using e,ih h⟩
theorem gR{R:MV}{m v:Nat}(h:R.lookup m=some v):(m,v)∈R:=by
 induction R with
 |nil=>exact nS h
 |cons p R ih=>
  rewrite[fh]at h;cases e:m==p.1 with
  |true=>
   replace h:=e▸h;replace h:=iS h;subst h;have:m=p.1:=by simpa using e
   rw[this];exact bW
  |false=>replace h:=e▸h;exact bZ _ (ih h)
theorem iE{R:MV}(nd:(R.map (·.1)).Nodup){m v:Nat}(h:(m,v)∈R):R.lookup m=some v:=by
 cases e:R.lookup m with
 |none=>exact absurd (dJ (f:=(·.1)) h) (fH e)
 |some u=>
  have hu:=gR e;clear e
  induction R with
  |nil=>cases h
  |cons p R ih=>
   replace nd:=bh▸nd;rewrite[List.nodup_cons]at nd;rcases ah.mp h with h|h
   ·rcases ah.mp hu with hu|hu
    ·replace hu:=h.symm▸hu;cases hu;rfl
    ·replace nd:=h.symm▸nd;exact absurd (dJ (f:=(·.1)) hu) nd.1
   ·rcases ah.mp hu with hu|hu
    ·replace nd:=hu.symm▸nd;exact absurd (dJ (f:=(·.1)) h) nd.1
    ·exact ih nd.2 h hu
theorem TI.ins{R:MV}{m v:Nat}(h:TI R)(hm:m∈Mine.goods)(hv:v<16):TI (Mine.me R m v):=by
 unfold Mine.me;cases e:R.lookup m with
 |some u=>exact h
 |none=>
  refine⟨λp hp=>?_,?_,λp hp=>?_⟩
  ·rcases jU.mp hp with hp|hp
   ·exact h.goods p hp
   ·rw[ju.mp hp];exact hm
  ·refine(?_:((R++[(m,v)]).map (·.1)).Nodup);rw[kv];rewrite[List.nodup_append];refine⟨h.nd,by simp,λa ha b hb q=>?_⟩;have:b=m:=by simpa using hb
   subst q;subst this;exact fH e ha
  ·rcases jU.mp hp with hp|hp
   ·exact h.vals p hp
   ·rw[ju.mp hp];exact hv
theorem TI.filter{R:MV}(h:TI R)(f:Nat×Nat->Bool):TI (R.filter f):=
 ⟨λp hp=>h.goods p (cf.mp hp).1,h.nd.sublist (List.filter_sublist.map _),λp hp=>h.vals p (cf.mp hp).1⟩
noncomputable def ai(m i:Nat):Bool:=m >>> i &&& 1==1
theorem zk:((List.range 4).all λu=>(goods.filter λa=>ai a (2*u)).all λa=>(goods.filter λb=>ai b (2*u+1)).all λb=>
  Nat.ble (3*4 ^ u) (a ||| b)&&(Nat.blt (newOf u a b) 256&&(newOf u a b==(a-4 ^ u) ||| (b-2*4 ^ u))))=true:=by decide +kernel
theorem l8{u a b:Nat}(hu:u<4)(ha:a∈goods)(hb:b∈goods)(h1:ai a (2*u)=true)(h2:ai b (2*u+1)=true):3*4 ^ u<=a ||| b/\newOf u a b<256/\newOf u a b=(a-4 ^ u) ||| (b-2*4 ^ u):=by have h:=zk;simp only[bD]at h;have:=h u (bS.mpr hu) a (cf.mpr ⟨ha,h1⟩) b (cf.mpr ⟨hb,h2⟩);simp only[cC,Nat.ble_eq,Nat.blt_eq,beq_iff_eq]at this;exact⟨this.1,this.2.1,this.2.2⟩
theorem vT:((List.range 4).all λu=>(List.range 16).all λv=>(List.range 16).all λw=>Nat.blt (bO u v w) 16)=true:=by decide +kernel
theorem um{u v w:Nat}(hu:u<4)(hv:v<16)(hw:w<16):bO u v w<16:=by have h:=vT;simp only[bD]at h;have:=h u (bS.mpr hu) v (bS.mpr hv) w (bS.mpr hw);simpa[Nat.blt_eq]using this
noncomputable def gX(u:Nat)(p q:Nat×Nat)(R:MV):MV:=bif good (newOf u p.1 q.1)then me R (newOf u p.1 q.1) (bO u p.2 q.2)else R
theorem TI.lay1{R:MV}{u:Nat}{p q:Nat×Nat}(h:TI R)(hu:u<4)(ha:p.1∈Mine.goods)(hb:q.1∈Mine.goods)(h1:ai p.1 (2*u)=true)(h2:ai q.1 (2*u+1)=true)(hv:p.2<16)(hw:q.2<16):TI (Mine.gX u p q R):=by
 unfold Mine.gX;cases e:good (newOf u p.1 q.1)with
 |true=>exact h.ins (rk (l8 hu ha hb h1 h2).2.1 e) (um hu hv hw)
 |false=>exact h
section
variable{od ms:PV}{lf:List PV}{nms ways:Option AV}{g:Nat->Option AV}{wd:Nat->Str}
theorem Do(W:bX wd){R:MV}(hR:TI R){u:Nat}{p q:Nat×Nat}(hu:u<4)(ha:p.1∈goods)(hb:q.1∈goods)(h1:ai p.1 (2*u)=true)(h2:ai q.1 (2*u+1)=true)(hv:p.2<16)(hw:q.2<16)(g:Nat->Option AV)
  (h11:g 11=aN p.1) (h12:g 12=some (.val (ko (wd p.2)))) (h13:g 13=aN q.1) (h14:g 14=some (.val (ko (wd q.2)))):
  ∃g',g' 11=aN p.1/\g' 12=some (.val (ko (wd p.2)))/\ot.ex Φ1 (kD od (cu wd) ms lf (aN u) nms ways g) (aD wd R)=some ⟨.next,kD od (cu wd) ms lf (aN u) nms ways g',aD wd (gX u p q R)⟩:=by
 refine km (l8 hu ha hb h1 h2) λf1 f2 _=>?_;have e1:=Gd (od:=od) (ms:=ms) (lf:=lf) (nms:=nms) (ways:=ways) (T:=aD wd R) W hu hv hw f1 g h11 h12 h13 h14;have e2:=Cr (od:=od) (ws:=cu wd) (ms:=ms) (lf:=lf) (nms:=nms) (ways:=ways) (T:=aD wd R) (v:=p.2) (w:=q.2) hu (λi=>if i=15 then aN (newOf u p.1 q.1)else if i=16 then aN p.2 else if i=17 then aN q.2 else g i) rfl rfl;refine⟨λi=>if i=18 then aN (bO u p.2 q.2)else if i=15 then aN (newOf u p.1 q.1)else if i=16 then aN p.2 else if i=17 then aN q.2 else g i,h11,h12,aE e1 (aE e2 (aE (σ':=kD od (cu wd) ms lf (aN u) nms ways (λi=>if i=18 then aN (bO u p.2 q.2)else if i=15 then aN (newOf u p.1 q.1)else if i=16 then aN p.2 else if i=17 then aN q.2 else g i)) (T':=aD wd (gX u p q R)) (dK (ER _ rfl) ?_) rfl))⟩
 ·cases hg:good (newOf u p.1 q.1)with
  |false=>rewrite[gX];rw[hg];rfl
  |true=>have hn:=rk f2 hg;have hm:=um hu hv hw;rewrite[gX];rw[hg];refine aE (Eh (p:=.str (wd ((R.lookup (newOf u p.1 q.1)).getD (bO u p.2 q.2)))) (ci (p:=.tab) (ps:=[.str (aR (newOf u p.1 q.1)),.str (wd (bO u p.2 q.2))]) rfl (aL (fU (ps:=[iN (newOf u p.1 q.1)]) (aL rfl ac) rfl (nr hn _)) (aL (bg (p:=cu wd) (q:=iN (bO u p.2 q.2)) rfl rfl (pD W hm)) ac)) ?_)) rfl;refine(?_:aw (aS (aR (newOf u p.1 q.1))&&(aS (wd (bO u p.2 q.2))&&Nat.ble (aD wd R).length 1000)) _=_);rw[dl hn];rw[W.ok _ hm];rw[eJ (by simpa[aD]using hR.length)];rw[kg hn (lQ _) (.inl rfl) hR.goods];rfl
end
section
variable{Φ:fA}{σ:aF}{T:aC}{xs:List PV}{a b i es:E}{pos np ap:Pos}
theorem sF(h:((E.sub a i pos).sm Φ).ev σ T=some (.list xs,T))(hc:aA xs=true)(hl:xs.length<=cap):((E.sub a i pos).sm Φ).evSrc σ T=some ((xs,true),T):=by refine(?_:(((E.sub a i pos).sm Φ).ev σ T).bind _=_);rw[h];refine(?_:aw (aA xs) (fit xs.length _)=_);rw[hc];rw[bN hl];rfl
theorem sJ{j:Nat}(h:σ.getD j none=some (.val (.list xs)))(hc:aA xs=true)(hl:xs.length<=cap):((E.var j pos).sm Φ).evSrc σ T=some ((xs,true),T):=by refine(?_:(Option.map _ (σ.getD j none)).bind _=_);rw[h];refine(?_:aw (aA xs) (fit xs.length _)=_);rw[hc];rw[bN hl];rfl
theorem HE{op:Operator}(h:((E.bin op a b pos).sm Φ).ev σ T=some (.list xs,T))(hc:aA xs=true)(hl:xs.length<=cap):((E.bin op a b pos).sm Φ).evSrc σ T=some ((xs,true),T):=by refine(?_:(((E.bin op a b pos).sm Φ).ev σ T).bind _=_);rw[h];refine(?_:aw (aA xs) (fit xs.length _)=_);rw[hc];rw[bN hl];rfl
theorem sK{l u s:E}{sp:Pos}(h:((E.slc a l u s sp pos).sm Φ).ev σ T=some (.list xs,T))(hc:aA xs=true)(hl:xs.length<=cap):((E.slc a l u s sp pos).sm Φ).evSrc σ T=some ((xs,true),T):=by refine(?_:(((E.slc a l u s sp pos).sm Φ).ev σ T).bind _=_);rw[h];refine(?_:aw (aA xs) (fit xs.length _)=_);rw[hc];rw[bN hl];rfl
theorem GR{m:MF}(h:((E.meth a m ap es pos).sm Φ).ev σ T=some (.list xs,T))(hc:aA xs=true)(hl:xs.length<=cap):((E.meth a m ap es pos).sm Φ).evSrc σ T=some ((xs,true),T):=by refine(?_:(((E.meth a m ap es pos).sm Φ).ev σ T).bind _=_);rw[h];refine(?_:aw (aA xs) (fit xs.length _)=_);rw[hc];rw[bN hl];rfl
end
theorem uV{α:Type}(f g:α->PV):∀L:List α,jJ (L.map f) (L.map g)=L.map λx=>.tuple [f x,g x]
 |[]=>rfl
 |x :: L=>by simp only[bh,Bw,uV f g L]
theorem vk{α:Type}{f g:α->PV}{L:List α}(hf:aA (L.map f)=true)(hg:aA (L.map g)=true)(hl:L.length<=1000):sh .zip [.list (L.map f),.list (L.map g)]=some (L.map λx=>.tuple [f x,g x]):=by refine(?_:aw (aA (L.map f)&&aA (L.map g)) (fit ((L.map f).length+(L.map g).length) (some (jJ (L.map f) (L.map g))))=_);rw[hf];rw[hg];rw[uV ..];rw[bN (by simp;unfold cap;lia)];rfl
noncomputable abbrev pO(wd:Nat->Str)(p:Nat×Nat):PV:=.tuple [iN p.1,ko (wd p.2)]
noncomputable abbrev cG(L:List Nat):PV:=.list (L.map λm=>iN m)
noncomputable abbrev aO(R:MV):List Nat:=R.map (·.1)
noncomputable abbrev nH(R:MV):PV:=.list (R.map λp=>.str (aR p.1))
noncomputable def sX(u t:Nat)(R:MV):MV:=R.filter λp=>ai p.1 (2*u+t)
noncomputable abbrev jW(wd:Nat->Str)(P N:MV):PV:=.list [.list (P.map (pO wd)),.list (N.map (pO wd))]
section
variable{od ms:PV}{lf:List PV}{nms ways:Option AV}{wd:Nat->Str}
theorem DN(W:bX wd){u:Nat}(hu:u<4){P N:MV}{p:Nat×Nat}(hp:p.1∈goods/\ai p.1 (2*u)=true/\p.2<16)(hN:∀q∈N,q.1∈goods/\ai q.1 (2*u+1)=true/\q.2<16)(hl:N.length<=1000){R:MV}(hR:TI R)(g:Nat->Option AV)
  (h11:g 11=aN p.1) (h12:g 12=some (.val (ko (wd p.2)))):
  ∃g',TI (N.foldl (λR q=>gX u p q R) R)/\((dQ.nth 2).body.nth 0).ex Φ1 (kD od (cu wd) ms lf (aN u) nms (some (.val (jW wd P N))) g) (aD wd R)=some ⟨.next,kD od (cu wd) ms lf (aN u) nms (some (.val (jW wd P N))) g',aD wd (N.foldl (λR q=>gX u p q R) R)⟩:=by
 obtain⟨σ',⟨hTI,g',_,_,rfl⟩,e⟩:=iO (tg:=((dQ.nth 2).body.nth 0).tg) (body:=ot.ex Φ1) (els:=S.nil.ex Φ1) (pO wd)
  (λR σ=>TI R/\∃g,g 11=aN p.1/\g 12=some (.val (ko (wd p.2)))/\σ=kD od (cu wd) ms lf (aN u) nms (some (.val (jW wd P N))) g) (aD wd) (λR q=>gX u p q R) (λ_ _=>rfl) (L:=N)
  (λq hq R σ ⟨hR,g,g11,g12,e⟩=>by subst e;refine km (hN q hq) λq1 q2 q3=>?_;refine d1 (Do (od:=od) (ms:=ms) (lf:=lf) (nms:=nms) (ways:=some (.val (jW wd P N))) W hR hu hp.1 q1 hp.2.1 q2 hp.2.2 q3 (λi=>if i=13 then aN q.1 else if i=14 then some (.val (ko (wd q.2)))else g i) g11 g12 rfl rfl) λg' k11 k12 e2=>?_;exact⟨_,_,rfl,e2,hR.lay1 hu hp.1 q1 hp.2.1 q2 hp.2.2 q3,g',k11,k12,rfl⟩) R _ ⟨hR,g,h11,h12,rfl⟩
 refine⟨g',hTI,gG (sF (xs:=N.map (pO wd)) (bg (p:=jW wd P N) (q:=.int 1) rfl rfl rfl) (aM (λ_=>rfl) N) (by simp;unfold cap;lia)) ?_⟩;exact e
theorem Bp(W:bX wd){u:Nat}(hu:u<4){P N:MV}(hP:∀q∈P,q.1∈goods/\ai q.1 (2*u)=true/\q.2<16)(hN:∀q∈N,q.1∈goods/\ai q.1 (2*u+1)=true/\q.2<16)(hlP:P.length<=1000)(hl:N.length<=1000){R:MV}(hR:TI R)(g:Nat->Option AV):
  ∃g',TI (P.foldl (λR p=>N.foldl (λR q=>gX u p q R) R) R)/\(dQ.nth 2).ex Φ1 (kD od (cu wd) ms lf (aN u) nms (some (.val (jW wd P N))) g) (aD wd R)=
   some ⟨.next,kD od (cu wd) ms lf (aN u) nms (some (.val (jW wd P N))) g',aD wd (P.foldl (λR p=>N.foldl (λR q=>gX u p q R) R) R)⟩:=by
 obtain⟨σ',⟨hTI,g',rfl⟩,e⟩:=iO (tg:=(dQ.nth 2).tg) (body:=(dQ.nth 2).body.ex Φ1) (els:=S.nil.ex Φ1) (pO wd)
  (λR σ=>TI R/\∃g,σ=kD od (cu wd) ms lf (aN u) nms (some (.val (jW wd P N))) g) (aD wd) (λR p=>N.foldl (λR q=>gX u p q R) R) (λ_ _=>rfl) (L:=P)
  (λp hp R σ ⟨hR,g,e⟩=>by subst e;refine aP (DN (od:=od) (ms:=ms) (lf:=lf) (nms:=nms) (P:=P) W hu (hP p hp) hN hl hR (λi=>if i=11 then aN p.1 else if i=12 then some (.val (ko (wd p.2)))else g i) rfl rfl) λg' t e2=>?_;exact⟨_,_,rfl,aE e2 rfl,t,g',rfl⟩) R _ ⟨hR,g,rfl⟩
 refine⟨g',hTI,gG (sF (xs:=P.map (pO wd)) (bg (p:=jW wd P N) (q:=.int 0) rfl rfl rfl) (aM (λ_=>rfl) P) (by simp;unfold cap;lia)) ?_⟩;exact e
end
theorem o8(u:Nat):gW .Mult (iN 2) (iN u)=some (iN (2*u)):=by
 refine(?_:some (PV.int (2*(u:Int)))=_)
 congr 2
theorem yc(a b:Nat):gW .Add (iN a) (iN b)=some (iN (a+b)):=by
 refine(?_:some (PV.int ((a:Int)+(b:Int)))=_)
 congr 2
theorem ym(m i:Nat):eS (iN (m >>> i &&& 1))=some (ai m i):=by
 refine(?_:some (((m >>> i &&& 1:Nat):Int) != 0)=_);unfold ai;have h:m >>> i &&& 1=0\/m >>> i &&& 1=1:=by have:=Nat.and_le_right (n:=m >>> i) (m:=1);lia
 rcases h with h|h<;>rw[h]<;>rfl
theorem rz(n:Nat):eS (iN n)=some (!(n==0)):=by refine(?_:some ((n:Int) != 0)=_);cases n<;>rfl
theorem Dq:aS (sx "")=true:=by decide +kernel
theorem Eg{Φ:fA}{σ:aF}{T:aC}{a:E}{j:Nat}{k:Str}{ip sp pos:Pos}(h:(a.sm Φ).ev σ T=some (.str k,T))(ht:mG σ j=true)(hk:aS k=true)(hl:T.length<=1000):(S.delT j ip a sp pos).ex Φ σ T=some ⟨.next,σ,fg T k⟩:=by refine(?_:((a.sm Φ).ev σ T).bind _=_);rw[h];refine(?_:aw (mG σ j&&(aS k&&Nat.ble T.length 1000)) _=_);rw[ht];rw[hk];rw[eJ hl];rfl
noncomputable def Fe:E:=((dQ.nth 1).e).elt
section
variable{od:PV}{lf:List PV}{ways:Option AV}{g:Nat->Option AV}{wd:Nat->Str}{R:MV}
noncomputable abbrev Dt(R:MV)(u t:Nat)(x y:Option AV):aF:=
 [some (.val .tab),none,none,none,none,none,aN u,none,none,none,none,none,none,none,none,none,none,none,none,aN t,x,y]
noncomputable abbrev Al(R:MV)(u:Nat)(x:Option AV):aF:=
 [some (.val .tab),none,none,some (.val (cG (aO R))),none,none,aN u,some (.val (nH R)),none,none,none,none,none,none,none,none,none,none,none,x,none,none]
theorem Gp(hR:TI R){u t:Nat}:(Fe.sm Φ1).ev (Al R u (aN t)) (aD wd R)=some (.list ((sX u t R).map (pO wd)),aD wd R):=by
 have hl:=hR.length;have c1:aA (R.map λp=>iN p.1)=true:=aM (λ_=>rfl) R;have c2:aA (R.map λp=>PV.str (aR p.1))=true:=aM (λ_=>rfl) R;refine kM rfl (ct (ps:=[cG (aO R),nH R]) rfl ?_) ?_ ?_ (xs:=R.map λp=>.tuple [iN p.1,.str (aR p.1)]) (T':=aD wd R)
 ·refine(?_:sh .zip [.list (aO R |>.map λm=>iN m),.list (R.map λp=>.str (aR p.1))]=_);rewrite[aO];rw[jR];exact vk (f:=λp=>iN p.1) (g:=λp=>.str (aR p.1)) c1 c2 hl
 ·simp;unfold cap;lia
 ·refine eZ (λp=>.tuple [iN p.1,.str (aR p.1)]) (λσ=>∃x y,σ=Dt R u t x y) (λp=>ai p.1 (2*u+t)) (pO wd) (L:=R) (λp hp σ ⟨x,y,e⟩=>?_) _ ⟨none,none,rfl⟩;subst e;have hg:=hR.goods p hp;have hk:=i9 (wd:=wd) hg (kZ hg) hR.goods;replace hk:=iE hR.nd (show(p.1,p.2)∈R from hp)▸hk;refine⟨Dt R u t (aN p.1) (some (.val (.str (aR p.1)))),rfl,⟨_,_,rfl⟩,?_,λ_=>⟨?_,rfl⟩⟩
  ·refine(?_:(((Fe.ifs).arg1).sm Φ1).evT (Dt R u t (aN p.1) (some (.val (.str (aR p.1))))) (aD wd R)=_);exact tu (p:=iN (p.1 >>> (2*u+t) &&& 1)) (aZ (q:=iN 1) (aZ (p:=iN p.1) (q:=iN (2*u+t)) rfl (aZ (p:=iN (2*u)) (q:=iN t) (aZ (p:=iN 2) (q:=iN u) rfl rfl (o8 u)) rfl (yc _ _)) (kO _ _)) rfl (gt _ _)) (ym _ _)
  ·refine jy (ps:=[iN p.1,ko (wd p.2)]) (aL rfl (aL ?_ ac)) (by show 2<=16777216;decide);have:=Br (Φ:=Φ1) (σ:=Dt R u t (aN p.1) (some (.val (.str (aR p.1))))) (T:=aD wd R) (a:=.meth (.var 21 ⟨230,43,230,47⟩) .lower ⟨0,0,0,0⟩ .nil ⟨0,0,0,0⟩) (b:=.cst (.str (sx "")) 0 ⟨0,0,0,0⟩) (j:=0) (x:=Txt.lower (aR p.1)) (d:=sx "") (np:=⟨0,0,0,0⟩) (ip:=⟨0,0,0,0⟩) (ap:=⟨0,0,0,0⟩) (bp:=⟨0,0,0,0⟩) (pos:=⟨0,0,0,0⟩)
    (ci (p:=.str (aR p.1)) (ps:=[]) rfl ac (by show aw (Nat.ble (aR p.1).length 5000) _=_;rw[(kh hg).2.2];rfl)) rfl rfl (kh hg).2.1 Dq (by simpa[aD]using hl)
   replace this:=hk▸this;exact this
theorem ET(hR:TI R){u:Nat}:(dQ.nth 1).ex Φ1 (kD od (cu wd) (cG (aO R)) lf (aN u) (some (.val (nH R))) ways g) (aD wd R)=
  some ⟨.next,kD od (cu wd) (cG (aO R)) lf (aN u) (some (.val (nH R))) (some (.val (jW wd (sX u 0 R) (sX u 1 R)))) g,aD wd R⟩:=by
 refine ik (p:=jW wd (sX u 0 R) (sX u 1 R)) (kM rfl (xs:=[.int 0,.int 1]) (T':=aD wd R) rfl (by show 2<=16777216;decide) ?_) ?_
 ·exact eZ (enc:=λt:Nat=>iN t) (P:=λσ=>∃x,σ=Al R u x) (c:=λ_=>true) (f:=λt=>.list ((sX u t R).map (pO wd))) (L:=[0,1]) (λt _ σ ⟨x,e⟩=>by subst e;exact⟨Al R u (aN t),rfl,⟨_,rfl⟩,rfl,λ_=>⟨Gp hR,aM (λ_=>rfl) _⟩⟩) _ ⟨none,rfl⟩
 ·refine(?_:(aA ((sX u 0 R).map (pO wd))&&(aA ((sX u 1 R).map (pO wd))&&true))=true);rewrite[aM (λ_=>rfl),aM (λ_=>rfl)];rfl
theorem BX(hR:TI R){u:Nat}{nms:Option AV}:(dQ.nth 0).ex Φ1 (kD od (cu wd) (cG (aO R)) lf (aN u) nms ways g) (aD wd R)=
  some ⟨.next,kD od (cu wd) (cG (aO R)) lf (aN u) (some (.val (nH R))) ways g,aD wd R⟩:=by
 refine ik (p:=nH R) (ci (p:=.tab) (ps:=[]) rfl ac ?_) (aM (λ_=>rfl) _);refine(?_:aw (Nat.ble (aD wd R).length 1000) (some (PV.list ((aD wd R).map λr=>.str r.1),aD wd R))=_);rw[eJ (by simpa[aD]using hR.length)];exact congrArg (λx=>some (PV.list x,aD wd R)) (by simp[aD])
noncomputable def ny(u:Nat)(R:MV)(m:Nat):MV:=bif m >>> (2*u) &&& 3==0 then R else R.filter λp=> !(m==p.1)
theorem TI.drop1{R:MV}{u m:Nat}(h:TI R):TI (Mine.ny u R m):=by
 unfold Mine.ny;cases m >>> (2*u) &&& 3==0 with
 |true=>exact h
 |false=>exact h.filter _
theorem GV{R0:MV}(h0:TI R0)(hR:TI R){u:Nat}:∃g',TI ((aO R0).foldl (ny u) R)/\(dQ.nth 3).ex Φ1 (kD od (cu wd) (cG (aO R0)) lf (aN u) (some (.val (nH R0))) ways g) (aD wd R)=
  some ⟨.next,kD od (cu wd) (cG (aO R0)) lf (aN u) (some (.val (nH R0))) ways g',aD wd ((aO R0).foldl (ny u) R)⟩:=by
 have c1:aA (R0.map λp=>iN p.1)=true:=aM (λ_=>rfl) R0;have c2:aA (R0.map λp=>PV.str (aR p.1))=true:=aM (λ_=>rfl) R0;obtain⟨σ',⟨hTI,g',rfl⟩,e⟩:=iO (tg:=(dQ.nth 3).tg) (body:=(dQ.nth 3).body.ex Φ1) (els:=S.nil.ex Φ1) (λp:Nat×Nat=>.tuple [iN p.1,.str (aR p.1)])
  (λR σ=>TI R/\∃g,σ=kD od (cu wd) (cG (aO R0)) lf (aN u) (some (.val (nH R0))) ways g) (aD wd) (λR p=>ny u R p.1) (λ_ _=>rfl) (L:=R0)
  (λp hp R σ ⟨hR,g,e⟩=>by
   subst e;have hg:=h0.goods p hp;refine⟨_,_,rfl,aE (T':=aD wd (ny u R p.1)) (σ':=kD od (cu wd) (cG (aO R0)) lf (aN u) (some (.val (nH R0))) ways (λi=>if i=8 then aN p.1 else if i=9 then some (.val (.str (aR p.1)))else g i)) (dK (t:= !(p.1 >>> (2*u) &&& 3==0)) (tu (p:=iN (p.1 >>> (2*u) &&& 3)) (aZ (q:=iN 3) (aZ (p:=iN p.1) (q:=iN (2*u)) rfl (aZ (p:=iN 2) (q:=iN u) rfl rfl (o8 u)) (kO _ _)) rfl (gt _ _)) (rz _)) ?_) rfl,hR.drop1,_,rfl⟩;unfold ny;cases hz:p.1 >>> (2*u) &&& 3==0 with
   |true=>rfl
   |false=>
    have:=Eg (Φ:=Φ1) (σ:=kD od (cu wd) (cG (aO R0)) lf (aN u) (some (.val (nH R0))) ways (λi=>if i=8 then aN p.1 else if i=9 then some (.val (.str (aR p.1)))else g i)) (T:=aD wd R) (a:=((dQ.nth 3).body.nth 0).body.nth 0 |>.e) (j:=0) (k:=Txt.lower (aR p.1)) (ip:=⟨0,0,0,0⟩) (sp:=⟨0,0,0,0⟩) (pos:=⟨0,0,0,0⟩)
     (ci (p:=.str (aR p.1)) (ps:=[]) rfl ac (by show aw (Nat.ble (aR p.1).length 5000) _=_;rw[(kh hg).2.2];rfl)) rfl (kh hg).2.1 (by simpa[aD]using hR.length)
    replace this:=px hg (kZ hg) hR.goods▸this;exact aE this rfl) R _ ⟨hR,g,rfl⟩
 refine⟨g',?_,?_⟩
 ·rewrite[aO];rw[List.foldl_map];exact hTI
 rewrite[aO];rw[List.foldl_map];refine gG (ct (ps:=[cG (aO R0),nH R0]) rfl ?_) e;refine(?_:sh .zip [.list (aO R0 |>.map λm=>iN m),.list (R0.map λp=>.str (aR p.1))]=_);rewrite[aO];rw[jR];exact vk (f:=λp=>iN p.1) (g:=λp=>.str (aR p.1)) c1 c2 h0.length
end
noncomputable def vF(u:Nat)(P N:MV)(R:MV):MV:=P.foldl (λR p=>N.foldl (λR q=>gX u p q R) R) R
noncomputable def cq(u:Nat)(R:MV):MV:=(aO R).foldl (ny u) (vF u (sX u 0 R) (sX u 1 R) R)
noncomputable def ar:List Nat->MV->MV×List (List Nat)
 |[],R=>(R,[])
 |u :: us,R=>((ar us (cq u R)).1,aO (cq u R) :: (ar us (cq u R)).2)
theorem si{R}:ar [] R=((R,[])):=rfl
theorem tM{u us R}:ar (u :: us) R=(((ar us (cq u R)).1,aO (cq u R) :: (ar us (cq u R)).2)):=rfl
section
variable{od:PV}{lf:List PV}{nms ways:Option AV}{g:Nat->Option AV}{wd:Nat->Str}{R:MV}
theorem dH{R:MV}(h:TI R){u t:Nat}:∀q∈sX u t R,q.1∈goods/\ai q.1 (2*u+t)=true/\q.2<16:=λq hq=>by refine cL (cf.mp hq) λh1 h2=>?_;exact⟨h.goods q h1,h2,h.vals q h1⟩
theorem xw{R:MV}(h:TI R){u t:Nat}:(sX u t R).length<=1000:=de (List.length_filter_le _ _) h.length
theorem EA(W:bX wd)(hR:TI R){u:Nat}(hu:u<4)(hlf:lf.length+1<=1000):∃g' nms' ways',TI (cq u R) /\
  dQ.ex Φ1 (kD od (cu wd) (cG (aO R)) lf (aN u) nms ways g) (aD wd R)=some ⟨.next,kD od (cu wd) (cG (aO (cq u R))) (lf++[cG (aO (cq u R))]) (aN u) nms' ways' g',aD wd (cq u R)⟩:=by
 refine aP (Bp (od:=od) (ms:=cG (aO R)) (lf:=lf) (nms:=some (.val (nH R))) W hu (P:=sX u 0 R) (N:=sX u 1 R) (dH hR) (dH hR) (xw hR) (xw hR) hR g) λg2 t2 e2=>?_;refine aP (GV (od:=od) (lf:=lf) (ways:=some (.val (jW wd (sX u 0 R) (sX u 1 R)))) (g:=g2) (wd:=wd) hR t2 (u:=u)) λg3 t3 e3=>?_;refine⟨g3,_,_,t3,aE (BX hR) (aE (ET hR) (aE e2 (aE e3 (aE (ik (p:=cG (aO (cq u R))) (T1:=aD wd (cq u R)) (fU (ps:=[.tab]) (aL rfl ac) rfl (vu (L:=aO (cq u R)) (λm hm=>?_) (rW _) ?_)) (aM (λ_=>rfl) _)) (aE (rY (p:=cG (aO (cq u R))) (xs:=lf) (T1:=aD wd (cq u R)) rfl rfl (aM (λ_=>rfl) _) (by show _<=16777216;lia)) rfl)))))⟩
 ·refine aP (cH.mp hm) λp hp q1q=>?_;subst q1q;exact t3.goods p hp
 ·simpa[aD]using t3.length
theorem yC(W:bX wd):∀(us:List Nat) {R:MV} {lf:List PV} {u0 nms ways:Option AV} {g:Nat->Option AV},TI R->(∀u∈us,u<4)->lf.length+us.length<=1000 ->
  ∃u' nms' ways' g',TI (ar us R).1/\cU (b9.nth 1).tg (dQ.ex Φ1) (S.nil.ex Φ1) (us.map iN) (kD od (cu wd) (cG (aO R)) lf u0 nms ways g) (aD wd R)=
   some ⟨.next,kD od (cu wd) (cG (aO (ar us R).1)) (lf++(ar us R).2.map cG) u' nms' ways' g',aD wd (ar us R).1⟩
 |[],R,lf,u0,nms,ways,g,hR,_,_=>⟨u0,nms,ways,g,hR,by simp[si,tM];rfl⟩
 |u :: us,R,lf,u0,nms,ways,g,hR,hu,hl=>by refine pJ (EA (od:=od) (nms:=nms) (ways:=ways) (g:=g) W hR (hu u bW) (lf:=lf) (by simp at hl;lia)) λg1 n1 w1 t1 e1=>?_;obtain⟨u2,n2,w2,g2,t2,e2⟩:=yC W us (lf:=lf++[cG (aO (cq u R))]) (u0:=aN u) (nms:=n1) (ways:=w1) (g:=g1) t1 (λv hv=>hu v (bZ _ hv)) (by simp at hl ⊢;lia);refine⟨u2,n2,w2,g2,t2,?_⟩;refine(?_:Option.bind (dQ.ex Φ1 (kD od (cu wd) (cG (aO R)) lf (aN u) nms ways g) (aD wd R)) _=_);rw[e1];refine(?_:cU (b9.nth 1).tg (dQ.ex Φ1) (S.nil.ex Φ1) (us.map iN) _ _=_);rw[e2];simp[si,tM]
theorem pC:∀L:List (List Nat),bd (L.map cG)=L.map cG
 |[]=>rfl
 |x :: L=>by rw[bh];rw[kY];rw[pC L];refine(?_:PV.list (bd (x.map λm=>iN m)) :: _=_);rewrite[jz (λ_=>rfl)];rfl
theorem uW(W:bX wd)(hR:TI R){us:List Nat}(hu:∀u∈us,u<4)(hl:us.length<=100):Φ2 .resolved [.tab,.list (us.map iN),cu wd] (aD wd R)=some (.list ((ar us R).2.map cG),aD wd (ar us R).1):=by
 obtain⟨u',n',w',g',t',e⟩:=yC (od:=.list (us.map iN)) W us (lf:=[]) (u0:=none) (nms:=none) (ways:=none) (g:=λ_=>none) hR hu (by simp;lia);have c1:clean (PV.list (us.map iN))=true:=aM (λ_=>rfl) us;have b:aq (List.replicate 22 none) ([0,1,2].map λi=>(i,⟨0,0,0,0⟩)) [.tab,.list (us.map iN),cu wd]=some [some (.val .tab),some (.val (.list (us.map iN))),some (.val (cu wd)),none,none,none,none,none,none,none,none,none,none,none,none,none,none,none,none,none,none,none]:=by refine(?_:aw true (aw (clean (PV.list (us.map iN))) (aw (clean (cu wd)) (some _)))=_);rw[c1];rw[W.cl];rfl
 have e0:(b9.nth 0).ex Φ1 [some (.val .tab),some (.val (.list (us.map iN))),some (.val (cu wd)),none,none,none,none,none,none,none,none,none,none,none,none,none,none,none,none,none,none,none] (aD wd R)=
   some ⟨.next,kD (.list (us.map iN)) (cu wd) (cG (aO R)) [] none none none (λ_=>none),aD wd R⟩:=by
  refine jA (ps:=[cG (aO R),.list [],uC]) (aL (fU (ps:=[.tab]) (aL rfl ac) rfl (vu (L:=aO R) (λm hm=>?_) (rW _) ?_)) rfl) rfl (by show 3<=16777216;decide) ?_
  ·refine aP (cH.mp hm) λp hp q1q=>?_;subst q1q;exact hR.goods p hp
  ·simpa[aD]using hR.length
  ·refine(?_:aw (clean (cG (aO R))) _=_);rw[show clean (cG (aO R))=true from aM (λ_=>rfl) _];rfl
 have body:b9.ex Φ1 [some (.val .tab),some (.val (.list (us.map iN))),some (.val (cu wd)),none,none,none,none,none,none,none,none,none,none,none,none,none,none,none,none,none,none,none] (aD wd R)=
   some ⟨.ret (.view ((ar us R).2.map cG)),kD (.list (us.map iN)) (cu wd) (cG (aO (ar us R).1)) ([]++(ar us R).2.map cG) u' n' w' g',aD wd (ar us R).1⟩:=by
  refine aE e0 (aE (gG (sJ (xs:=us.map iN) rfl (aM (λ_=>rfl) us) (by simp;unfold cap;lia)) e) (i5 ?_));rw[List.nil_append ..];rfl
 refine(?_:(aq (List.replicate 22 none) ([0,1,2].map λi=>(i,⟨0,0,0,0⟩)) [.tab,.list (us.map iN),cu wd]).bind _=_);rw[b];refine(?_:(b9.ex Φ1 _ _).bind _=_);rw[body];refine(?_:some (PV.list (bd ((ar us R).2.map cG)),_)=_);rw[pC ..];rfl
end
noncomputable def tA(r:Nat):Nat:=(2-(r >>> 0 &&& 1))+4*(2-(r >>> 1 &&& 1))+16*(2-(r >>> 2 &&& 1))+64*(2-(r >>> 3 &&& 1))
noncomputable def eI(m r:Nat):Bool:=m &&& tA r==0
noncomputable def ix(m u:Nat):Bool:=m >>> (2*u) &&& 3==0
noncomputable def tv(v r:Nat):Bool:=v >>> (2*(r >>> 1 &&& 1)+(r >>> 2 &&& 1)) &&& 1==1
noncomputable def cg(u r:Nat):Nat:=r ^^^ 2 ^ u
theorem Fv(x y r:Nat):eI (x ||| y) r=(eI x r&&eI y r):=by
 unfold eI;rw[Nat.and_or_distrib_right ..];have key:∀a b:Nat,(a ||| b==0)=(a==0&&b==0):=λa b=>by rewrite[Bool.eq_iff_iff];simp only[beq_iff_eq,cC];exact⟨λh=>⟨Nat.le_zero.mp (h▸Nat.left_le_or),Nat.le_zero.mp (h▸Nat.right_le_or)⟩,λ⟨h1,h2⟩=>by rw[h1];rw[h2];rfl⟩
 exact key _ _
theorem sj:((List.range 4).all λu=>goods.all λa=>(List.range 16).all λr=>
  (!ai a (2*u)||(eI a r==(eI (a-4 ^ u) r && !(ai r u))&&(eI (a-4 ^ u) r==eI (a-4 ^ u) (cg u r)))) &&
  ((!ai a (2*u+1)||(eI a r==(eI (a-2*4 ^ u) r&&ai r u)&&(eI (a-2*4 ^ u) r==eI (a-2*4 ^ u) (cg u r)))) &&
  ((!ix a u||eI a r==eI a (cg u r))&&(ix a u||(ai a (2*u)||ai a (2*u+1))))))=true:=by decide +kernel
theorem ao{u a r:Nat}(hu:u<4)(ha:a∈goods)(hr:r<16):
  (ai a (2*u)=true->eI a r=(eI (a-4 ^ u) r && !(ai r u))/\eI (a-4 ^ u) r=eI (a-4 ^ u) (cg u r)) /\
  (ai a (2*u+1)=true->eI a r=(eI (a-2*4 ^ u) r&&ai r u)/\eI (a-2*4 ^ u) r=eI (a-2*4 ^ u) (cg u r)) /\
  (ix a u=true->eI a r=eI a (cg u r))/\(ix a u=false->ai a (2*u)=true\/ai a (2*u+1)=true):=by
 have h:=sj;simp only[bD]at h;have:=h u (bS.mpr hu) a ha r (bS.mpr hr);simp only[cC,Bool.or_eq_true,kJ,beq_iff_eq]at this;refine kH this ?_;clear this;intro h1 h2 h3 h4;refine⟨λe=>h1.elim (λz=>by replace z:=e▸z;exact tF z) id,λe=>h2.elim (λz=>by replace z:=e▸z;exact tF z) id,λe=>h3.elim (λz=>by replace z:=e▸z;exact tF z) id,λe=>h4.elim (λz=>by replace z:=e▸z;exact fT z) id⟩
theorem xd:((List.range 4).all λu=>(List.range 16).all λr=>Nat.blt (cg u r) 16&&(cg u (cg u r)==r&&(ai (cg u r) u== !(ai r u))))=true:=by decide +kernel
theorem ke{u r:Nat}(hu:u<4)(hr:r<16):cg u r<16/\cg u (cg u r)=r/\ai (cg u r) u= !(ai r u):=by have h:=xd;simp only[bD]at h;have:=h u (bS.mpr hu) r (bS.mpr hr);simpa[Nat.blt_eq]using this
theorem xc:((List.range 256).all λm=>(List.range 16).all λr=> !eI m r||good m)=true:=by decide +kernel
theorem Cg{m r:Nat}(hm:m<256)(hr:r<16)(h:eI m r=true):good m=true:=by have h0:=xc;simp only[bD]at h0;have:=h0 m (bS.mpr hm) r (bS.mpr hr);simpa[h]using this
theorem wu:((List.range 4).all λu=>(goods.filter λa=>ai a (2*u)).all λa=>(goods.filter λb=>ai b (2*u+1)).all λb=>
  ix (newOf u a b) u&&(List.range 4).all λw=> !(ix a w&&ix b w)||ix (newOf u a b) w)=true:=by decide +kernel
theorem m0{u a b:Nat}(hu:u<4)(ha:a∈goods)(hb:b∈goods)(h1:ai a (2*u)=true)(h2:ai b (2*u+1)=true):ix (newOf u a b) u=true/\∀w<4,ix a w=true->ix b w=true->ix (newOf u a b) w=true:=by
 have h:=wu;simp only[bD]at h;have:=h u (bS.mpr hu) a (cf.mpr ⟨ha,h1⟩) b (cf.mpr ⟨hb,h2⟩);simp only[cC,bD,Bool.or_eq_true,kJ,Bool.and_eq_false_iff]at this;refine⟨this.1,λw hw e1 e2=>?_⟩;rcases this.2 w (bS.mpr hw)with h|h
 ·rcases h with h|h
  ·replace h:=e1▸h;exact tF h
  ·replace h:=e2▸h;exact tF h
 ·exact h
theorem wJ:(goods.all λm=> !(ix m 0&&(ix m 1&&(ix m 2&&ix m 3)))||m==0)=true:=by decide +kernel
theorem zn{m:Nat}(h:m∈goods)(hl:∀u<4,ix m u=true):m=0:=by have h0:=wJ;simp only[bD]at h0;have:=h0 m h;simpa[hl 0 (by decide),hl 1 (by decide),hl 2 (by decide),hl 3 (by decide)]using this
theorem Aa:((List.range 16).all λv=>(List.range 16).all λw=>(List.range 16).all λr=>
  (tv (bO 0 v w) r==(tv v r||tv w r))&&((tv (bO 3 v w) r==(tv v r&&tv w r))&&((tv (bO 1 v w) r==bif ai r 1 then tv w r else tv v r)&&(tv (bO 2 v w) r==bif ai r 2 then tv w r else tv v r))))=true:=by decide +kernel
theorem Ef{v w r:Nat}(hv:v<16)(hw:w<16)(hr:r<16):tv (bO 0 v w) r=(tv v r||tv w r)/\tv (bO 3 v w) r=(tv v r&&tv w r)/\tv (bO 1 v w) r=(bif ai r 1 then tv w r else tv v r)/\tv (bO 2 v w) r=(bif ai r 2 then tv w r else tv v r):=by have h:=Aa;simp only[bD]at h;have:=h v (bS.mpr hv) w (bS.mpr hw) r (bS.mpr hr);simpa only[cC,beq_iff_eq]using this
theorem DU:((List.range 16).all λv=>(List.range 16).all λr=>(tv v (cg 0 r)==tv v r)&&(tv v (cg 3 r)==tv v r))=true:=by decide +kernel
theorem ly{v r:Nat}(hv:v<16)(hr:r<16):tv v (cg 0 r)=tv v r/\tv v (cg 3 r)=tv v r:=by have h:=DU;simp only[bD]at h;have:=h v (bS.mpr hv) r (bS.mpr hr);simpa only[cC,beq_iff_eq]using this
theorem jq{R:MV}{m v:Nat}{x:Nat×Nat}(h:x∈R):x∈me R m v:=by
 unfold me;cases R.lookup m with
 |some u=>exact h
 |none=>exact List.mem_append_left _ h
theorem td(R:MV)(m v:Nat):m∈aO (me R m v):=by
 unfold me;cases e:R.lookup m with
 |some u=>exact dJ (f:=(·.1)) (gR e)
 |none=>simp[aO]
theorem rT{R:MV}{m v:Nat}{x:Nat×Nat}(h:x∈me R m v):x∈R\/x=(m,v):=by
 unfold me at h;cases e:R.lookup m with
 |some u=>replace h:=e▸h;exact .inl h
 |none=>replace h:=e▸h;exact(jU.mp h).imp id λh=>ju.mp h
theorem kL{R:MV}{u:Nat}{p q x:Nat×Nat}(h:x∈R):x∈gX u p q R:=by
 unfold gX;cases good (newOf u p.1 q.1)with
 |true=>exact jq h
 |false=>exact h
theorem gA{α:Type}{f:MV->α->MV}{x:Nat×Nat}(hf:∀R a,x∈R->x∈f R a):∀(L:List α) {R:MV},x∈R->x∈L.foldl f R
 |[],_,h=>h
 |a :: L,R,h=>gA hf L (hf R a h)
noncomputable def ze(u:Nat)(P N R:MV)(x:Nat×Nat):Prop:=x∈R\/∃p∈P,∃q∈N,good (newOf u p.1 q.1)=true/\x=(newOf u p.1 q.1,bO u p.2 q.2)
theorem xZ{u:Nat}{P N R:MV}{x:Nat×Nat}(h:x∈vF u P N R):ze u P N R x:=by
 have inner:∀(M:MV) (R':MV) (p:Nat×Nat),p∈P->(∀q∈M,q∈N)->(∀x∈R',ze u P N R x)->∀x∈M.foldl (λR q=>gX u p q R) R',ze u P N R x:=by
  intro M
  induction M with
  |nil=>intro R' p _ _ hR x hx;exact hR x hx
  |cons q M ih=>
   intro R' p hp hM hR x hx;refine ih (gX u p q R') p hp (λq' hq'=>hM q' (bZ _ hq')) (λy hy=>?_) x hx;unfold gX at hy;cases e:good (newOf u p.1 q.1)with
   |false=>replace hy:=e▸hy;exact hR y hy
   |true=>
    replace hy:=e▸hy;rcases rT hy with hy|rfl
    ·exact hR y hy
    ·exact .inr ⟨p,hp,q,hM q bW,e,rfl⟩
 have outer:∀(L:MV) (R':MV),(∀p∈L,p∈P)->(∀x∈R',ze u P N R x)->∀x∈L.foldl (λR p=>N.foldl (λR q=>gX u p q R) R) R',ze u P N R x:=by
  intro L
  induction L with
  |nil=>intro R' _ hR x hx;exact hR x hx
  |cons p L ih=>intro R' hL hR x hx;exact ih _ (λq hq=>hL q (bZ _ hq)) (inner N R' p (hL p bW) (λ_ h=>h) hR) x hx
 exact outer P R (λ_ h=>h) (λx hx=>.inl hx) x h
theorem xM{u:Nat}{P N R:MV}{x:Nat×Nat}(h:x∈R):x∈vF u P N R:=
 gA (λR p hx=>gA (λR q hx=>kL hx) N hx) P h
theorem r8{α:Type}{f:MV->α->MV}{m:Nat}(hf:∀R a x,x∈R->x∈f R a)(L:List α){R:MV}(h:m∈aO R):m∈aO (L.foldl f R):=by refine aP (cH.mp h) λx hx q1q=>?_;subst q1q;exact dJ (f:=(·.1)) (gA (λR a h=>hf R a x h) L hx)
theorem zt{u:Nat}{P N R:MV}{p q:Nat×Nat}(hp:p∈P)(hq:q∈N)(hg:good (newOf u p.1 q.1)=true):newOf u p.1 q.1∈aO (vF u P N R):=by
 have m1:∀(R:MV) (q x:Nat×Nat) (p:Nat×Nat),x∈R->x∈gX u p q R:=λR q x p h=>kL h;have inner:∀(M R:MV),q∈M->newOf u p.1 q.1∈aO (M.foldl (λR q=>gX u p q R) R):=by
  intro M
  induction M with
  |nil=>intro R h;cases h
  |cons y M ih=>
   intro R h;rcases ah.mp h with rfl|h
   ·refine r8 (λR q x hx=>kL hx) M ?_;refine(?_:newOf u p.1 q.1∈aO (gX u p q R));unfold gX;rw[hg];exact td _ _ _
   ·exact ih _ h
 have outer:∀(L R:MV),p∈L->newOf u p.1 q.1∈aO (L.foldl (λR p=>N.foldl (λR q=>gX u p q R) R) R):=by
  intro L
  induction L with
  |nil=>intro R h;cases h
  |cons y L ih=>
   intro R h;rcases ah.mp h with rfl|h
   ·exact r8 (λR p x hx=>gA (λR q h=>kL h) N hx) L (inner N R hq)
   ·exact ih _ h
 exact outer P R hp
theorem kN{u:Nat}{x:Nat×Nat}:∀{L:List Nat} {R:MV},x∈L.foldl (ny u) R↔x∈R/\∀m∈L,ix m u=false->x.1≠m
 |[],R=>⟨λh=>⟨h,λm hm=>nomatch hm⟩,λh=>h.1⟩
 |m :: L,R=>by
  rw[List.foldl_cons];rewrite[kN];unfold ny;have e:(m >>> (2*u) &&& 3==0)=ix m u:=rfl;rw[e];cases h:ix m u with
  |true=>
   refine⟨λ⟨a,b⟩=>⟨a,λy hy z=>?_⟩,λ⟨a,b⟩=>⟨a,λy hy=>b y (bZ _ hy)⟩⟩;rcases ah.mp hy with rfl|hy
   ·replace z:=h▸z;exact tF z
   ·exact b y hy z
  |false=>
   rw[cond_false ..];rewrite[cf];simp only[kJ,beq_eq_false_iff_ne,ne_eq];refine⟨λ⟨⟨a,c⟩,b⟩=>⟨a,λy hy z=>?_⟩,λ⟨a,b⟩=>⟨⟨a,λq=>b m bW h q.symm⟩,λy hy=>b y (bZ _ hy)⟩⟩;rcases ah.mp hy with rfl|hy
   ·exact λq=>c q.symm
   ·exact b y hy z
theorem mO{u:Nat}(hu:u<4){R:MV}(h:TI R){x:Nat×Nat}(hx:x∈cq u R):ix x.1 u=true/\ze u (sX u 0 R) (sX u 1 R) R x:=by
 refine cL (kN.mp hx) λh1 h2=>?_;have fr:=xZ h1;refine⟨?_,fr⟩;rcases fr with hr|⟨p,hp,q,hq,_,rfl⟩
 ·cases e:ix x.1 u with
  |true=>rfl
  |false=>exact absurd rfl (h2 x.1 (dJ (f:=(·.1)) hr) e)
 ·have p1:=dH h p hp;have q1:=dH h q hq;exact(m0 hu p1.1 q1.1 p1.2.1 q1.2.1).1
theorem vl{u:Nat}{R:MV}{x:Nat×Nat}(hx:x∈R)(hn:ix x.1 u=true):x∈cq u R:=
 kN.mpr ⟨xM hx,λm _ z q=>by replace z:=q.symm▸z;replace z:=hn▸z;exact tF z⟩
theorem Ab{u:Nat}(hu:u<4){R:MV}(h:TI R){p q:Nat×Nat}(hp:p∈R)(hq:q∈R)(h1:ai p.1 (2*u)=true)(h2:ai q.1 (2*u+1)=true)(hg:good (newOf u p.1 q.1)=true):newOf u p.1 q.1∈aO (cq u R):=by have hk:newOf u p.1 q.1∈aO (vF u (sX u 0 R) (sX u 1 R) R):=zt (cf.mpr ⟨hp,h1⟩) (cf.mpr ⟨hq,h2⟩) hg;refine aP (cH.mp hk) λx hx e=>?_;refine cH.mpr ⟨x,kN.mpr ⟨hx,λm _ z qq=>?_⟩,e⟩;have:=(m0 hu (h.goods p hp) (h.goods q hq) h1 h2).1;replace this:=e.symm▸this;replace this:=qq▸this;replace this:=z▸this;exact fT this
noncomputable def jc(L:List Nat)(r:Nat):Bool:=L.all λm=> !eI m r
theorem oO{L:List Nat}{r:Nat}(h:jc L r=false):∃m∈L,eI m r=true:=by unfold jc at h;rewrite[List.all_eq_false]at h;refine aP h ?_;clear h;intro m hm e;exact⟨m,hm,by simpa using e⟩
theorem i8{L:List Nat}{r m:Nat}(hm:m∈L)(h:eI m r=true):jc L r=false:=by unfold jc;rewrite[List.all_eq_false];exact⟨m,hm,by simp[h]⟩
theorem rN{u a r:Nat}(hu:u<4)(ha:a∈goods)(hr:r<16)(h:eI a r=true):ix a u=true\/(ix a u=false/\((ai r u=false/\ai a (2*u)=true/\eI (a-4 ^ u) r=true)\/(ai r u=true/\ai a (2*u+1)=true/\eI (a-2*4 ^ u) r=true))):=by
 refine kH (ao hu ha hr) λf1 f2 f3 f4=>?_;cases e:ix a u with
 |true=>exact .inl rfl
 |false=>
  refine .inr ⟨rfl,?_⟩;rcases f4 e with b|b
  ·have:=(f1 b).1;replace this:=h▸this;have:=eA.mp this.symm;exact .inl ⟨by simpa using this.2,b,this.1⟩
  ·have:=(f2 b).1;replace this:=h▸this;have:=eA.mp this.symm;exact .inr ⟨this.2,b,this.1⟩
theorem oU{u a b r:Nat}(hu:u<4)(ha:a∈goods)(hb:b∈goods)(h1:ai a (2*u)=true)(h2:ai b (2*u+1)=true):eI (newOf u a b) r=(eI (a-4 ^ u) r&&eI (b-2*4 ^ u) r):=by rw[(l8 hu ha hb h1 h2).2.2];rw[Fv ..];rfl
theorem CE{u:Nat}(hu:u<4){R:MV}(h:TI R){r:Nat}(hr:r<16):jc (aO (cq u R)) r=(jc (aO R) r||jc (aO R) (cg u r)):=by
 refine km (ke hu hr) λhr' hff hbit=>?_;have gk:∀m∈aO R,m∈goods/\∃x∈R,x.1=m:=λm hm=>by refine aP (cH.mp hm) λx hx e=>?_;exact⟨e▸h.goods x hx,x,hx,e⟩
 cases e1:jc (aO R) r with
 |true=>
  rw[Bool.true_or ..];cases e2:jc (aO (cq u R)) r with
  |true=>rfl
  |false=>
   exfalso;refine aP (oO e2) λm hm f=>?_;refine aP (cH.mp hm) λx hx q1q=>?_;subst q1q;refine cL (mO hu h hx) λ_ hf=>?_;rcases hf with hf|⟨p,hp,q,hq,hg,rfl⟩
   ·rewrite[i8 (dJ (f:=(·.1)) hf) f]at e1;exact fT e1
   ·have p1:=dH h p hp;have q1:=dH h q hq;replace f:=oU hu p1.1 q1.1 p1.2.1 q1.2.1▸f;rewrite[eA]at f;have pf:=((ao hu p1.1 hr).1 p1.2.1).1;have qf:=((ao hu q1.1 hr).2.1 q1.2.1).1;cases b:ai r u with
    |false=>replace pf:=f.1▸pf;replace pf:=b▸pf;rewrite[i8 (dJ (f:=(·.1)) (cf.mp hp).1) pf]at e1;exact fT e1
    |true=>replace qf:=f.2▸qf;replace qf:=b▸qf;rewrite[i8 (dJ (f:=(·.1)) (cf.mp hq).1) qf]at e1;exact fT e1
 |false=>
  rw[Bool.false_or ..];refine aP (oO e1) λm1 hm1 f1=>?_;obtain⟨g1,x1,hx1,rfl⟩:=gk m1 hm1;cases e3:jc (aO R) (cg u r)with
  |true=>
   cases e2:jc (aO (cq u R)) r with
   |true=>rfl
   |false=>
    exfalso;refine aP (oO e2) λm hm f=>?_;refine aP (cH.mp hm) λx hx q1q=>?_;subst q1q;refine cL (mO hu h hx) λhn hf=>?_;rcases hf with hf|⟨p,hp,q,hq,hg,rfl⟩
    ·have:=(ao hu (h.goods x hf) hr).2.2.1 hn;replace this:=f▸this;rewrite[i8 (dJ (f:=(·.1)) hf) this.symm]at e3;exact fT e3
    ·have p1:=dH h p hp;have q1:=dH h q hq;replace f:=oU hu p1.1 q1.1 p1.2.1 q1.2.1▸f;rewrite[eA]at f;have pf:=((ao hu p1.1 hr').1 p1.2.1).1;have qf:=((ao hu q1.1 hr').2.1 q1.2.1).1;have pe:=((ao hu p1.1 hr).1 p1.2.1).2;have qe:=((ao hu q1.1 hr).2.1 q1.2.1).2;replace pf:=pe.symm▸pf;replace pf:=f.1▸pf;replace pf:=hbit▸pf;replace qf:=qe.symm▸qf;replace qf:=f.2▸qf;replace qf:=hbit▸qf;cases b:ai r u with
     |false=>replace qf:=b▸qf;rewrite[i8 (dJ (f:=(·.1)) (cf.mp hq).1) qf]at e3;exact fT e3
     |true=>replace pf:=b▸pf;rewrite[i8 (dJ (f:=(·.1)) (cf.mp hp).1) pf]at e3;exact fT e3
  |false=>
   refine aP (oO e3) λm2 hm2 f2=>?_;obtain⟨g2,x2,hx2,rfl⟩:=gk m2 hm2;have done:∀m,m∈aO (cq u R)->eI m r=true->jc (aO (cq u R)) r=false:=λm hm f=>i8 hm f;rcases rN hu g1 hr f1 with n1|⟨_,c1⟩
   ·exact done _ (dJ (f:=(·.1)) (vl hx1 n1)) f1
   rcases rN hu g2 hr' f2 with n2|⟨_,c2⟩
   ·have:=(ao hu g2 hr).2.2.1 n2;replace this:=f2▸this;exact done _ (dJ (f:=(·.1)) (vl hx2 n2)) this
   have new:∀{p q:Nat×Nat},p∈R->q∈R->ai p.1 (2*u)=true->ai q.1 (2*u+1)=true->eI (p.1-4 ^ u) r=true->eI (q.1-2*4 ^ u) r=true->jc (aO (cq u R)) r=false:=λ{p q} hp hq b1 b2 k1 k2=>by
    have ff:eI (newOf u p.1 q.1) r=true:=by rw[oU hu (h.goods p hp) (h.goods q hq) b1 b2];rw[k1];rw[k2];rfl
    exact done _ (Ab hu h hp hq b1 b2 (Cg (l8 hu (h.goods p hp) (h.goods q hq) b1 b2).2.1 hr ff)) ff
   rcases c1 with⟨b1,a1,k1⟩|⟨b1,a1,k1⟩
   ·rcases c2 with⟨b2,_,_⟩|⟨b2,a2,k2⟩
    ·replace b2:=hbit▸b2;replace b2:=b1▸b2;exact tF b2
    ·replace k2:=(Eq.symm (((ao hu g2 hr).2.1 a2).2))▸k2;exact new hx1 hx2 a1 a2 k1 k2
   ·rcases c2 with⟨b2,a2,k2⟩|⟨b2,_,_⟩
    ·replace k2:=(Eq.symm (((ao hu g2 hr).1 a2).2))▸k2;exact new hx2 hx1 a2 a1 k2 k1
    ·replace b2:=hbit▸b2;replace b2:=b1▸b2;exact fT b2
theorem ki{α β:Type}{f:β->α->β}{J:β->Prop}:∀{L:List α},(∀b,∀a∈L,J b->J (f b a))->∀b,J b->J (L.foldl f b)
 |[],_,b,h=>h
 |a :: L,hf,b,h=>ki (L:=L) (λb a ha=>hf b a (bZ _ ha)) (f b a) (hf b a bW h)
theorem TI.elim{u:Nat}(hu:u<4){R:MV}(h:TI R):TI (Mine.cq u R):=by refine ki (J:=TI) (λR m _ hR=>hR.drop1) _ (ki (J:=TI) (λR' p hp hR=>ki (J:=TI) (λR'' q hq hR=>?_) _ hR) _ h);have p1:=dH h p hp;have q1:=dH h q hq;exact hR.lay1 hu p1.1 q1.1 p1.2.1 q1.2.1 p1.2.2 q1.2.2
theorem vH{u w:Nat}(hu:u<4)(hw:w<4){R:MV}(h:TI R)(hn:w=u\/∀x∈R,ix x.1 w=true):∀x∈cq u R,ix x.1 w=true:=λx hx=>by
 refine cL (mO hu h hx) λh1 hf=>?_;rcases hn with rfl|hn
 ·exact h1
 ·rcases hf with hf|⟨p,hp,q,hq,_,rfl⟩
  ·exact hn x hf
  ·have p1:=dH h p hp;have q1:=dH h q hq;exact(m0 hu p1.1 q1.1 p1.2.1 q1.2.1).2 w hw (hn p (cf.mp hp).1) (hn q (cf.mp hq).1)
noncomputable def vy(A B:List Nat)(R:MV):Prop:=∀x∈R,∀r<16,eI x.1 r=true->(tv x.2 r=false->∃a∈A,eI a r=true)/\(tv x.2 r=true->∃b∈B,eI b r=true)
theorem wn{A B:List Nat}(hA:∀a∈A,a∈goods/\ix a 3=true)(hB:∀b∈B,b∈goods/\ix b 0=true){u:Nat}(hu:u<4){R:MV}(h:TI R)(c:vy A B R):vy A B (cq u R):=by
 intro x hx r hr f;refine cL (mO hu h hx) λ_ hf=>?_;rcases hf with hf|⟨p,hp,q,hq,hg,rfl⟩
 ·exact c x hf r hr f
 have p1:=dH h p hp;have q1:=dH h q hq;have pR:=(cf.mp hp).1;have qR:=(cf.mp hq).1;refine km (ke hu hr) λhr' hff hbit=>?_;change eI (newOf u p.1 q.1) r=true at f;replace f:=oU hu p1.1 q1.1 p1.2.1 q1.2.1▸f;rewrite[eA]at f;have pf:=((ao hu p1.1 hr).1 p1.2.1).1;have qf:=((ao hu q1.1 hr).2.1 q1.2.1).1;have pf':=((ao hu p1.1 hr').1 p1.2.1).1;have qf':=((ao hu q1.1 hr').2.1 q1.2.1).1;have pe:=((ao hu p1.1 hr).1 p1.2.1).2;have qe:=((ao hu q1.1 hr).2.1 q1.2.1).2;replace pf:=f.1▸pf;replace pf:=(Bool.true_and ..)▸pf;replace qf:=f.2▸qf;replace qf:=(Bool.true_and ..)▸qf;replace pf':=pe.symm▸pf';replace pf':=f.1▸pf';replace pf':=hbit▸pf';replace pf':=(Bool.true_and ..)▸pf';replace pf':=(Bool.not_not ..)▸pf';replace qf':=qe.symm▸qf';replace qf':=f.2▸qf';replace qf':=hbit▸qf';replace qf':=(Bool.true_and ..)▸qf';have tf:=Ef (v:=p.2) (w:=q.2) p1.2.2 q1.2.2 hr;refine(?_:(tv (bO u p.2 q.2) r=false->_)/\(tv (bO u p.2 q.2) r=true->_));rcases l4 (by assumption:u<4)with z|z|z|z
 ·rw[z];rw[tf.1];have bk:∀b∈B,eI b (cg u r)=true->eI b r=true:=λb hb e=>by have:=(ao hu (hB b hb).1 hr).2.2.1 (z▸(hB b hb).2);rw[this];exact e
  have tp:tv p.2 (cg u r)=tv p.2 r:=by rw[z];exact(ly p1.2.2 hr).1
  have tq:tv q.2 (cg u r)=tv q.2 r:=by rw[z];exact(ly q1.2.2 hr).1
  refine⟨λe=>?_,λe=>?_⟩
  ·rewrite[Bool.or_eq_false_iff]at e;cases b:ai r u with
   |false=>replace pf:=b▸pf;exact(c p pR r hr pf).1 e.1
   |true=>replace qf:=b▸qf;exact(c q qR r hr qf).1 e.2
  ·replace e:=(Bool.or_eq_true ..)▸e;rcases e with e|e
   ·cases b:ai r u with
    |false=>replace pf:=b▸pf;exact(c p pR r hr pf).2 e
    |true=>replace pf':=b▸pf';refine aP ((c p pR _ hr' pf').2 (tp.trans e)) λy hy ey=>?_;exact⟨y,hy,bk y hy ey⟩
   ·cases b:ai r u with
    |true=>replace qf:=b▸qf;exact(c q qR r hr qf).2 e
    |false=>replace qf':=b▸qf';refine aP ((c q qR _ hr' qf').2 (tq.trans e)) λy hy ey=>?_;exact⟨y,hy,bk y hy ey⟩
 ·rw[z];rw[tf.2.2.1];rw[show ai r 1=ai r u by rw[z];rfl];cases b:ai r u with
  |false=>replace pf:=b▸pf;exact c p pR r hr pf
  |true=>replace qf:=b▸qf;exact c q qR r hr qf
 ·rw[z];rw[tf.2.2.2];rw[show ai r 2=ai r u by rw[z];rfl];cases b:ai r u with
  |false=>replace pf:=b▸pf;exact c p pR r hr pf
  |true=>replace qf:=b▸qf;exact c q qR r hr qf
 ·rw[z];rw[tf.2.1];have bk:∀a∈A,eI a (cg u r)=true->eI a r=true:=λa ha e=>by have:=(ao hu (hA a ha).1 hr).2.2.1 (z▸(hA a ha).2);rw[this];exact e
  have tp:tv p.2 (cg u r)=tv p.2 r:=by rw[z];exact(ly p1.2.2 hr).2
  have tq:tv q.2 (cg u r)=tv q.2 r:=by rw[z];exact(ly q1.2.2 hr).2
  refine⟨λe=>?_,λe=>?_⟩
  ·rewrite[Bool.and_eq_false_iff]at e;rcases e with e|e
   ·cases b:ai r u with
    |false=>replace pf:=b▸pf;exact(c p pR r hr pf).1 e
    |true=>replace pf':=b▸pf';refine aP ((c p pR _ hr' pf').1 (tp.trans e)) λy hy ey=>?_;exact⟨y,hy,bk y hy ey⟩
   ·cases b:ai r u with
    |true=>replace qf:=b▸qf;exact(c q qR r hr qf).1 e
    |false=>replace qf':=b▸qf';refine aP ((c q qR _ hr' qf').1 (tq.trans e)) λy hy ey=>?_;exact⟨y,hy,bk y hy ey⟩
  ·replace e:=(cC ..)▸e;cases b:ai r u with
   |false=>replace pf:=b▸pf;exact(c p pR r hr pf).2 e.1
   |true=>replace qf:=b▸qf;exact(c q qR r hr qf).2 e.2
noncomputable def Fo:List Nat->(Nat->Bool)->List (Nat->Bool)
 |[],_=>[]
 |u :: us,al=>(λr=>al r||al (cg u r)) :: Fo us (λr=>al r||al (cg u r))
theorem o7:∀{us:List Nat} {R:MV},(∀u∈us,u<4)->TI R->TI (ar us R).1
 |[],R,_,h=>h
 |u :: us,R,hu,h=>o7 (us:=us) (λv hv=>hu v (bZ _ hv)) (h.elim (hu u bW))
theorem sL:∀(us:List Nat) (R:MV),(ar us R).2.length=us.length
 |[],_=>rfl
 |u :: us,R=>by simp[si,tM,sL us]
theorem oF{A B:List Nat}(hA:∀a∈A,a∈goods/\ix a 3=true)(hB:∀b∈B,b∈goods/\ix b 0=true):∀{us:List Nat} {R:MV},(∀u∈us,u<4)->TI R->vy A B R->vy A B (ar us R).1
 |[],R,_,_,c=>c
 |u :: us,R,hu,h,c=>oF hA hB (us:=us) (λv hv=>hu v (bZ _ hv)) (h.elim (hu u bW)) (wn hA hB (hu u bW) h c)
theorem rZ:∀{us:List Nat} {R:MV} {w:Nat},(∀u∈us,u<4)->w<4->TI R->(w∈us\/∀x∈R,ix x.1 w=true)->∀x∈(ar us R).1,ix x.1 w=true
 |[],R,w,_,_,_,hn=>hn.elim (λq=>nomatch q) id
 |u :: us,R,w,hu,hw,h,hn=>by
  refine rZ (us:=us) (λv hv=>hu v (bZ _ hv)) hw (h.elim (hu u bW)) ?_;rcases hn with hn|hn
  ·rcases ah.mp hn with rfl|hn
   ·exact .inr (vH (hu w bW) hw h (.inl rfl))
   ·exact .inl hn
  ·exact .inr (vH (hu u bW) hw h (.inr hn))
theorem yw{us:List Nat}{R:MV}(hu:∀u∈us,u<4)(hall:∀w<4,w∈us)(h:TI R):(ar us R).1=[]\/∃v,v<16/\(ar us R).1=[(0,v)]:=by
 have t:=o7 hu h;have z:∀x∈(ar us R).1,x.1=0:=λx hx=>zn (t.goods x hx) λw hw=>rZ hu hw h (.inl (hall w hw)) x hx;cases e:(ar us R).1 with
 |nil=>exact .inl rfl
 |cons x l=>
  rw[e]at z t;refine .inr ⟨x.2,t.vals x bW,?_⟩;have hx:=z x bW;cases l with
  |nil=>rw[hx.symm];rfl
  |cons y l=>have hy:=z y (bZ _ bW);have nd:=t.nd;simp[hx,hy]at nd
noncomputable abbrev ax:=Nat->Option AV
noncomputable def az(f:ax):aF:=(List.range 51).map f
noncomputable def aW(f:ax)(i:Nat)(x:Option AV):ax:=λj=>bif Nat.beq j i then x else f j
theorem mP(f:ax){i:Nat}(h:i<51):(az f).getD i none=f i:=by simp[az,List.getD,h]
theorem IW(f:ax):(az f).length=51:=rfl
theorem dI(f:ax)(i:Nat)(x:Option AV):(az f).set i x=az (aW f i x):=by
 apply List.ext_getElem
 ·simp[az]
 ·intro j h1 h2;have hj:j<51:=by simpa[az]using h2
  simp only[az,List.getElem_map,List.getElem_range,List.getElem_set,aW];by_cases e:i=j
  ·subst e;simp
  ·have:Nat.beq j i=false:=by
    cases q:Nat.beq j i with
    |false=>rfl
    |true=>exact absurd (il q).symm e
   rw[this];simp[e]
theorem qi(f:ax)(i:Nat)(x:Option AV):aW f i x i=x:=by simp[aW]
theorem ck(f:ax){i j:Nat}(x:Option AV)(h:Nat.beq j i=false):aW f i x j=f j:=by simp[aW,h]
noncomputable def o0(caps:List Nat)(f:ax):ax:=λi=>match caps.contains i,f i with
 |true,some (.val p)=>some (.val p)
 |_,_=>none
theorem lZ(caps:List Nat)(f:ax):∀(n k:Nat),iG caps k ((List.range' k n).map f)=(List.range' k n).map (o0 caps f)
 |0,_=>rfl
 |n+1,k=>by rw[List.range'_succ];rw[bh];rw[bh];have e:=lZ caps f n (k+1);refine(?_:o0 caps f k :: iG caps (k+1) ((List.range' (k+1) n).map f)=_);rw[e];rfl
theorem v4(caps:List Nat)(f:ax):jT caps (az f)=az (o0 caps f):=by unfold jT az;rw[List.range_eq_range'];exact lZ caps f 51 0
theorem bP{caps:List Nat}{f:ax}{i:Nat}{p:PV}(h:caps.contains i=true)(e:f i=some (.val p)):o0 caps f i=some (.val p):=by unfold o0;rw[h];rw[e];rfl
theorem aa{Φ:fA}{f:ax}{T:aC}{i:Nat}{pos:Pos}{p:PV}(h:i<51)(e:f i=some (.val p)):((E.var i pos).sm Φ).ev (az f) T=some (p,T):=by refine(?_:Option.map _ ((az f).getD i none)=_);rw[mP f h];rw[e];rfl
theorem pH{Φ:fA}{f:ax}{T:aC}{i:Nat}{pos:Pos}{xs:List PV}(h:i<51)(e:f i=some (.val (.list xs)))(hc:aA xs=true)(hl:xs.length<=cap):((E.var i pos).sm Φ).evSrc (az f) T=some ((xs,true),T):=
 sJ (by rw[mP f h];exact e) hc hl
theorem ia{Φ:fA}{f:ax}{T T1:aC}{i:Nat}{np pos:Pos}{a:E}{p:PV}(h:(a.sm Φ).ev (az f) T=some (p,T1))(hc:clean p=true):(S.assign i np a pos).ex Φ (az f) T=some ⟨.next,az (aW f i (some (.val p))),T1⟩:=by rw[ik h hc];rw[dI ..];rfl
theorem e9{f:ax}{i:Nat}{pos:Pos}{p:PV}(hc:clean p=true):cN (az f) (.one i pos) p=some (az (aW f i (some (.val p)))):=by refine(?_:aw (clean p) _=_);rw[hc];rw[dI ..];rfl
theorem kW{f:ax}{i j k:Nat}{q1 q2 q3:Pos}{p q:PV}(hp:clean p=true)(hq:clean q=true):cN (az f) (.many [(i,q1),(j,q2)] k q3) (.tuple [p,q])=some (az (aW (aW f i (some (.val p))) j (some (.val q)))):=by refine(?_:aw (clean p) (aw (clean q) (some (((az f).set i _).set j _)))=_);rw[hp];rw[hq];rw[dI ..];rw[dI ..];rfl
theorem fW{Φ:fA}{α:Type}{e:E}{f:ax}{T:aC}{b:Bool}{L:List α}(enc:α->PV)(P:ax->Prop)(c:α->Bool)(val:α->PV)(he:e.isComp=true)(hs:(e.src.sm Φ).evSrc (az f) T=some ((L.map enc,b),T))(hl:L.length<=cap)(hP:P (o0 e.caps f))
  (h:∀x∈L,∀g,P g->∃g',cN (az g) e.tg (enc x)=some (az g')/\P g'/\(e.ifs.sm Φ).evIfs (az g') T=some (c x,T)/\(c x=true->(e.elt.sm Φ).ev (az g') T=some (val x,T)/\clean (val x)=true)):
  (e.sm Φ).ev (az f) T=some (.list ((L.filter c).map val),T):=by
 refine kM he hs (by simpa using hl) ?_;rw[v4 ..];exact eZ enc (λσ=>∃g,σ=az g/\P g) c val (λx hx σ ⟨g,e1,p⟩=>by subst e1;refine iU (h x hx g p) λg' h1 h2 h3 h4=>?_;exact⟨az g',h1,⟨g',rfl,h2⟩,h3,h4⟩) _ ⟨_,rfl,hP⟩
mutual
theorem vM:∀(n:Nat) (p:PV),gU n p=true->PyData.eqv (qn p) (qn p)=true
 |n,.none,_=>rfl
 |n,.bool b,_=>beq_self_eq_true b
 |n,.int i,_=>beq_self_eq_true i
 |n,.str x,_=>beq_self_eq_true x
 |0,.list xs,h=>fT h
 |n+1,.list xs,h=>kX n xs h
 |0,.view xs,h=>fT h
 |n+1,.view xs,h=>kX n xs h
 |0,.tuple xs,h=>fT h
 |n+1,.tuple xs,h=>kX n xs h
 |n,.bytes _,h=>by cases n<;>exact fT h
 |n,.arg _,h=>by cases n<;>exact fT h
 |n,.ob _,h=>by cases n<;>exact fT h
 |n,.tab,h=>by cases n<;>exact fT h
theorem kX:∀(n:Nat) (ps:List PV),gY n ps=true->PyData.eqvAll (jL ps) (jL ps)=true
 |_,[],_=>rfl
 |n,p :: ps,h=>by replace h:=lR▸h;rewrite[eA]at h;rw[tJ];rewrite[PyData.eqvAll];rw[vM n p h.1];rw[kX n ps h.2];rfl
end
theorem cT{p q:PV}(h:gU 4 p=true)(e:p=q):nN .NotEq p q=some false:=by subst e;refine(?_:aw (gU 4 p&&gU 4 p) (some (!PyData.eqv (qn p) (qn p)))=_);rw[h];rw[vM 4 p h];rfl
theorem jM{xs:List PV}(h:gU 4 (.list xs)=true):nN .Eq (.list xs) (.list [])=some xs.isEmpty:=by refine(?_:aw (gU 4 (.list xs)&&true) (some (PyData.eqv (.list (jL xs)) (.list [])))=_);rw[h];cases xs<;>rfl
theorem kB{α:Type}{f:α->PV}{n:Nat}(h:∀x,gU n (f x)=true):∀L:List α,gY n (L.map f)=true
 |[]=>by cases n<;>rfl
 |x :: L=>by rw[bh];rw[lR];rw[h x];rw[kB h L];rfl
theorem f7{n:Nat}{xs:List PV}(h:gY n xs=true):gU (n+1) (.list xs)=true:=h
theorem FM{Φ:fA}{α:Type}{e:E}{f:ax}{T:aC}{b:Bool}{L:List α}(enc:α->PV)(P:ax->Prop)(J:aC->Prop)(val:α->aC->PV)(nxt:α->aC->aC)(he:e.isComp=true)(hs:(e.src.sm Φ).evSrc (az f) T=some ((L.map enc,b),T))(hl:L.length<=cap)(hP:P (o0 e.caps f))(hJ:J T)
  (h:∀x∈L,∀g T,P g->J T->∃g',cN (az g) e.tg (enc x)=some (az g')/\P g'/\(e.ifs.sm Φ).evIfs (az g') T=some (true,T)/\(e.elt.sm Φ).ev (az g') T=some (val x T,nxt x T)/\clean (val x T)=true/\J (nxt x T)):
  (e.sm Φ).ev (az f) T=some (.list (oL val nxt L T).1,(oL val nxt L T).2):=by
 refine kM he hs (by simpa using hl) ?_;rw[v4 ..];exact(pP enc (λσ=>∃g,σ=az g/\P g) J val nxt (λx hx σ T ⟨g,e1,p⟩ j=>by subst e1;obtain⟨g',h1,h2,h3,h4,h5,h6⟩:=h x hx g T p j;exact⟨az g',h1,⟨g',rfl,h2⟩,h3,h4,h5,h6⟩) _ _ ⟨_,rfl,hP⟩ hJ).1
theorem Ch:TI ([]:MV):=⟨(λ_ h=>nomatch h),List.nodup_nil,(λ_ h=>nomatch h)⟩
noncomputable abbrev dZ(c:Nat->Nat):List Nat:=[c 0,c 1,c 2,c 3,c 4,c 5]
noncomputable def Jo(i:Nat):Nat:=bif Nat.blt i 3 then 0 else 15
noncomputable abbrev CH(c:Nat->Nat):List (Nat×Nat):=[(c 0,0),(c 1,0),(c 2,0),(c 3,15),(c 4,15),(c 5,15)]
noncomputable abbrev IY(c:Nat->Nat):List (Nat×Nat):=[(c 0,15),(c 1,15),(c 2,15),(c 3,0),(c 4,0),(c 5,0)]
noncomputable def dc:List (Nat×Nat)->MV->List Nat×MV
 |[],R=>([],R)
 |p :: r,R=>((R.lookup p.1).getD p.2 :: (dc r (me R p.1 p.2)).1,(dc r (me R p.1 p.2)).2)
theorem CU{R}:dc [] R=(([],R)):=rfl
theorem qr{p r R}:dc (p :: r) R=(((R.lookup p.1).getD p.2 :: (dc r (me R p.1 p.2)).1,(dc r (me R p.1 p.2)).2)):=rfl
section
variable{f:ax}{T:aC}{wd:Nat->Str}{c:Nat->Nat}
structure wC(c:Nat->Nat):Prop where
 g:∀m∈dZ c,m∈goods
 nz:∀m∈dZ c,m≠0
 a:∀m∈[c 0,c 1,c 2],ix m 3=true
 b:∀m∈[c 3,c 4,c 5],ix m 0=true
noncomputable abbrev jB(c:Nat->Nat):PV:=.list ((dZ c).map λm=>.str (aR m))
theorem AC(O:wC c)(h9:f 9=some (.val (cG (dZ c)))):(aY.nth 2).ex Φ2 (az f) T=some ⟨.next,az (aW f 13 (some (.val (jB c)))),T⟩:=by refine ia (fW (L:=dZ c) (λm=>iN m) (λ_=>True) (λ_=>true) (λm=>.str (aR m)) rfl (pH (by decide) h9 (aM (λ_=>rfl) _) (by show 6<=16777216;decide)) (by show 6<=16777216;decide) trivial λm hm g _=>⟨aW g 29 (aN m),e9 rfl,trivial,rfl,λ_=>⟨?_,rfl⟩⟩) (aM (λ_=>rfl) _);exact fU (ps:=[iN m]) (aL (aa (by decide) (qi _ _ _)) ac) rfl (nr (O.g m hm) T)
theorem nM(W:bX wd)(nm:Nat->Str):∀{L:List (Nat×Nat)} {R:MV},(∀p∈L,p.1∈goods/\oz (nm p.1) p.1/\(nm p.1=aR p.1\/∃u,R.lookup p.1=some u))->TI R->(∀p∈L,p.2<16) ->
  oL (λp T=>.str (jN T (nm p.1) (wd p.2)).1) (λp T=>(jN T (nm p.1) (wd p.2)).2) L (aD wd R)=((dc L R).1.map λv=>.str (wd v),aD wd (dc L R).2)
 |[],R,_,_,_=>rfl
 |p :: L,R,h,hR,hv=>by
  refine km (h p bW) λh1 h2 h3=>?_;have hR':=hR.ins h1 (hv p bW);have ih:=nM W nm (L:=L) (R:=me R p.1 p.2) (λq hq=>by refine km (h q (bZ _ hq)) λa b d=>?_;refine⟨a,b,d.imp id λ⟨u,e⟩=>⟨u,iE hR'.nd (jq (gR e))⟩⟩) hR' λq hq=>hv q (bZ _ hq)
  rw[Fs];rw[kg h1 h2 h3 hR.goods];refine(?_:(PV.str _ :: (oL _ _ L (aD wd (me R p.1 p.2))).1,(oL _ _ L (aD wd (me R p.1 p.2))).2)=_);rw[ih];rfl
theorem AO(W:bX wd){R:MV}(hR:TI R){x:Str}{v:Nat}(hx:aS x=true)(hv:v<16):mH .setdefault .tab [.str x,.str (wd v)] (aD wd R)=some (.str (jN (aD wd R) x (wd v)).1,(jN (aD wd R) x (wd v)).2):=by refine(?_:aw (aS x&&(aS (wd v)&&Nat.ble (aD wd R).length 1000)) _=_);rw[hx];rw[W.ok v hv];rw[eJ (by simpa[aD]using hR.length)];rfl
theorem CN(W:bX wd)(O:wC c)(h10:f 10=some (.val (cu wd)))(h11:f 11=some (.val .tab))(h13:f 13=some (.val (jB c))):
  (aY.nth 3).ex Φ2 (az f) []=some ⟨.next,az (aW f 14 (some (.val (.list ((dc (CH c) []).1.map λv=>.str (wd v)))))),aD wd (dc (CH c) []).2⟩:=by
 have hg:∀p∈CH c,p.1∈dZ c/\p.2<16:=by intro p hp;simp only[ah,List.not_mem_nil,or_false]at hp;rcases hp with rfl|rfl|rfl|rfl|rfl|rfl<;>simp
 have ht:TI ([]:MV):=Ch;have e:=FM (Φ:=Φ2) (e:=(aY.nth 3).e) (f:=f) (T:=[]) (L:=CH c) (b:=true) (λp=>.tuple [.str (aR p.1),iN p.2]) (λg=>g 10=some (.val (cu wd))/\g 11=some (.val .tab)) (λT=>∃R,TI R/\T=aD wd R)
  (λp T=>.str (jN T (aR p.1) (wd p.2)).1) (λp T=>(jN T (aR p.1) (wd p.2)).2) rfl (ct (ps:=[jB c,.tuple [iN 0,iN 0,iN 0,iN 15,iN 15,iN 15]]) (aL (aa (by decide) h13) rfl) rfl) (by show 6<=16777216;decide) ⟨bP rfl h10,bP rfl h11⟩ ⟨[],ht,rfl⟩
  (λp hp g T ⟨g10,g11⟩ ⟨R,hR,eT⟩=>by subst eT;refine cL (hg p hp) λm1 m2=>?_;have hm:=O.g _ m1;refine⟨aW (aW g 30 (some (.val (.str (aR p.1))))) 31 (aN p.2),kW rfl rfl,⟨g10,g11⟩,rfl,?_,rfl,_,hR.ins hm m2,(congrArg Prod.snd (kg hm (lQ _) (.inl rfl) hR.goods))⟩;exact ci (p:=.tab) (ps:=[.str (aR p.1),.str (wd p.2)]) (aa (by decide) g11) (aL (aa (by decide) rfl) (aL (bg (aa (by decide) g10) (aa (by decide) rfl) (pD W m2)) ac)) (AO W hR (dl hm) m2))
 replace e:=(show([]:aC)=aD wd []from rfl)▸e;replace e:=(nM W aR (λp hp=>⟨O.g _ (hg p hp).1,rfl,.inl rfl⟩) ht λp hp=>(hg p hp).2)▸e;exact ia e (aM (λ_=>rfl) _)
end
theorem vY:∀(A B:List (Nat×Nat)) (R:MV),dc (A++B) R=((dc A R).1++(dc B (dc A R).2).1,(dc B (dc A R).2).2)
 |[],_,_=>rfl
 |p :: A,B,R=>by simp only[List.cons_append,CU,qr,vY A B]
theorem yI:∀{L:List (Nat×Nat)} {R:MV},(∀p∈L,p.1∈goods/\p.2<16)->TI R->TI (dc L R).2
 |[],_,_,h=>h
 |p :: L,R,hp,h=>yI (L:=L) (λq hq=>hp q (bZ _ hq)) (h.ins (hp p bW).1 (hp p bW).2)
theorem rX:∀{L:List (Nat×Nat)} {R:MV} {x:Nat×Nat},x∈R->x∈(dc L R).2
 |[],_,_,h=>h
 |p :: L,R,x,h=>rX (L:=L) (jq h)
theorem mq:∀{L:List (Nat×Nat)} {R:MV},∀p∈L,p.1∈aO (dc L R).2
 |[],_,p,hp=>nomatch hp
 |q :: L,R,p,hp=>by
  rcases ah.mp hp with rfl|hp
  ·refine aP (cH.mp (td R p.1 p.2)) λx hx e=>?_;exact e▸dJ (f:=(·.1)) (rX (L:=L) hx)
  ·exact mq (L:=L) p hp
theorem mu(d:Nat->Nat):∀{L:List (Nat×Nat)} {R:MV},(∀x∈R,x.2=d x.1)->(∀p∈L,p.1∈aO R\/p.2=d p.1)->(dc L R).1=L.map (λp=>d p.1)/\∀x∈(dc L R).2,x.2=d x.1
 |[],_,h,_=>⟨rfl,h⟩
 |p :: L,R,h,hp=>by
  have hi:∀x∈me R p.1 p.2,x.2=d x.1:=λx hx=>by
   unfold me at hx;cases e:R.lookup p.1 with
   |some u=>replace hx:=e▸hx;exact h x hx
   |none=>
    replace hx:=e▸hx;rcases jU.mp hx with hx|hx
    ·exact h x hx
    ·rw[ju.mp hx];exact(hp p bW).elim (λk=>absurd k (fH e)) id
  obtain⟨h1,h2⟩:=mu d (L:=L) (R:=me R p.1 p.2) hi λq hq=>(hp q (bZ _ hq)).imp (λk=>by refine aP (cH.mp k) λx hx e=>?_;exact e▸dJ (f:=(·.1)) (jq hx)) id
  refine⟨?_,h2⟩;rw[qr];rw[bh];rw[h1];have:(R.lookup p.1).getD p.2=d p.1:=by
   cases e:R.lookup p.1 with
   |some u=>exact h _ (gR e)
   |none=>exact(hp p bW).elim (λk=>absurd k (fH e)) id
  rw[this];rfl
theorem rm:∀{L:List (Nat×Nat)} {R:MV},(∀p∈L,∃u,R.lookup p.1=some u)->dc L R=(L.map λp=>(R.lookup p.1).getD p.2,R)
 |[],_,_=>rfl
 |p :: L,R,h=>by
  refine af (h p bW) λu e=>?_;have:me R p.1 p.2=R:=by unfold me;rw[e];rfl
  rw[qr];rw[this];rw[rm (L:=L) λq hq=>h q (bZ _ hq)];rfl
noncomputable def wY:List Nat->List (Nat×Nat)->MV
 |_,[]=>[]
 |pre,p :: r=>bif pre.contains p.1 then wY (pre++[p.1]) r else p :: wY (pre++[p.1]) r
theorem H5{z1}:wY z1 []=([]):=rfl
theorem AI{pre p r}:wY pre (p :: r)=(bif pre.contains p.1 then wY (pre++[p.1]) r else p :: wY (pre++[p.1]) r):=rfl
theorem qp:∀{L:List (Nat×Nat)} {R:MV} {pre:List Nat},(∀m,m∈aO R↔m∈pre)->(dc L R).2=R++wY pre L
 |[],R,_,_=>by simp[CU,qr,H5,AI]
 |p :: L,R,pre,h=>by
  have hk:∀m,m∈aO (me R p.1 p.2)↔m∈pre++[p.1]:=λm=>by
   rewrite[jU,ju,<-h m];constructor
   ·intro k;refine aP (cH.mp k) λx hx e=>?_;rcases rT hx with hx|rfl
    ·exact .inl (e▸dJ (f:=(·.1)) hx)
    ·exact .inr e.symm
   ·rintro(k|rfl)
    ·refine aP (cH.mp k) λx hx e=>?_;exact e▸dJ (f:=(·.1)) (jq hx)
    ·exact td _ _ _
  rw[qr];rw[AI];refine(?_:(dc L (me R p.1 p.2)).2=_);rw[qp hk];unfold me;cases e:R.lookup p.1 with
  |some u=>have:p.1∈pre:=(h _).mp (dJ (f:=(·.1)) (gR e));rw[ks.mpr this];rfl
  |none=>
   have:¬p.1∈pre:=λk=>fH e ((h _).mpr k);have:pre.contains p.1=false:=by rw[Eq.symm (Bool.not_eq_true ..)];rewrite[ks];exact this
   rw[this];simp
section
variable{c:Nat->Nat}
noncomputable def eG(c:Nat->Nat)(m:Nat):Nat:=bif [c 0,c 1,c 2].contains m then 0 else 15
noncomputable abbrev R1(c:Nat->Nat):MV:=(dc (CH c) []).2
theorem sq(m:Nat):eG c m<16:=by unfold eG;cases [c 0,c 1,c 2].contains m<;>decide
theorem wg{p:Nat×Nat}(hp:p∈CH c):p.1∈dZ c/\p.2<16:=
 have z:0<16:=by decide
 have f:15<16:=by decide
 Ia (p:=λp:Nat×Nat=>p.1∈dZ c/\p.2<16) ⟨iW,z⟩ ⟨kl,z⟩ ⟨mf,z⟩ ⟨w7,f⟩ ⟨Fx,f⟩ ⟨HD,f⟩ p hp
theorem iy{p:Nat×Nat}(hp:p∈IY c):p.1∈dZ c/\p.2<16:=
 have z:0<16:=by decide
 have f:15<16:=by decide
 Ia (p:=λp:Nat×Nat=>p.1∈dZ c/\p.2<16) ⟨iW,f⟩ ⟨kl,f⟩ ⟨mf,f⟩ ⟨w7,z⟩ ⟨Fx,z⟩ ⟨HD,z⟩ p hp
theorem GW{m:Nat}(h:m∈[c 0,c 1,c 2]):0=eG c m:=by unfold eG;rw[ks.mpr h];rfl
theorem lU(c:Nat->Nat):(dc (CH c) []).1=(dZ c).map (eG c)/\∀x∈R1 c,x.2=eG c x.1:=by
 have h1:=mu (eG c) (L:=[(c 0,0),(c 1,0),(c 2,0)]) (R:=[]) (λ_ h=>nomatch h) (II (.inr (GW iW)) (.inr (GW kl)) (.inr (GW mf)));have h2:=mu (eG c) (L:=[(c 3,15),(c 4,15),(c 5,15)]) (R:=(dc [(c 0,0),(c 1,0),(c 2,0)] []).2) h1.2 (λp hp=>by
  have hv:p.2=15:=II (p:=λp:Nat×Nat=>p.2=15) rfl rfl rfl p hp;cases e:[c 0,c 1,c 2].contains p.1 with
  |false=>exact .inr (by rw[hv];rewrite[eG];rw[e];rfl)
  |true=>refine .inl ?_;have k:∀q∈[(c 0,0),(c 1,0),(c 2,0)],q.1∈aO (dc [(c 0,0),(c 1,0),(c 2,0)] []).2:=mq;exact II (p:=λm=>m∈aO (dc [(c 0,0),(c 1,0),(c 2,0)] []).2) (k _ iW) (k _ kl) (k _ mf) _ (ks.mp e))
 have e:dc (CH c) []=_:=vY [(c 0,0),(c 1,0),(c 2,0)] [(c 3,15),(c 4,15),(c 5,15)] [];rewrite[R1];rw[e];exact⟨by show _++_=_;rw[h1.1];rw[h2.1];rfl,h2.2⟩
theorem jX(O:wC c):TI (R1 c):=yI (λp hp=>⟨O.g _ (wg hp).1,(wg hp).2⟩) Ch
theorem xj{m:Nat}(h:m∈dZ c):m∈aO (R1 c):=by have k:∀q∈CH c,q.1∈aO (R1 c):=mq;exact Ia (p:=λm=>m∈aO (R1 c)) (k _ iW) (k _ kl) (k _ mf) (k _ w7) (k _ Fx) (k _ HD) m h
theorem nF{x:Nat×Nat}(h:x∈R1 c):x.1∈dZ c/\x∈CH c:=by
 have e:R1 c=[]++wY [] (CH c):=qp (λm=>⟨λq=>(nomatch q),λq=>nomatch q⟩);replace h:=e▸h;replace h:=(List.nil_append ..)▸h;have key:∀(L:List (Nat×Nat)) (pre:List Nat),∀x∈wY pre L,x∈L:=by
  intro L
  induction L with
  |nil=>intro _ x hx;cases hx
  |cons p L ih=>
   intro pre x hx;replace hx:=AI▸hx;cases e:pre.contains p.1 with
   |true=>replace hx:=e▸hx;exact bZ _ (ih _ x hx)
   |false=>
    replace hx:=e▸hx;rcases ah.mp hx with rfl|hx
    ·exact bW
    ·exact bZ _ (ih _ x hx)
 have:=key _ _ x h;exact⟨(wg this).1,this⟩
theorem oj{m:Nat}(O:wC c)(h:m∈dZ c):(R1 c).lookup m=some (eG c m):=by refine aP (cH.mp (xj h)) λx hx q1q=>?_;subst q1q;have:=(lU c).2 x hx;exact iE (jX O).nd (by rw[this.symm];exact hx)
theorem ml{α:Type}{a b:α}{l m:List α}(h:a=b)(k:l=m):a :: l=b :: m:=h▸k▸rfl
theorem uS(O:wC c):dc (IY c) (R1 c)=((dZ c).map (eG c),R1 c):=by
 rw[rm λp hp=>⟨_,oj O (iy hp).1⟩]
 congr 1
 have q:∀m∈dZ c,∀v,((R1 c).lookup m).getD v=eG c m:=λm h v=>by rw[oj O h];rfl
 exact ml (q _ iW _) (ml (q _ kl _) (ml (q _ mf _) (ml (q _ w7 _) (ml (q _ Fx _) (ml (q _ HD _) rfl)))))
noncomputable def wx(c:Nat->Nat)(i:Nat):Bool:= !((dZ c).take i).contains (c i)
theorem st1{β:Type}{q:Nat->Bool}{i:Nat}{is pre:List Nat}{p:Nat×Nat}{r:MV}{G:Nat->β}{H:Nat×Nat->β}(hq:q i= !pre.contains p.1)(hg:G i=H p)
  (k:(is.filter q).map G=(wY (pre++[p.1]) r).map H):((i :: is).filter q).map G=(wY pre (p :: r)).map H:=by
 refine(?_:(match q i with|true=>i :: is.filter q|false=>is.filter q).map G=(bif pre.contains p.1 then wY (pre++[p.1]) r else p :: wY (pre++[p.1]) r).map H);rw[hq];cases pre.contains p.1
 ·exact ml hg k
 ·exact k
theorem uj{β:Type}(g:Nat->β)(c:Nat->Nat):(([0,1,2,3,4,5].filter (wx c)).map λi=>g (c i))=(R1 c).map λp=>g p.1:=by have e:R1 c=[]++wY [] (CH c):=qp (λm=>⟨λq=>(nomatch q),λq=>nomatch q⟩);rw[e];refine(?_:List.map _ (List.filter (wx c) [0,1,2,3,4,5])=List.map _ (wY [] [(c 0,0),(c 1,0),(c 2,0),(c 3,15),(c 4,15),(c 5,15)]));exact st1 rfl rfl (st1 rfl rfl (st1 rfl rfl (st1 rfl rfl (st1 rfl rfl (st1 rfl rfl rfl)))))
end
section
variable{Φ:fA}{σ:aF}{T:aC}{p q r o:PV}{a b c l u s es:E}{pos sp:Pos}
theorem w3{t:Bool}(h:(c.sm Φ).evT σ T=some (t,T))(k:(bif t then(a.sm Φ).ev σ T else(b.sm Φ).ev σ T)=some (r,T)):((E.ite c a b pos).sm Φ).ev σ T=some (r,T):=by refine(?_:((c.sm Φ).evT σ T).bind _=_);rw[h];cases t<;>exact k
theorem jO{lo hi st:PV}(h1:(a.sm Φ).ev σ T=some (o,T))(h2:(l.sm Φ).ev σ T=some (lo,T))(h3:(u.sm Φ).ev σ T=some (hi,T))(h4:(s.sm Φ).ev σ T=some (st,T))(h5:zj o lo hi st=some r):((E.slc a l u s sp pos).sm Φ).ev σ T=some (r,T):=by refine(?_:((a.sm Φ).ev σ T).bind _=_);rw[h1];refine(?_:((l.sm Φ).ev σ T).bind _=_);rw[h2];refine(?_:((u.sm Φ).ev σ T).bind _=_);rw[h3];refine(?_:((s.sm Φ).ev σ T).bind _=_);rw[h4];refine(?_:(zj o lo hi st).map _=_);rw[h5];rfl
theorem sw(h:(a.sm Φ).evT σ T=some (false,T))(k:(b.sm Φ).evAll .Or σ T=some (false,T)):((E.cons a b).sm Φ).evAll .Or σ T=some (false,T):=by refine(?_:((a.sm Φ).evT σ T).bind _=_);rw[h];exact k
theorem EM(h:(a.sm Φ).evT σ T=some (true,T)):((E.cons a b).sm Φ).evAll .Or σ T=some (true,T):=by refine(?_:((a.sm Φ).evT σ T).bind _=_);rw[h];rfl
theorem G8{f:BF}{fp:Pos}{t:Bool}(h:((E.callb f fp es pos).sm Φ).ev σ T=some (p,T))(ht:eS p=some t):((E.callb f fp es pos).sm Φ).evT σ T=some (t,T):=by refine(?_:(((E.callb f fp es pos).sm Φ).ev σ T).bind _=_);rw[h];refine(?_:(eS p).map _=_);rw[ht];rfl
end
theorem s0(m:Nat):∀L:List Nat,((jL (L.map λx=>iN x)).any λy=>PyData.eqv y (qn (iN m)))=L.contains m
 |[]=>rfl
 |x :: L=>by
  rw[List.contains_cons];rw[Eq.symm (s0 m L)];refine(?_:(PyData.eqv (.int (x:Int)) (.int (m:Int))||_)=_)
  congr 1
  have h:=cn x m;have:PyData.eqv (.int (x:Int)) (.int (m:Int))=(x==m):=Option.some.inj h;rw[this];rw[Bool.beq_comm];rfl
theorem mw(n:Nat):∀L:List Nat,gY n (L.map λx=>iN x)=true:=kB λx=>by cases n<;>rfl
theorem Gs(m:Nat)(L:List Nat):nN .In (iN m) (cG L)=some (L.contains m):=by refine(?_:aw (true&&gY 4 (L.map λx=>iN x)) (some ((jL (L.map λx=>iN x)).any λy=>PyData.eqv y (qn (iN m))))=_);rw[mw ..];rw[s0 ..];rfl
theorem AD(m:Nat)(L:List Nat):nN .NotIn (iN m) (cG L)=some (!L.contains m):=by refine(?_:aw (true&&gY 4 (L.map λx=>iN x)) (some (!(jL (L.map λx=>iN x)).any λy=>PyData.eqv y (qn (iN m))))=_);rw[mw ..];rw[s0 ..];rfl
theorem wT:((goods.filter λm=> !(m==0)).map λ(m:Nat)=>λT:aC=>fQ Φ0 oa pY iT [iN m] T)=(goods.filter λm=> !(m==0)).map λ(m:Nat)=>λT=>some (.str (aR m),T):=by kernel_rfl
theorem xR{m:Nat}(h:m∈goods)(hz:m≠0)(T:aC):Φ2 .words [iN m] T=some (.str (aR m),T):=
 congrFun ((iu.mp wT) m (cf.mpr ⟨h,by simpa using hz⟩)) T
section
variable{f:ax}{wd:Nat->Str}{c:Nat->Nat}
theorem y6(W:bX wd)(O:wC c)(h10:f 10=some (.val (cu wd)))(h11:f 11=some (.val .tab))(h13:f 13=some (.val (jB c))):
  (aY.nth 4).ex Φ2 (az f) (aD wd (R1 c))=some ⟨.next,az (aW f 15 (some (.val (.list ((dZ c).map λm=>.str (wd (eG c m))))))),aD wd (R1 c)⟩:=by
 have e:=FM (Φ:=Φ2) (e:=(aY.nth 4).e) (f:=f) (T:=aD wd (R1 c)) (L:=IY c) (b:=true) (λp=>.tuple [.str (aR p.1),iN p.2]) (λg=>g 10=some (.val (cu wd))/\g 11=some (.val .tab)) (λT=>∃R,TI R/\(∀p∈IY c,∃u,R.lookup p.1=some u)/\T=aD wd R)
  (λp T=>.str (jN T (Txt.lower (aR p.1)) (wd p.2)).1) (λp T=>(jN T (Txt.lower (aR p.1)) (wd p.2)).2) rfl (ct (ps:=[jB c,.tuple [iN 15,iN 15,iN 15,iN 0,iN 0,iN 0]]) (aL (aa (by decide) h13) rfl) rfl) (by show 6<=16777216;decide) ⟨bP rfl h10,bP rfl h11⟩
  ⟨R1 c,jX O,λp hp=>⟨_,oj O (iy hp).1⟩,rfl⟩
  (λp hp g T ⟨g10,g11⟩ ⟨R,hR,hl,eT⟩=>by
   subst eT;refine cL (iy hp) λm1 m2=>?_;have hm:=O.g _ m1;have hs:=kg (wd:=wd) (v:=p.2) hm (kZ hm) (.inr (hl p hp)) hR.goods;have hi:me R p.1 p.2=R:=by refine af (hl p hp) λu e=>?_;unfold me;rw[e];rfl
   refine⟨aW (aW g 32 (some (.val (.str (aR p.1))))) 33 (aN p.2),kW rfl rfl,⟨g10,g11⟩,rfl,?_,rfl,R,hR,hl,?_⟩
   ·exact ci (p:=.tab) (ps:=[.str (Txt.lower (aR p.1)),.str (wd p.2)]) (aa (by decide) g11) (aL (ci (p:=.str (aR p.1)) (ps:=[]) (aa (by decide) rfl) ac (by show aw (Nat.ble (aR p.1).length 5000) _=_;rw[(kh hm).2.2];rfl)) (aL (bg (aa (by decide) g10) (aa (by decide) rfl) (pD W m2)) ac)) (AO W hR (kh hm).2.1 m2)
   ·rw[hs];rw[hi];rfl)
 replace e:=(nM W (λm=>Txt.lower (aR m)) (λp hp=>⟨O.g _ (iy hp).1,kZ (O.g _ (iy hp).1),.inr ⟨_,oj O (iy hp).1⟩⟩) (jX O) λp hp=>(iy hp).2)▸e;replace e:=uS O▸e;refine ia (e.trans ?_) (aM (λ_=>rfl) _);rw[jR];rfl
noncomputable abbrev jZ(wd:Nat->Str)(c:Nat->Nat):PV:=.list ((dZ c).map λm=>.str (wd (eG c m)))
theorem DT{T:aC}(W:bX wd)(h1:f 1=some (.val (cG (dZ c))))(h10:f 10=some (.val (cu wd))):(aY.nth 5).ex Φ2 (az f) T=some ⟨.next,az (aW f 16 (some (.val (jZ wd c)))),T⟩:=by
 refine ia (fW (L:=dZ c) (λm=>iN m) (λg=>g 1=some (.val (cG (dZ c)))/\g 10=some (.val (cu wd))) (λ_=>true) (λm=>.str (wd (eG c m))) rfl (pH (by decide) h1 (aM (λ_=>rfl) _) (by show 6<=16777216;decide)) (by show 6<=16777216;decide) ⟨bP rfl h1,bP rfl h10⟩
  λm hm g ⟨g1,g10⟩=>⟨aW g 34 (aN m),e9 rfl,⟨g1,g10⟩,rfl,λ_=>⟨?_,rfl⟩⟩) (aM (λ_=>rfl) _)
 refine bg (q:=iN (eG c m)) (aa (by decide) g10) (w3 (t:=[c 0,c 1,c 2].contains m) (bM (aa (by decide) rfl) (jO (o:=cG (dZ c)) (lo:=.none) (hi:=.int 3) (st:=.none) (r:=cG [c 0,c 1,c 2]) (aa (by decide) g1) rfl rfl rfl rfl) (Gs m _)) ?_) (pD W (sq m));unfold eG;cases [c 0,c 1,c 2].contains m<;>rfl
noncomputable abbrev fZ(wd:Nat->Str)(c:Nat->Nat):PV:=.list ((R1 c).map λp=>.tuple [.str (aR p.1),.str (wd (eG c p.1))])
theorem yl{T:aC}(O:wC c)(h1:f 1=some (.val (cG (dZ c))))(h16:f 16=some (.val (jZ wd c))):(aY.nth 6).ex Φ2 (az f) T=some ⟨.next,az (aW f 18 (some (.val (fZ wd c)))),T⟩:=by
 have e:=fW (Φ:=Φ2) (e:=(aY.nth 6).e) (f:=f) (T:=T) (b:=true) (L:=[0,1,2,3,4,5]) (λi=>iN i) (λg=>g 1=some (.val (cG (dZ c)))/\g 16=some (.val (jZ wd c))) (wx c) (λi=>.tuple [.str (aR (c i)),.str (wd (eG c (c i)))]) rfl
  (ct (ps:=[.int 6]) rfl rfl) (by show 6<=16777216;decide) ⟨bP rfl h1,bP rfl h16⟩ (λi hi g ⟨g1,g16⟩=>by
   have hi':i=0\/i=1\/i=2\/i=3\/i=4\/i=5:=by simpa using hi
   have hc:c i∈dZ c:=by rcases hi' with rfl|rfl|rfl|rfl|rfl|rfl<;>simp
   have e1:kn (cG (dZ c)) (iN i)=some (iN (c i)):=by rcases hi' with rfl|rfl|rfl|rfl|rfl|rfl<;>rfl
   have e2:kn (jZ wd c) (iN i)=some (.str (wd (eG c (c i)))):=by rcases hi' with rfl|rfl|rfl|rfl|rfl|rfl<;>rfl
   have e3:zj (cG (dZ c)) .none (iN i) .none=some (cG ((dZ c).take i)):=by rcases hi' with rfl|rfl|rfl|rfl|rfl|rfl<;>rfl
   refine⟨aW g 35 (aN i),e9 rfl,⟨g1,g16⟩,?_,λ_=>⟨?_,rfl⟩⟩
   ·refine(?_:((((aY.nth 6).e.ifs).arg1).sm Φ2).evT (az (aW g 35 (aN i))) T=_);exact bM (bg (aa (by decide) g1) (aa (by decide) rfl) e1) (jO (aa (by decide) g1) rfl (aa (by decide) rfl) rfl e3) (AD _ _)
   ·exact jy (ps:=[.str (aR (c i)),.str (wd (eG c (c i)))]) (aL (fU (ps:=[iN (c i)]) (aL (bg (aa (by decide) g1) (aa (by decide) rfl) e1) ac) rfl (xR (O.g _ hc) (O.nz _ hc) T)) (aL (bg (aa (by decide) g16) (aa (by decide) rfl) e2) ac)) (by show 2<=16777216;decide))
 have st:=uj (λm=>(.tuple [.str (aR m),.str (wd (eG c m))]:PV)) c;replace e:=st▸e;exact ia e (aM (λ_=>rfl) _)
end
noncomputable def E.lhs:E->E
 |.cmp _ a _ _=>a
 |.bin _ a _ _=>a
 |e=>e
noncomputable def E.rhs:E->E
 |.cmp _ _ b _=>b
 |.bin _ _ b _=>b
 |e=>e
noncomputable def E.item:E->Nat->E
 |.bool _ es _,n=>es.item n
 |.cons a _,0=>a
 |.cons _ b,n+1=>b.item n
 |e,_=>e
theorem pk(L:List Nat):clean (cG L)=true:=aM (λ_=>rfl) L
section
variable{f:ax}{wd:Nat->Str}{c:Nat->Nat}{T:aC}
theorem Aq:PV.list ((dc (CH c) []).1.map λv=>.str (wd v))=jZ wd c:=by rw[(lU c).1];rw[jR];rfl
theorem zG:PV.list ((aD wd (R1 c)).map λr=>.tuple [.str r.1,.str r.2])=fZ wd c:=by
 rewrite[aD];rw[jR]
 congr 1
 exact List.map_congr_left λp hp=>by show PV.tuple [.str (aR p.1),.str (wd p.2)]=_;rw[(lU c).2 p hp];rfl
theorem zA{x:Str}(h:aS x=true)(n:Nat):gU n (.str x)=true:=by have:=eN h;cases n<;>exact this
theorem Hu(W:bX wd):gU 4 (jZ wd c)=true:=f7 (kB (λm=>zA (W.ok _ (sq m)) 3) _)
theorem lu{α:Type}{g:α->PV}{n:Nat}:∀{L:List α},(∀x∈L,gU n (g x)=true)->gY n (L.map g)=true
 |[],_=>by cases n<;>rfl
 |x :: L,h=>by rw[bh];rw[lR];rw[h x bW];rw[lu (L:=L) λy hy=>h y (bZ _ hy)];rfl
theorem Fn(W:bX wd)(O:wC c):gU 4 (fZ wd c)=true:=by refine f7 (lu λp hp=>?_);have hm:=O.g _ (nF hp).1;refine(?_:(gU 2 (.str (aR p.1))&&(gU 2 (.str (wd (eG c p.1)))&&true))=true);rewrite[zA (dl hm),zA (W.ok _ (sq _))];rfl
noncomputable abbrev Cv(c:Nat->Nat):PV:=.list ((R1 c).map λp=>.str (aR p.1))
theorem Hf(O:wC c):gU 4 (Cv c)=true:=f7 (lu λp hp=>zA (dl (O.g _ (nF hp).1)) 3)
theorem wW(O:wC c):(aD wd (R1 c)).length<=1000:=by simpa[aD]using(jX O).length
theorem BS(W:bX wd)(O:wC c)(h10:f 10=some (.val (cu wd)))(h11:f 11=some (.val .tab)):(aY.nth 7).ex Φ2 (az f) (aD wd (R1 c))=some ⟨.next,az f,aD wd (R1 c)⟩:=by
 have e:(((aY.nth 7).e).sm Φ2).ev (az f) (aD wd (R1 c))=some (.tuple [.str (sx "0x0"),.str (wd 0)],aD wd (R1 c)):=
  jy (ps:=[.str (sx "0x0"),.str (wd 0)]) (aL rfl (aL (bg (q:=iN 0) (aa (by decide) h10) rfl (pD W (by decide))) ac)) (by show 2<=16777216;decide)
 refine(?_:aw (mG (az f) 11&&Nat.ble (aD wd (R1 c)).length 1000) ((((aY.nth 7).e).sm Φ2).ev (az f) (aD wd (R1 c)) |>.map _)=_);rw[e];rw[eJ (wW O)];have:mG (az f) 11=true:=by unfold mG;rw[mP f (by decide)];rw[h11];rfl
 rw[this];rfl
theorem ww(W:bX wd)(O:wC c)(h11:f 11=some (.val .tab))(h14:f 14=some (.val (jZ wd c)))(h15:f 15=some (.val (jZ wd c)))(h16:f 16=some (.val (jZ wd c)))(h18:f 18=some (.val (fZ wd c))):
  (aY.nth 8).ex Φ2 (az f) (aD wd (R1 c))=some ⟨.next,az f,aD wd (R1 c)⟩:=by
 refine dK (t:=false) (show(((aY.nth 8).e).sm Φ2).evT (az f) (aD wd (R1 c))=_ from sw (bM (aa (by decide) h14) (aa (by decide) h16) (cT (Hu W) rfl)) (sw (bM (aa (by decide) h15) (aa (by decide) h16) (cT (Hu W) rfl)) (sw (bM (p:=fZ wd c) ?_ (aa (by decide) h18) (cT (Fn W O) rfl)) (sw (bM (p:=Cv c) (q:=Cv c) ?_ ?_ (cT (Hf O) rfl)) rfl)))) rfl
 ·refine ci (p:=.tab) (ps:=[]) (aa (by decide) h11) ac ?_;refine(?_:aw (Nat.ble (aD wd (R1 c)).length 1000) _=_);rw[eJ (wW O)];rw[zG];rfl
 ·refine ci (p:=.tab) (ps:=[]) (aa (by decide) h11) ac ?_;refine(?_:aw (Nat.ble (aD wd (R1 c)).length 1000) (some (PV.list ((aD wd (R1 c)).map λr=>.str r.1),_))=_);rw[eJ (wW O)];rewrite[aD];rw[jR];rfl
 ·have e:=fW (Φ:=Φ2) (e:=(((aY.nth 8).e).item 3).rhs) (f:=f) (T:=aD wd (R1 c)) (b:=true) (L:=R1 c) (λp=>.tuple [.str (aR p.1),.str (wd (eG c p.1))]) (λ_=>True) (λ_=>true) (λp=>.str (aR p.1)) rfl (pH (by decide) h18 (aM (λ_=>rfl) _) (by have:=(jX O).length;simp;unfold cap;lia)) (by have:=(jX O).length;unfold cap;lia) trivial
   λp hp g _=>⟨aW (aW g 36 (some (.val (.str (aR p.1))))) 37 (some (.val (.str (wd (eG c p.1))))),kW rfl rfl,trivial,rfl,λ_=>⟨aa (by decide) rfl,rfl⟩⟩
  replace e:=(jg.mpr (λ_ _=>rfl))▸e;exact e
theorem B7(W:bX wd)(O:wC c){us:List Nat}(hu:∀u∈us,u<4)(hl:us.length<=100)(h4:f 4=some (.val (.list (us.map iN))))(h10:f 10=some (.val (cu wd)))(h11:f 11=some (.val .tab)):
  (aY.nth 9).ex Φ2 (az f) (aD wd (R1 c))=some ⟨.next,az (aW f 19 (some (.val (.list ((ar us (R1 c)).2.map cG))))),aD wd (ar us (R1 c)).1⟩:=by
 have hc:aA ((ar us (R1 c)).2.map cG)=true:=aM pk _;refine ia (T1:=aD wd (ar us (R1 c)).1) ?_ hc;have ha:aA [PV.tab,.list (us.map iN),cu wd]=true:=by refine(?_:(true&&(aA (us.map iN)&&(clean (cu wd)&&true)))=true);rewrite[aM (λ_=>rfl)];rw[W.cl];rfl
 have e:((aY.nth 9).e.sm Φ2).ev (az f) (aD wd (R1 c))=aw (aA [PV.tab,.list (us.map iN),cu wd]) (Φ2 .resolved [PV.tab,.list (us.map iN),cu wd] (aD wd (R1 c))):=by refine(?_:Option.bind (((((aY.nth 9).e).args).sm Φ2).evs (az f) (aD wd (R1 c))) _=_);rw[show((((aY.nth 9).e).args).sm Φ2).evs (az f) (aD wd (R1 c))=some ([PV.tab,.list (us.map iN),cu wd],aD wd (R1 c))from aL (aa (by decide) h11) (aL (aa (by decide) h4) (aL (aa (by decide) h10) ac))];rfl
 refine e.trans ?_;rw[ha];rw[uW W (jX O) hu hl];rfl
noncomputable abbrev cc:PV:=cG ((List.range 16).map tA)
theorem wZ:(aY.nth 10).ex Φ2 (az f) T=some ⟨.next,az (aW f 20 (some (.val cc))),T⟩:=by refine ia (p:=cc) ?_ (aM (λ_=>rfl) _);kernel_rfl
end
theorem yU{α:Type}(g:α->PV){L:List α}{i:Nat}{x:α}(h:L[i]?=some x)(hi:i<1000000):kn (.list (L.map g)) (iN i)=some (g x):=by refine(?_:aw (decide ((0:Int)<=(i:Int))&&decide ((i:Int)<1000000)) ((L.map g)[(i:Int).toNat]?)=_);rw (occs:=.all) [decide_eq_true (ij i),decide_eq_true (by lia:(i:Int)<1000000)];refine(?_:(L.map g)[i]?=_);rw[List.getElem?_map];rw[h];rfl
theorem sG{i n:Nat}(h:i<n):(List.range n)[i]?=some i:=by simp[h]
theorem yt{r:Nat}(h:r<16):kn cc (iN r)=some (iN (tA r)):=by refine(?_:kn (.list (((List.range 16).map tA).map λm=>iN m)) (iN r)=_);exact yU (λm=>iN m) (by rw[List.getElem?_map];rw[sG h];rfl) (by lia)
noncomputable abbrev dG(s:Nat->Bool):PV:=.list ((List.range 16).map λr=>.bool (s r))
theorem ib{s:Nat->Bool}{r:Nat}(h:r<16):kn (dG s) (iN r)=some (.bool (s r)):=yU (λr=>.bool (s r)) (sG h) (by lia)
theorem Fk(s:Nat->Bool):gU 4 (dG s)=true:=f7 (kB (λr=>rfl) _)
theorem vE{s t:Nat->Bool}(h:∀r<16,s r=t r):dG s=dG t:=by
 refine(?_:PV.list _=PV.list _)
 congr 1
 exact List.map_congr_left λr hr=>by rw[h r (bS.mp hr)];rfl
theorem kS(L:List Nat)(r:Nat):((L.filter λm=>eI m r).map λm=>iN m).isEmpty=jc L r:=by
 induction L with
 |nil=>rfl
 |cons m L ih=>
  unfold jc at ih ⊢;rw[List.all_cons];rw[ih.symm];cases h:eI m r with
  |true=>rw[List.filter_cons_of_pos (p:=λm=>eI m r) h];rfl
  |false=>rw[List.filter_cons_of_neg (p:=λm=>eI m r) (by simp[h])];rfl
theorem xu{Φ:fA}{σ:aF}{T:aC}{fp p1 p2:Pos}:((E.callb .range fp (.cons (.cst (.int 16) 0 p1) .nil) p2).sm Φ).evSrc σ T=some (((List.range 16).map λr=>iN r,true),T):=by kernel_rfl
section
variable{f:ax}{T:aC}
theorem lj{e:E}{j k q:Nat}{L:List Nat}{p1 p2 p3 p4 p5 p6 p7 p8 p9:Pos}{sc:Scope}{src:E}{f:ax}{b:Bool}(hj:j<51)(hk:k<51)(hjk:Nat.beq k j=false)(hj20:Nat.beq 20 j=false){r:Nat}(hr:r<16)
  (he:e=.comp (.var j p1) (.one j p2) src (.cons (.cmp .Eq (.bin .BitAnd (.var j p3) (.sub (.var 20 p4) (.var k p5) p6) p7) (.cst (.int 0) 0 p8) p9) .nil) [k,20] sc ⟨0,0,0,0⟩\/∃pp,e=.comp (.var j p1) (.one j p2) src (.cons (.cmp .Eq (.bin .BitAnd (.var j p3) (.sub (.var 20 p4) (.var k p5) p6) p7) (.cst (.int 0) 0 p8) p9) .nil) [k,20] sc pp)
  (hs:(src.sm Φ2).evSrc (az f) T=some ((L.map λm=>iN m,b),T)) (hl:L.length<=cap) (h20:f 20=some (.val cc)) (hfk:f k=aN r):(e.sm Φ2).ev (az f) T=some (.list ((L.filter λm=>eI m r).map λm=>iN m),T):=by
 have he':∃pp,e=.comp (.var j p1) (.one j p2) src (.cons (.cmp .Eq (.bin .BitAnd (.var j p3) (.sub (.var 20 p4) (.var k p5) p6) p7) (.cst (.int 0) 0 p8) p9) .nil) [k,20] sc pp:=he.elim (λh=>⟨_,h⟩) id;refine af he' ?_;clear he';intro pp q1q;subst q1q;refine fW (L:=L) (λm=>iN m) (λg=>g 20=some (.val cc)/\g k=aN r) (λm=>eI m r) (λm=>iN m) rfl hs hl ⟨bP (show[k,20].contains 20=true from ks.mpr kl) h20,bP (show[k,20].contains k=true from ks.mpr iW) hfk⟩
  λm hm g ⟨g20,gk⟩=>⟨aW g j (aN m),e9 rfl,⟨(ck g _ hj20).trans g20,(ck g _ hjk).trans gk⟩,?_,λ_=>⟨aa hj (qi _ _ _),rfl⟩⟩
 refine(?_:((E.cmp .Eq (.bin .BitAnd (.var j p3) (.sub (.var 20 p4) (.var k p5) p6) p7) (.cst (.int 0) 0 p8) p9).sm Φ2).evT (az (aW g j (aN m))) T=_);exact bM (q:=iN 0) (aZ (aa hj (qi _ _ _)) (bg (aa (by decide) ((ck g _ hj20).trans g20)) (aa hk ((ck g _ hjk).trans gk)) (yt hr)) (gt _ _)) rfl (cn _ _)
theorem po(L:List Nat):gU 4 (.list (L.map λm=>iN m))=true:=f7 (mw 3 L)
theorem zi{c:Nat->Nat}(h1:f 1=some (.val (cG (dZ c))))(h20:f 20=some (.val cc)):(aY.nth 11).ex Φ2 (az f) T=some ⟨.next,az (aW f 21 (some (.val (dG (jc (dZ c)))))),T⟩:=by
 have e:=fW (Φ:=Φ2) (e:=(aY.nth 11).e) (f:=f) (T:=T) (b:=true) (L:=List.range 16) (λr=>iN r) (λg=>g 1=some (.val (cG (dZ c)))/\g 20=some (.val cc)) (λ_=>true) (λr=>.bool (jc (dZ c) r)) rfl xu (by simp;unfold cap;lia) ⟨bP rfl h1,bP rfl h20⟩
  λr hr g ⟨g1,g20⟩=>⟨aW g 40 (aN r),e9 rfl,⟨g1,g20⟩,rfl,λ_=>⟨by have i:=lj (T:=T) (e:=(((aY.nth 11).e).elt).lhs) (j:=41) (k:=40) (q:=0) (f:=aW g 40 (aN r)) (L:=dZ c) (by decide) (by decide) rfl rfl (bS.mp hr) (.inr ⟨_,rfl⟩) (pH (by decide) g1 (aM (λ_=>rfl) _) (by show 6<=16777216;decide)) (by show 6<=16777216;decide) g20 rfl;have:=qS (op:=.Eq) (pos:=⟨0,0,0,0⟩) i (b:=.list .nil ⟨0,0,0,0⟩) (q:=.list []) rfl (jM (po _));replace this:=(kS ..)▸this;exact this,rfl⟩⟩
 replace e:=(jg.mpr (λ_ _=>rfl))▸e;exact ia e (aM (λ_=>rfl) _)
end
theorem CG:((List.range 4).map λu=>(List.range 16).map λr=>gW .BitXor (iN r) (iN (2 ^ u)))=(List.range 4).map λu=>(List.range 16).map λr=>some (iN (cg u r)):=by kernel_rfl
theorem As{u r:Nat}(hu:u<4)(hr:r<16):gW .BitXor (iN r) (iN (2 ^ u))=some (iN (cg u r)):=
 (iu.mp ((iu.mp CG) u (bS.mpr hu))) r (bS.mpr hr)
theorem Bx{u:Nat}(hu:u<4):gW .LShift (iN 1) (iN u)=some (iN (2 ^ u)):=by
 match u,hu with
 |0,_=>rfl
 |1,_=>rfl
 |2,_=>rfl
 |3,_=>rfl
noncomputable def fX:S:=(aY.nth 12).body
section
variable{f:ax}{T:aC}
theorem DA{u:Nat}{al:Nat->Bool}(hu:u<4)(h21:f 21=some (.val (dG al)))(h22:f 22=aN u):(fX.nth 0).ex Φ2 (az f) T=some ⟨.next,az (aW f 21 (some (.val (dG λr=>al r||al (cg u r))))),T⟩:=by
 have e:=fW (Φ:=Φ2) (e:=(fX.nth 0).e) (f:=f) (T:=T) (b:=true) (L:=List.range 16) (λr=>iN r) (λg=>g 21=some (.val (dG al))/\g 22=aN u) (λ_=>true) (λr=>.bool (al r||al (cg u r))) rfl xu (by simp;unfold cap;lia) ⟨bP rfl h21,bP rfl h22⟩
  λr hr g ⟨g21,g22⟩=>by
   have hr:=bS.mp hr;refine⟨aW g 42 (aN r),e9 rfl,⟨g21,g22⟩,rfl,λ_=>⟨?_,rfl⟩⟩;have a1:((((fX.nth 0).e.elt).item 0).sm Φ2).ev (az (aW g 42 (aN r))) T=some (.bool (al r),T):=bg (aa (by decide) g21) (aa (by decide) rfl) (ib hr);have a2:((((fX.nth 0).e.elt).item 1).sm Φ2).ev (az (aW g 42 (aN r))) T=some (.bool (al (cg u r)),T):=
    bg (q:=iN (cg u r)) (aa (by decide) g21) (aZ (p:=iN r) (q:=iN (2 ^ u)) (aa (by decide) rfl) (aZ (p:=iN 1) (q:=iN u) rfl (aa (by decide) g22) (Bx hu)) (As hu hr)) (ib (ke hu hr).1)
   refine(?_:Option.bind (((((fX.nth 0).e.elt).item 0).sm Φ2).ev (az (aW g 42 (aN r))) T) _=_);rw[a1];cases h:al r with
   |true=>rfl
   |false=>refine(?_:Option.bind (((((fX.nth 0).e.elt).item 1).sm Φ2).ev (az (aW g 42 (aN r))) T) _=_);rw[a2];rfl
 replace e:=(jg.mpr (λ_ _=>rfl))▸e;exact ia e (aM (λ_=>rfl) _)
theorem Bd{al:Nat->Bool}{M:List Nat}(hM:M.length<=1000)(h20:f 20=some (.val cc))(h21:f 21=some (.val (dG al)))(h23:f 23=some (.val (cG M)))(ha:∀r<16,jc M r=al r):(fX.nth 1).ex Φ2 (az f) T=some ⟨.next,az f,T⟩:=by
 have e:=fW (Φ:=Φ2) (e:=((fX.nth 1).e).lhs) (f:=f) (T:=T) (b:=true) (L:=List.range 16) (λr=>iN r) (λg=>g 23=some (.val (cG M))/\g 20=some (.val cc)) (λ_=>true) (λr=>.bool (jc M r)) rfl xu (by simp;unfold cap;lia) ⟨bP rfl h23,bP rfl h20⟩
  λr hr g ⟨g23,g20⟩=>⟨aW g 43 (aN r),e9 rfl,⟨g23,g20⟩,rfl,λ_=>⟨by have i:=lj (T:=T) (e:=((((fX.nth 1).e).lhs).elt).lhs) (j:=44) (k:=43) (q:=0) (f:=aW g 43 (aN r)) (L:=M) (by decide) (by decide) rfl rfl (bS.mp hr) (.inr ⟨_,rfl⟩) (pH (by decide) g23 (aM (λ_=>rfl) _) (by simp;unfold cap;lia)) (by unfold cap;lia) g20 rfl;have:=qS (op:=.Eq) (pos:=⟨0,0,0,0⟩) i (b:=.list .nil ⟨0,0,0,0⟩) (q:=.list []) rfl (jM (po _));replace this:=(kS ..)▸this;exact this,rfl⟩⟩
 replace e:=(jg.mpr (λ_ _=>rfl))▸e;refine dK (t:=false) (bM e (aa (by decide) h21) (cT (Fk _) (vE ha))) rfl
theorem qg:∀(us:List Nat) {R:MV} {al:Nat->Bool} {f:ax},(∀u∈us,u<4)->TI R->(∀r<16,al r=jc (aO R) r)->f 20=some (.val cc)->f 21=some (.val (dG al)) ->
  ∃g al',(∀i,i<21\/23<i->g i=f i)/\g 21=some (.val (dG al'))/\(∀r<16,al' r=jc (aO (ar us R).1) r)/\cU (aY.nth 12).tg (fX.ex Φ2) (S.nil.ex Φ2) (jJ (us.map iN) ((ar us R).2.map cG)) (az f) T=some ⟨.next,az g,T⟩
 |[],R,al,f,_,_,ha,_,h21=>⟨f,al,λ_ _=>rfl,h21,ha,rfl⟩
 |u :: us,R,al,f,hu,hR,ha,h20,h21=>by
  have hu0:=hu u bW;have t:=hR.elim hu0;have hal:∀r<16,jc (aO (cq u R)) r=(al r||al (cg u r)):=λr hr=>by rw[CE hu0 hR hr];rw[ha r hr];rw[ha _ (ke hu0 hr).1];rfl
  have e1:=DA (T:=T) (f:=aW (aW f 22 (aN u)) 23 (some (.val (cG (aO (cq u R)))))) (al:=al) hu0 h21 rfl;have e2:=Bd (T:=T) (f:=aW (aW (aW f 22 (aN u)) 23 (some (.val (cG (aO (cq u R)))))) 21 (some (.val (dG λr=>al r||al (cg u r))))) (al:=λr=>al r||al (cg u r)) (M:=aO (cq u R)) (by have:=t.length;simpa using this) h20 rfl rfl hal;refine vh (qg us (R:=cq u R) (al:=λr=>al r||al (cg u r)) (f:=aW (aW (aW f 22 (aN u)) 23 (some (.val (cG (aO (cq u R)))))) 21 (some (.val (dG λr=>al r||al (cg u r))))) (λv hv=>hu v (bZ _ hv)) t (λr hr=>(hal r hr).symm) h20 rfl) λg al' k1 k2 k3 e3=>?_;refine⟨g,al',λi hi=>(k1 i hi).trans ?_,k2,k3,?_⟩
  ·have n1:Nat.beq i 21=false:=by cases q:Nat.beq i 21 with|false=>rfl|true=>have:=il q;lia
   have n2:Nat.beq i 22=false:=by cases q:Nat.beq i 22 with|false=>rfl|true=>have:=il q;lia
   have n3:Nat.beq i 23=false:=by cases q:Nat.beq i 23 with|false=>rfl|true=>have:=il q;lia
   rw[ck _ _ n1];rw[ck _ _ n3];rw[ck _ _ n2];rfl
  ·have b:cN (az f) (aY.nth 12).tg (.tuple [iN u,cG (aO (cq u R))])=some (az (aW (aW f 22 (aN u)) 23 (some (.val (cG (aO (cq u R))))))):=kW rfl (pk _);refine(?_:Option.bind (cN (az f) (aY.nth 12).tg (.tuple [iN u,cG (aO (cq u R))])) _=_);rw[b];refine(?_:Option.bind (fX.ex Φ2 (az (aW (aW f 22 (aN u)) 23 (some (.val (cG (aO (cq u R))))))) T) _=_);rw[show fX.ex Φ2 (az (aW (aW f 22 (aN u)) 23 (some (.val (cG (aO (cq u R))))))) T=_ from aE e1 (aE e2 rfl)];exact e3
theorem Am{us:List Nat}{R:MV}{al:Nat->Bool}(hu:∀u∈us,u<4)(hl:us.length<=100)(hR:TI R)(ha:∀r<16,al r=jc (aO R) r)(h4:f 4=some (.val (.list (us.map iN))))(h19:f 19=some (.val (.list ((ar us R).2.map cG))))(h20:f 20=some (.val cc))(h21:f 21=some (.val (dG al))):
  ∃g al',(∀i,i<21\/23<i->g i=f i)/\g 21=some (.val (dG al'))/\(∀r<16,al' r=jc (aO (ar us R).1) r)/\(aY.nth 12).ex Φ2 (az f) T=some ⟨.next,az g,T⟩:=by
 refine vh (qg (T:=T) us hu hR ha h20 h21) λg al' k1 k2 k3 e=>?_;refine⟨g,al',k1,k2,k3,gG (ct (ps:=[.list (us.map iN),.list ((ar us R).2.map cG)]) (aL (aa (by decide) h4) (aL (aa (by decide) h19) ac)) ?_) e⟩;refine(?_:aw (aA (us.map iN)&&aA ((ar us R).2.map cG)) (fit ((us.map iN).length+((ar us R).2.map cG).length) (some (jJ (us.map iN) ((ar us R).2.map cG))))=_);rewrite[aM (λ_=>rfl),aM pk];rw[bN (by have:=sL us R;simp;unfold cap;lia)];rfl
end
section
variable{Φ:fA}{σ:aF}{T:aC}{a b:E}{pos:Pos}
theorem sP(h:(a.sm Φ).evT σ T=some (false,T)):((E.cons a b).sm Φ).evAll .And σ T=some (false,T):=by refine(?_:((a.sm Φ).evT σ T).bind _=_);rw[h];rfl
theorem Bc{t:Bool}(h:(a.sm Φ).evT σ T=some (t,T))(k:(b.sm Φ).evAll .And σ T=some (false,T)):((E.cons a b).sm Φ).evAll .And σ T=some (false,T):=by
 refine(?_:((a.sm Φ).evT σ T).bind _=_);rw[h];cases t with
 |true=>exact k
 |false=>rfl
theorem B6(h:(a.sm Φ).evT σ T=some (false,T)):((E.bool .And (.cons a (.cons b .nil)) pos).sm Φ).evT σ T=some (false,T):=sP h
theorem BD{t:Bool}(h:(a.sm Φ).evT σ T=some (t,T))(k:(b.sm Φ).evT σ T=some (false,T)):((E.bool .And (.cons a (.cons b .nil)) pos).sm Φ).evT σ T=some (false,T):=Bc h (sP k)
end
theorem wG(a b:Nat):nN .NotEq (iN a) (iN b)=some (!(a==b)):=by have h:=cn a b;have e:PyData.eqv (.int (a:Int)) (.int (b:Int))=(a==b):=Option.some.inj h;refine(?_:some (!PyData.eqv (.int (a:Int)) (.int (b:Int)))=_);rw[e];rfl
section
variable{f:ax}{wd:Nat->Str}{c:Nat->Nat}{T:aC}
theorem Ct:aS (sx "none")=true:=by decide +kernel
theorem BP(O:wC c){R:MV}(hR:TI R)(hz:∀m,m≠0->R.lookup m=none)(h11:f 11=some (.val .tab))(h18:f 18=some (.val (fZ wd c))):(aY.nth 13).ex Φ2 (az f) (aD wd R)=some ⟨.next,az f,aD wd R⟩:=by
 have hl1:=(jX O).length;have e1:=fW (Φ:=Φ2) (e:=((aY.nth 13).e).lhs) (f:=f) (T:=aD wd R) (b:=true) (L:=R1 c) (λp=>.tuple [.str (aR p.1),.str (wd (eG c p.1))]) (λg=>g 11=some (.val .tab)) (λ_=>true) (λp=>ko (sx "none")) rfl (pH (by decide) h18 (aM (λ_=>rfl) _) (by simp;unfold cap;lia)) (by unfold cap;lia) (bP rfl h11)
  λp hp g g11=>⟨aW (aW g 45 (some (.val (.str (aR p.1))))) 46 (some (.val (.str (wd (eG c p.1))))),kW rfl rfl,g11,rfl,λ_=>⟨by
   have hm:=O.g _ (nF hp).1;have hk:=i9 (wd:=wd) hm (lQ _) hR.goods;replace hk:=hz _ (O.nz _ (nF hp).1)▸hk;have:=Br (Φ:=Φ2) (σ:=az (aW (aW g 45 (some (.val (.str (aR p.1))))) 46 (some (.val (.str (wd (eG c p.1))))))) (T:=aD wd R) (a:=.var 45 ⟨0,0,0,0⟩) (b:=.cst (.str (sx "none")) 0 ⟨0,0,0,0⟩) (j:=11) (x:=aR p.1) (d:=sx "none") (np:=⟨0,0,0,0⟩) (ip:=⟨0,0,0,0⟩) (ap:=⟨0,0,0,0⟩) (bp:=⟨0,0,0,0⟩) (pos:=⟨0,0,0,0⟩)
    (aa (by decide) rfl) rfl (by rw[mP _ (by decide)];exact g11) (dl hm) Ct (by simpa[aD]using hR.length)
   replace this:=hk▸this;exact this,rfl⟩⟩
 have e2:=fW (Φ:=Φ2) (e:=((aY.nth 13).e).rhs) (f:=f) (T:=aD wd R) (b:=true) (L:=R1 c) (λp=>.tuple [.str (aR p.1),.str (wd (eG c p.1))]) (λg=>True) (λ_=>true) (λp=>ko (sx "none")) rfl (pH (by decide) h18 (aM (λ_=>rfl) _) (by simp;unfold cap;lia)) (by unfold cap;lia) trivial
  λp hp g _=>⟨aW (aW g 47 (some (.val (.str (aR p.1))))) 48 (some (.val (.str (wd (eG c p.1))))),kW rfl rfl,trivial,rfl,λ_=>⟨jy (ps:=[.str (sx "none"),.str (sx "none")]) rfl (by show 2<=16777216;decide),rfl⟩⟩
 have d:gU 4 (.list ((List.filter (λ_=>true) (R1 c)).map λ_=>ko (sx "none")))=true:=f7 (kB (λ_=>by refine(?_:(gU 2 (.str (sx "none"))&&(gU 2 (.str (sx "none"))&&true))=true);rewrite[zA Ct];rfl) _)
 exact dK (t:=false) (bM e1 e2 (cT d rfl)) rfl
theorem AM{R:MV}(hR:TI R)(h11:f 11=some (.val .tab)):(aY.nth 14).ex Φ2 (az f) (aD wd R)=some ⟨.next,az (aW f 24 (some (.val (.list (R.map λp=>.tuple [.str (aR p.1),.str (wd p.2)]))))),aD wd R⟩:=by refine ia (ci (p:=.tab) (ps:=[]) (aa (by decide) h11) ac ?_) (aM (λ_=>rfl) _);refine(?_:aw (Nat.ble (aD wd R).length 1000) (some (PV.list ((aD wd R).map λr=>.tuple [.str r.1,.str r.2]),_))=_);rw[eJ (by simpa[aD]using hR.length)];rewrite[aD];rw[jR];rfl
theorem A1{al:Nat->Bool}(h21:f 21=some (.val (dG al)))(ha:al 0=true)(h24:f 24=some (.val (.list []))):(aY.nth 15).ex Φ2 (az f) T=some ⟨.ret (.bool true),az f,T⟩:=by
 have e0:∀{p1 p2 p3:Pos},((E.sub (.var 21 p1) (.cst (.int 0) 0 p2) p3).sm Φ2).ev (az f) T=some (.bool true,T):=by intro p1 p2 p3;have:=bg (Φ:=Φ2) (σ:=az f) (T:=T) (a:=.var 21 p1) (i:=.cst (.int 0) 0 p2) (pos:=p3) (q:=iN 0) (aa (by decide) h21) rfl (ib (by decide));replace this:=ha▸this;exact this
 refine dK (t:=true) (show(((aY.nth 15).e).sm Φ2).evT (az f) T=_ from EM (xq (q:=iN 0) (aa (by decide) h21) rfl (ib (r:=0) (by decide)) (by rw[ha];rfl))) (i5 (wL ?_));refine(?_:Option.bind (((((aY.nth 15).body.nth 0).e.item 0).sm Φ2).ev (az f) T) _=_);rw[show((((aY.nth 15).body.nth 0).e.item 0).sm Φ2).ev (az f) T=some (.bool true,T)from e0];refine(?_:Option.bind (((((aY.nth 15).body.nth 0).e.item 1).sm Φ2).ev (az f) T) _=_);rw[show((((aY.nth 15).body.nth 0).e.item 1).sm Φ2).ev (az f) T=some (.bool true,T)from qS (aa (by decide) h24) (q:=.list []) rfl rfl];rfl
theorem A5{al:Nat->Bool}{x:PV}(h21:f 21=some (.val (dG al)))(ha:al 0=false)(h24:f 24=some (.val (.list [x]))):(aY.nth 15).ex Φ2 (az f) T=some ⟨.next,az f,T⟩:=by refine dK (t:=false) (show(((aY.nth 15).e).sm Φ2).evT (az f) T=_ from sw (xq (q:=iN 0) (aa (by decide) h21) rfl (ib (r:=0) (by decide)) (by rw[ha];rfl)) (sw (bM (p:=iN 1) (q:=iN 1) (iX (ps:=[.list [x]]) (aL (aa (by decide) h24) ac) rfl) rfl (wG 1 1)) rfl)) rfl
theorem uo(W:bX wd){v:Nat}(hv:v<16){x:Str}(h10:f 10=some (.val (cu wd)))(h24:f 24=some (.val (.list [.tuple [.str x,.str (wd v)]]))):(aY.nth 16).ex Φ2 (az f) T=some ⟨.next,az (aW f 25 (aN v)),T⟩:=
 ia (ci (p:=cu wd) (ps:=[.str (wd v)]) (aa (by decide) h10) (aL (bg (p:=.tuple [.str x,.str (wd v)]) (q:=.int 1) (bg (p:=.list [.tuple [.str x,.str (wd v)]]) (q:=.int 0) (aa (by decide) h24) rfl rfl) rfl rfl) ac) (W.idx v hv T)) rfl
theorem Ga(c:Nat->Nat):zj (cG (dZ c)) (.int 3) .none .none=some (cG [c 3,c 4,c 5]):=by kernel_rfl
noncomputable def iD:S:=(aY.nth 17).body
theorem AP{v:Nat}(hA:∀r<16,tv v r=false->jc [c 0,c 1,c 2] r=false)(hB:∀r<16,tv v r=true->jc [c 3,c 4,c 5] r=false)(h1:f 1=some (.val (cG (dZ c))))(h20:f 20=some (.val cc))(h25:f 25=aN v):
  ∃g,(aY.nth 17).ex Φ2 (az f) T=some ⟨.next,az g,T⟩:=by
 have key:=iO (β:=Unit) (tg:=(aY.nth 17).tg) (body:=iD.ex Φ2) (els:=S.nil.ex Φ2) (λr:Nat=>iN r) (λ_ σ=>∃g,σ=az g/\g 1=some (.val (cG (dZ c)))/\g 20=some (.val cc)/\g 25=aN v) (λ_=>T) (λ_ _=>()) (λ_ _=>rfl) (L:=List.range 16)
  (λr hr _ σ ⟨g,e,g1,g20,g25⟩=>by
   subst e;have hr:=bS.mp hr;have b0:(iD.nth 0).ex Φ2 (az (aW g 17 (aN r))) T=some ⟨.next,az (aW (aW g 17 (aN r)) 8 (aN (v >>> (2*(r >>> 1 &&& 1)+(r >>> 2 &&& 1)) &&& 1))),T⟩:=by have v17:∀{pos:Pos},((E.var 17 pos).sm Φ2).ev (az (aW g 17 (aN r))) T=some (iN r,T):=λ{_}=>aa (by decide) rfl;exact ia (aZ (q:=iN 1) (aZ (p:=iN v) (aa (by decide) g25) (aZ (p:=iN (2*(r >>> 1 &&& 1))) (q:=iN (r >>> 2 &&& 1)) (aZ (p:=iN 2) (q:=iN (r >>> 1 &&& 1)) rfl (aZ (q:=iN 1) (aZ (q:=iN 1) v17 rfl (kO _ _)) rfl (gt _ _)) (o8 _)) (aZ (q:=iN 1) (aZ (q:=iN 2) v17 rfl (kO _ _)) rfl (gt _ _)) (yc _ _)) (kO _ _)) rfl (gt _ _)) rfl
   generalize hw:v >>> (2*(r >>> 1 &&& 1)+(r >>> 2 &&& 1)) &&& 1=w at b0;have htv:tv v r=(w==1):=by rw[hw.symm];rfl
   have w01:w=0\/w=1:=by have:=Nat.and_le_right (n:=v >>> (2*(r >>> 1 &&& 1)+(r >>> 2 &&& 1))) (m:=1);lia
   have q1:(aW (aW g 17 (aN r)) 8 (aN w)) 1=some (.val (cG (dZ c))):=g1;have iA:=lj (T:=T) (e:=(((iD.nth 1).e).item 1).lhs) (j:=49) (k:=17) (q:=0) (f:=aW (aW g 17 (aN r)) 8 (aN w)) (L:=[c 0,c 1,c 2]) (by decide) (by decide) rfl rfl hr (.inr ⟨_,rfl⟩) (sK (jO (o:=cG (dZ c)) (lo:=.none) (hi:=.int 3) (st:=.none) (r:=cG [c 0,c 1,c 2]) (aa (by decide) q1) rfl rfl rfl rfl) (aM (λ_=>rfl) _) (by show 3<=16777216;decide)) (by show 3<=16777216;decide) g20 rfl;have iB:=lj (T:=T) (e:=(((iD.nth 2).e).item 1).lhs) (j:=50) (k:=17) (q:=0) (f:=aW (aW g 17 (aN r)) 8 (aN w)) (L:=[c 3,c 4,c 5]) (by decide) (by decide) rfl rfl hr (.inr ⟨_,rfl⟩) (sK (jO (o:=cG (dZ c)) (lo:=.int 3) (hi:=.none) (st:=.none) (r:=cG [c 3,c 4,c 5]) (aa (by decide) q1) rfl rfl rfl (Ga c)) (aM (λ_=>rfl) _) (by show 3<=16777216;decide)) (by show 3<=16777216;decide) g20 rfl;have cA:((((iD.nth 1).e).item 1).sm Φ2).evT (az (aW (aW g 17 (aN r)) 8 (aN w))) T=some (jc [c 0,c 1,c 2] r,T):=by have:=bM (op:=.Eq) (pos:=⟨0,0,0,0⟩) iA (b:=.list .nil ⟨0,0,0,0⟩) (q:=.list []) rfl (jM (po _));replace this:=(kS ..)▸this;exact this
   have cB:((((iD.nth 2).e).item 1).sm Φ2).evT (az (aW (aW g 17 (aN r)) 8 (aN w))) T=some (jc [c 3,c 4,c 5] r,T):=by have:=bM (op:=.Eq) (pos:=⟨0,0,0,0⟩) iB (b:=.list .nil ⟨0,0,0,0⟩) (q:=.list []) rfl (jM (po _));replace this:=(kS ..)▸this;exact this
   have e8:∀{pos:Pos},((E.var 8 pos).sm Φ2).ev (az (aW (aW g 17 (aN r)) 8 (aN w))) T=some (iN w,T):=λ{_}=>aa (by decide) rfl;have b1:(iD.nth 1).ex Φ2 (az (aW (aW g 17 (aN r)) 8 (aN w))) T=some ⟨.next,az (aW (aW g 17 (aN r)) 8 (aN w)),T⟩:=by
    refine dK (t:=false) (show(((iD.nth 1).e).sm Φ2).evT _ T=_ from ?_) rfl;rcases w01 with rfl|rfl
    ·refine BD (bM e8 (q:=iN 0) rfl (cn _ _)) ?_;replace cA:=hA r hr (by rw[htv];rfl)▸cA;exact cA
    ·exact B6 (bM e8 (q:=iN 0) rfl (cn 1 0))
   have b2:(iD.nth 2).ex Φ2 (az (aW (aW g 17 (aN r)) 8 (aN w))) T=some ⟨.next,az (aW (aW g 17 (aN r)) 8 (aN w)),T⟩:=by
    refine dK (t:=false) (show(((iD.nth 2).e).sm Φ2).evT _ T=_ from ?_) rfl;rcases w01 with rfl|rfl
    ·exact B6 (bM e8 (q:=iN 1) rfl (cn 0 1))
    ·refine BD (bM e8 (q:=iN 1) rfl (cn _ _)) ?_;replace cB:=hB r hr (by rw[htv];rfl)▸cB;exact cB
   exact⟨_,_,e9 rfl,aE b0 (aE b1 (aE b2 rfl)),_,rfl,g1,g20,g25⟩) () (az f) ⟨f,rfl,h1,h20,h25⟩
 obtain⟨σ',⟨g,rfl,_⟩,e⟩:=key;exact⟨g,gG xu e⟩
end
theorem zW{L M:List Nat}(h:∀m,m∈L↔m∈M)(r:Nat):jc L r=jc M r:=by unfold jc;rewrite[Bool.eq_iff_iff,bD,bD];exact⟨λk m hm=>k m ((h m).mpr hm),λk m hm=>k m ((h m).mp hm)⟩
theorem FB:((List.range 16).all λr=> !(tv 0 r)&&(tv 15 r&&eI 0 r))=true:=by decide +kernel
theorem Ac{r:Nat}(hr:r<16):tv 0 r=false/\tv 15 r=true/\eI 0 r=true:=by have h:=FB;rewrite[bD]at h;have:=h r (bS.mpr hr);simpa using this
section
variable{wd:Nat->Str}{c:Nat->Nat}
theorem DR(c:Nat->Nat):vy [c 0,c 1,c 2] [c 3,c 4,c 5] (R1 c):=by
 intro x hx r hr f;have h:=(nF hx).2;refine km (Ac hr) λt0 t1 _=>?_;have ka:∀{m:Nat},m∈[c 0,c 1,c 2]->x=(m,0)->(tv x.2 r=false->∃a∈[c 0,c 1,c 2],eI a r=true)/\(tv x.2 r=true->∃b∈[c 3,c 4,c 5],eI b r=true):=λ{m} hm e=>by subst e;exact⟨λ_=>⟨m,hm,f⟩,λq=>by replace q:=(show tv (m,0).2 r=tv 0 r from rfl)▸q;replace q:=t0▸q;exact fT q⟩
 have kb:∀{m:Nat},m∈[c 3,c 4,c 5]->x=(m,15)->(tv x.2 r=false->∃a∈[c 0,c 1,c 2],eI a r=true)/\(tv x.2 r=true->∃b∈[c 3,c 4,c 5],eI b r=true):=λ{m} hm e=>by subst e;exact⟨λq=>(by replace q:=(show tv (m,15).2 r=tv 15 r from rfl)▸q;replace q:=t1▸q;exact tF q),λ_=>⟨m,hm,f⟩⟩
 have h':x=(c 0,0)\/x=(c 1,0)\/x=(c 2,0)\/x=(c 3,15)\/x=(c 4,15)\/x=(c 5,15):=by simpa using h
 rcases h' with e|e|e|e|e|e
 ·exact ka iW e
 ·exact ka kl e
 ·exact ka mf e
 ·exact kb iW e
 ·exact kb kl e
 ·exact kb mf e
theorem DP(W:bX wd)(O:wC c){us:List Nat}(hu:∀u∈us,u<4)(hl:us.length<=100)(hall:∀w<4,w∈us){f:ax}{text:Str}(h1:f 1=some (.val (cG (dZ c))))(h2:f 2=some (.val (.str text)))(h4:f 4=some (.val (.list (us.map iN))))(h9:f 9=some (.val (cG (dZ c))))(h10:f 10=some (.val (cu wd)))(h11:f 11=some (.val .tab))
  (hsaid:(aY.nth 0).ex Φ2 (az f) []=some ⟨.next,az (aW f 12 (some (.val (cu wd)))),[]⟩) (hread:Φ2 .read [.str text] []=some (cG (dZ c),[])):∃σ T,aY.ex Φ2 (az f) []=some ⟨.ret (.bool true),σ,T⟩:=by
 have dC:gU 4 (cG (dZ c))=true:=po _;have dW:gU 4 (cu wd)=true:=f7 (lu λv hv=>zA (W.ok v (bS.mp hv)) 3);have s1:(aY.nth 1).ex Φ2 (az (aW f 12 (some (.val (cu wd))))) []=some ⟨.next,az (aW f 12 (some (.val (cu wd)))),[]⟩:=
  dK (t:=false) (show(((aY.nth 1).e).sm Φ2).evT _ []=_ from sw (bM (aa (by decide) h9) (aa (by decide) h1) (cT dC rfl)) (sw (bM (fU (ps:=[.str text]) (aL (aa (by decide) h2) ac) rfl hread) (aa (by decide) h1) (cT dC rfl)) (sw (bM (aa (by decide) h10) (aa (by decide) rfl) (cT dW rfl)) rfl))) rfl
 have s2:=AC (f:=aW f 12 (some (.val (cu wd)))) (T:=[]) O h9;have s3:=CN (f:=aW (aW f 12 (some (.val (cu wd)))) 13 (some (.val (jB c)))) W O h10 h11 rfl;replace s3:=Aq▸s3;have s4:=y6 (f:=aW (aW (aW f 12 (some (.val (cu wd)))) 13 (some (.val (jB c)))) 14 (some (.val (jZ wd c)))) W O h10 h11 rfl;have s5:=DT (f:=aW (aW (aW (aW f 12 (some (.val (cu wd)))) 13 (some (.val (jB c)))) 14 (some (.val (jZ wd c)))) 15 (some (.val (jZ wd c)))) (T:=aD wd (R1 c)) W h1 h10;generalize hf5:aW (aW (aW (aW (aW f 12 (some (.val (cu wd)))) 13 (some (.val (jB c)))) 14 (some (.val (jZ wd c)))) 15 (some (.val (jZ wd c)))) 16 (some (.val (jZ wd c)))=f5 at s5;have k1:f5 1=some (.val (cG (dZ c))):=by rw[hf5.symm];exact h1
 have k4:f5 4=some (.val (.list (us.map iN))):=by rw[hf5.symm];exact h4
 have k10:f5 10=some (.val (cu wd)):=by rw[hf5.symm];exact h10
 have k11:f5 11=some (.val .tab):=by rw[hf5.symm];exact h11
 have k14:f5 14=some (.val (jZ wd c)):=by rw[hf5.symm];rfl
 have k15:f5 15=some (.val (jZ wd c)):=by rw[hf5.symm];rfl
 have k16:f5 16=some (.val (jZ wd c)):=by rw[hf5.symm];rfl
 have s6:=yl (f:=f5) (T:=aD wd (R1 c)) O k1 k16;have s7:=BS (f:=aW f5 18 (some (.val (fZ wd c)))) W O k10 k11;have s8:=ww (f:=aW f5 18 (some (.val (fZ wd c)))) W O k11 k14 k15 k16 rfl;have s9:=B7 (f:=aW f5 18 (some (.val (fZ wd c)))) W O hu hl k4 k10 k11;generalize hf9:aW (aW f5 18 (some (.val (fZ wd c)))) 19 (some (.val (.list ((ar us (R1 c)).2.map cG))))=f9 at s9;have q1:f9 1=some (.val (cG (dZ c))):=by rw[hf9.symm];exact k1
 have q4:f9 4=some (.val (.list (us.map iN))):=by rw[hf9.symm];exact k4
 have q10:f9 10=some (.val (cu wd)):=by rw[hf9.symm];exact k10
 have q11:f9 11=some (.val .tab):=by rw[hf9.symm];exact k11
 have q18:f9 18=some (.val (fZ wd c)):=by rw[hf9.symm];rfl
 have q19:f9 19=some (.val (.list ((ar us (R1 c)).2.map cG))):=by rw[hf9.symm];rfl
 have ti:=o7 hu (jX O);have s10:=wZ (f:=f9) (T:=aD wd (ar us (R1 c)).1);have s11:=zi (f:=aW f9 20 (some (.val cc))) (T:=aD wd (ar us (R1 c)).1) (c:=c) q1 rfl;have hsat:∀r<16,jc (dZ c) r=jc (aO (R1 c)) r:=λr _=>zW (λm=>⟨xj,λhm=>by refine aP (cH.mp hm) λx hx e=>?_;exact e▸(nF hx).1⟩) r
 refine vh (Am (f:=aW (aW f9 20 (some (.val cc))) 21 (some (.val (dG (jc (dZ c)))))) (T:=aD wd (ar us (R1 c)).1) (al:=jc (dZ c)) hu hl (jX O) hsat q4 q19 rfl rfl) λg al g0 g21 gal s12=>?_;have p1:g 1=some (.val (cG (dZ c))):=(g0 1 (by decide)).trans q1;have p10:g 10=some (.val (cu wd)):=(g0 10 (by decide)).trans q10;have p11:g 11=some (.val .tab):=(g0 11 (by decide)).trans q11;have p18:g 18=some (.val (fZ wd c)):=(g0 18 (by decide)).trans q18;have p20:g 20=some (.val cc):=(g0 20 (by decide)).trans rfl;have hend:=yw hu hall (jX O);have hz:∀m,m≠0->(ar us (R1 c)).1.lookup m=none:=λm hm=>by
  rcases hend with e|⟨v,_,e⟩<;>rw[e]
  ·rfl
  ·rw[fh];have:(m==0)=false:=by simpa using hm
   rw[this];rfl
 have s13:=BP (f:=g) (wd:=wd) O ti hz p11 p18;have s14:=AM (f:=g) (wd:=wd) ti p11;have head:∀{r:Option AE},(aY.tail 15).ex Φ2 (az (aW g 24 (some (.val (.list ((ar us (R1 c)).1.map λp=>.tuple [.str (aR p.1),.str (wd p.2)])))))) (aD wd (ar us (R1 c)).1)=r->aY.ex Φ2 (az f) []=r:=λ{r} k=>
  aE hsaid (aE s1 (aE s2 (aE s3 (aE s4 (aE s5 (aE s6 (aE s7 (aE s8 (aE s9 (aE s10 (aE s11 (aE s12 (aE s13 (aE s14 k))))))))))))))
 rcases hend with e|⟨v,hv,e⟩
 ·have ha:al 0=true:=by rw[gal 0 (by decide)];rw[e];rfl
  exact⟨_,_,head (i5 (A1 g21 ha (by rw[e];rfl)))⟩
 ·have ha:al 0=false:=by rw[gal 0 (by decide)];rw[e];show jc [0] 0=false;decide +kernel
  have hcr:=oF (A:=[c 0,c 1,c 2]) (B:=[c 3,c 4,c 5]) (λa ha=>⟨O.g a (by simp at ha ⊢;rcases ha with h|h|h<;>simp[h]),O.a a ha⟩) (λb hb=>⟨O.g b (by simp at hb ⊢;rcases hb with h|h|h<;>simp[h]),O.b b hb⟩) hu (jX O) (DR c);have h0:=λr (hr:r<16)=>hcr (0,v) (by rw[e];exact ju.mpr rfl) r hr (Ac hr).2.2;have s15:=A5 (f:=aW g 24 (some (.val (.list ((ar us (R1 c)).1.map λp=>.tuple [.str (aR p.1),.str (wd p.2)]))))) (T:=aD wd (ar us (R1 c)).1) (x:=.tuple [.str (aR 0),.str (wd v)]) g21 ha (by rw[e];rfl);have s16:=uo (f:=aW g 24 (some (.val (.list ((ar us (R1 c)).1.map λp=>.tuple [.str (aR p.1),.str (wd p.2)]))))) (T:=aD wd (ar us (R1 c)).1) (x:=aR 0) W hv p10 (by rw[e];rfl);refine af (AP (f:=aW (aW g 24 (some (.val (.list ((ar us (R1 c)).1.map λp=>.tuple [.str (aR p.1),.str (wd p.2)]))))) 25 (aN v)) (T:=aD wd (ar us (R1 c)).1) (c:=c) (v:=v) (λr hr t=>let ⟨a,ha,fa⟩:=(h0 r hr).1 t;i8 ha fa) (λr hr t=>let ⟨b,hb,fb⟩:=(h0 r hr).2 t;i8 hb fb) p1 p20 rfl) λg' s17=>?_;exact⟨_,_,head (aE s15 (aE s16 (aE s17 (i5 rfl))))⟩
end
noncomputable abbrev ee:=PySem.W.KBw.IsBytesIter
section
variable{prog:Program}{w:World}{A:Around}{E:aJ Value}{s:Shared}{b:Array UInt8}{t:Tok}
theorem sr{it:Addr}{i:Nat}{c:UInt8}{Q:Option Value->Shared->Prop}(hit:ee s.heap it b t i)(hx:b[i]?=some c)
  (hQ:∀h',ee h' it b t (i+1)->Heap.SameBut it s.heap h'->Q (some (.int (c.toNat:Int) s.toks)) { s with heap:=h',toks:=s.toks+1 }):wpAny (model prog w) A (callSpecial? (.ref it) "__next__") Q E s:=by
 refine d1 (id hit) λo ho hc hd=>?_;refine wpAny_callSpecial?_slot (name:=PySem.Str.ofString "__next__") (PySem.W.KBw.iter_typeIs hit) PySem.W.KBw.slot_next
  (wpAny_call_entry PySem.W.KBw.slot_next (PySem.W.KBw.iter_typeIs hit) PySem.W.KBw.entry_next ?_ (PySem.W.KBw.args_next _))
 refine(?_:wpAny _ _ (field (.ref it) 0 >>= _) _ _ s);refine wpAny_bind (wpAny_field ho hd (x:=.bytes b t) rfl ?_);refine(?_:wpAny _ _ (if (Value.bytes b t==Value.none)=true then _ else _) _ _ s);rw[if_neg (show ¬((Value.bytes b t==Value.none)=true)from j9)];refine(?_:wpAny _ _ (field (.ref it) 1 >>= _) _ _ s);refine wpAny_bind (wpAny_field ho hd (x:=.int i 0) rfl ?_);refine wpAny_bind (wpAny_of_eq (a:=b) rfl ?_);simp only[Int.toNat_natCast,hx];refine wpAny_bind (wpAny_setField ho hd (eE (dh _)) (wpAny_bind (wpAny_mkInt (wpAny_pure ⟨_,rfl,hQ _ ?_ (Heap.SameBut.update ..)⟩))));exact⟨_,qo _ ho (sI (oG hd _)),(Obj.cls_mapFields ..).trans hc,by rewrite[oG hd];simp[rawInt]⟩
noncomputable def sY(h h':Heap)(it e:Addr):Prop:=
 (∀b o,b≠it->h.get? b=some o->h'.get? b=some o)/\h.get? e=none/\h'.get? it≠none/\∃oe vs,h'.get? e=some oe/\oe.cls=.type "StopIteration"/\oe.data=.fields vs/\vs[1]?=some .none
theorem vw{it:Addr}{i:Nat}{Q:Option Value->Shared->Prop}(hh:A.handled=none)(hit:ee s.heap it b t i)(hx:b[i]?=none)
  (hE:∀h' e,sY s.heap h' it e->E (.ref e) { s with heap:=h' }):wpAny (model prog w) A (callSpecial? (.ref it) "__next__") Q E s:=by
 refine d1 (id hit) λo ho hc hd=>?_;refine wpAny_callSpecial?_slot (name:=PySem.Str.ofString "__next__") (PySem.W.KBw.iter_typeIs hit) PySem.W.KBw.slot_next
  (wpAny_call_entry PySem.W.KBw.slot_next (PySem.W.KBw.iter_typeIs hit) PySem.W.KBw.entry_next ?_ (PySem.W.KBw.args_next _))
 refine(?_:wpAny _ _ (field (.ref it) 0 >>= _) _ _ s);refine wpAny_bind (wpAny_field ho hd (x:=.bytes b t) rfl ?_);refine(?_:wpAny _ _ (if (Value.bytes b t==Value.none)=true then _ else _) _ _ s);rw[if_neg (show ¬((Value.bytes b t==Value.none)=true)from j9)];refine(?_:wpAny _ _ (field (.ref it) 1 >>= _) _ _ s);refine wpAny_bind (wpAny_field ho hd (x:=.int i 0) rfl ?_);refine wpAny_bind (wpAny_of_eq (a:=b) rfl ?_);simp only[Int.toNat_natCast,hx];refine wpAny_bind (wpAny_rule (wpAny_bind (wpAny_setField ho hd (dh _) ?_)));refine(?_:wpAny _ _ (newExc (.type "StopIteration") [] >>= _) _ _ _);refine wpAny_bind ?_;simp only[newExc,newTuple];refine wpAny_bind (wpAny_newObj_type ?_ (by size_fits));refine wpAny_bind (m:=firstArgMember _ _) (wpAny_of_eq (a:=Value.none) (by first|rfl|(simp only[firstArgMember];rfl)) ?_);refine wpAny_newObj_type ?_ (by size_fits);simp only[raiseNew];refine wpAny_bind (wpAny_handled ?_);rw[show A.in1.handled=none from hh];refine wpAny_bind (wpAny_pure (wpAny_throw ?_));refine hE _ _ ⟨λb' o' ne e=>bK _ (bK _ (((Heap.SameBut.update s.heap it (Obj.mapFields (·.setIfInBounds 0 .none))).2 b' ne).trans e)),?_,?_,_,_,cZ _ rfl,rfl,rfl,rfl⟩
 ·refine gi ?_;rw[fE ..];rw[(Heap.SameBut.update s.heap it (Obj.mapFields (·.setIfInBounds 0 .none))).1];exact Nat.le_succ _
 ·rw[bK _ (bK _ (qo (Obj.mapFields (·.setIfInBounds 0 .none)) ho (sI (oG hd _))))];exact λq=>nomatch q
theorem mK{it:Addr}{i:Nat}{c:UInt8}{Q:aJ Value}(hit:ee s.heap it b t i)(hx:b[i]?=some c)
  (hQ:∀h',ee h' it b t (i+1)->Heap.SameBut it s.heap h'->Q (.int (c.toNat:Int) s.toks) { s with heap:=h',toks:=s.toks+1 }):wpAny (model prog w) A (call (.builtin "next") [.ref it]) Q E s:=by
 refine PySem.Calls.call_function_entry (by decide +kernel) (by decide +kernel) kdk_entry_next (kdk_args_next _) ?_;unfold Builtin.«next»
 refine wpAny_bind (m:=someArgs "next" 1 2 _) (wpAny_of_eq (a:=[Value.ref it]) (by first|rfl|kernel_rfl!) ?_);dsimp only;refine wpAny_bind (wpAny_specialOf (name:=PySem.Str.ofString "__next__") (PySem.W.KBw.iter_typeIs hit) PySem.W.KBw.slot_next.lookup ?_);refine wpAny_ite_split (λhab=>absurd hab (by decide)) (λ_=>?_);exact wpAny_bind (sr hit hx λh' h1 h2=>wpAny_pure ⟨_,rfl,hQ h' h1 h2⟩)
theorem nc{it:Addr}{i:Nat}{Q:aJ Value}(hh:A.handled=none)(hit:ee s.heap it b t i)(hx:b[i]?=none)
  (hE:∀h' e,sY s.heap h' it e->E (.ref e) { s with heap:=h' }):wpAny (model prog w) A (call (.builtin "next") [.ref it]) Q E s:=by
 refine PySem.Calls.call_function_entry (by decide +kernel) (by decide +kernel) kdk_entry_next (kdk_args_next _) ?_;unfold Builtin.«next»
 refine wpAny_bind (m:=someArgs "next" 1 2 _) (wpAny_of_eq (a:=[Value.ref it]) (by first|rfl|kernel_rfl!) ?_);dsimp only;refine wpAny_bind (wpAny_specialOf (name:=PySem.Str.ofString "__next__") (PySem.W.KBw.iter_typeIs hit) PySem.W.KBw.slot_next.lookup ?_);refine wpAny_ite_split (λhab=>absurd hab (by decide)) (λ_=>?_);exact wpAny_bind (vw (A:=A.in1) hh hit hx hE)
end
noncomputable def EG(bs h0 h:Heap)(e:Addr)(fl:Value):Prop:=
 ∃oe vs T oT ts,h.get? e=some oe/\oe.cls=.type "StopIteration"/\oe.data=.fields vs/\vs[1]?=some (.ref T)/\(bs.get? T=none/\h0.get? T=none)/\T≠e/\h.get? T=some oT/\oT.data=.fields ts/\ts[3]?=some fl
noncomputable def sz(D P:Addr->Prop)(h0 h:Heap):Prop:=∀b o,h0.get? b=some o->¬D b->∃sl,h.get? b=some { o with slots:=sl }/\(¬P b->sl=o.slots)
theorem sz.then{D P:Addr->Prop}{h0 h h':Heap}(k:sz D P h0 h)(hk:∀b o,h0.get? b≠none->h.get? b=some o->h'.get? b=some o):sz D P h0 h':=λb o e d=>by refine aP (k b o e d) λsl q r=>?_;exact⟨sl,hk b _ (by rw[e];exact λq=>nomatch q) q,r⟩
structure jb(bs:Heap)(D P:Addr->Prop)(l:List Env)(h0 h:Heap)(e:Addr)(fl:Value):Prop where
 stays:bs.StaysIn h
 new:bs.get? e=none/\h0.get? e=none
 fr:h.FunFrames bs l
 inP:∀b∈l.filterMap (·.frame),P b
 tr:EG bs h0 h e fl
 slots:sz D P h0 h
 al:∀b,h0.get? b≠none->h.get? b≠none
theorem jb.outer{bs:Heap}{D P:Addr->Prop}{env:Env}{l:List Env}{h0 h:Heap}{e:Addr}{fl:Value}(x:jb bs D P (env :: l) h0 h e fl):jb bs D P l h0 h e fl:=
 ⟨x.stays,x.new,x.fr.2.2,λb hb=>x.inP b (by rw[nv];split<;>first|exact hb|exact bZ _ hb),x.tr,x.slots,x.al⟩
section
variable{M:Model}{A:Around}{E:aJ Value}{s:Shared}{bs:Heap}{D P:Addr->Prop}{env:Env}{l:List Env}{h0:Heap}{e:Addr}
theorem jb.setFlight{fl:Value}{f:Option Addr}{Q:aJ Unit}(x:jb bs D P l h0 s.heap e fl)(h:∀h',jb bs D P l h0 h' e (f.elim .none λf=>rawInt f)->Q () { s with heap:=h' }):wpAny M A (PySem.setFlight (.ref e) f) Q E s:=by
 obtain⟨x1,x2,x3,xp,⟨oe,vs,T,oT,ts,he,hc,hd,h1,hT,hne,hgT,hdT,h3⟩,x5,x6⟩:=x;unfold PySem.setFlight;refine wpAny_bind (wpAny_field he hd h1 ?_);rw[if_pos (show(Value.ref T != Value.none)=true from rfl)];have hlt:=(uq.mp h3).1;refine wpAny_setField hgT hdT hlt (h _ ?_);have other:∀b,b≠T->(s.heap.update T (Obj.mapFields (·.setIfInBounds 3 (f.elim .none λf=>rawInt f)))).get? b=s.heap.get? b:=λb hb=>Heap.get?_update_other _ _ (Ne.symm hb);have noRec:∀b o,s.heap.get? b=some o->(∀vs,o.data≠.fields vs)->b≠T:=λb o hb hnf q=>by replace hb:=q▸hb;replace hb:=hgT▸hb;injection hb with hb;subst hb;exact hnf ts hdT
 have hT':=qo (Obj.mapFields (·.setIfInBounds 3 (f.elim .none λf=>rawInt f))) hgT (sI (oG hdT _));refine⟨λb o hbo=>(other b λq=>by replace hbo:=q▸hbo;replace hbo:=hT.1▸hbo;exact nS hbo).trans (x1 b o hbo),x2,x3.of_keeps λb o hb hnf=>⟨o,(other b (noRec b o hb hnf)).trans hb,rfl⟩,xp,
  ⟨oe,vs,T,_,_,(other e (Ne.symm hne)).trans he,hc,hd,h1,hT,hne,hT',oG hdT _,by simp[hlt]⟩,x5.then λb o hb q=>(other b λz=>hb (z▸hT.2)).trans q,λb hb=>by rw[other b λz=>hb (z▸hT.2)];exact x6 b hb⟩
theorem rR{oe:Obj}{vs:Array Value}{head:Value}{L:Addr}{hadNext:Bool}{Q:aJ Unit}(hfr:A.frames=some (env :: l))(hl:s.heap.FunFrames bs (env :: l))(hP:∀b∈(env :: l).filterMap (·.frame),P b)(hf:env.frame=some L)
  (he:s.heap.get? e=some oe) (hc:oe.cls=.type "StopIteration") (hkb:bs.StaysIn s.heap) (hen:bs.get? e=none/\h0.get? e=none) (hd:oe.data=.fields vs) (hsz:1<vs.size)
  (x5:sz D P h0 s.heap) (h0s:∀b,h0.get? b≠none->s.heap.get? b≠none)
  (h:∀h',jb bs D P (env :: l) h0 h' e (rawInt L)->Q () { s with heap:=h' }):
  wpAny M A (do let a <-frameOf env;let pl <-entryPlaceOf L hadNext;let b <-EntryCells.newEntry head a .none (rawInt L) .none pl;setField (.ref e) 1 b) Q E s:=by
 have hene:e∉(env :: l).filterMap (·.frame):=λhm=>by obtain⟨_,o,ho,hnf⟩:=hl.mem hm;replace ho:=he▸ho;injection ho with ho;subst ho;exact hnf vs hd
 refine wpAny_bind (wpAny_frameOf_fun hfr hl hf λh₁ hs₁=>?_);refine wpAny_bind (wpAny_entryPlaceOf λpl hpl=>?_);unfold EntryCells.newEntry newFields;refine wpAny_bind (wpAny_newObj_type ?_ (hpl.sizeOk5 _ _ _ _ _));have he₁:h₁.get? e=some oe:=(hs₁.2.1 e hene).trans he;have kb₁:bs.StaysIn h₁:=λb o hbo=>(hs₁.2.1 b λhm=>by replace hbo:=(hl.mem hm).1▸hbo;exact nS hbo).trans (hkb b o hbo);generalize hN:({ cls:=.type "traceback",dict:=none,data:=.fields ([head,.ref L,.none,rawInt L,.none]++(if pl.isEmpty then List.replicate 6 Value.none else pl)).toArray }:Obj)=N;have hNd:N.data=.fields ([head,.ref L,.none,rawInt L,.none]++(if pl.isEmpty then List.replicate 6 Value.none else pl)).toArray:=by rw[hN.symm];rfl
 have hTe:h₁.objs.size≠e:=Nat.ne_of_gt (gB he₁);refine wpAny_setField (bK N he₁) hd hsz (h _ ?_);have hd₃:=oG hd (·.setIfInBounds 1 (Value.ref h₁.objs.size));have he₃:=qo (Obj.mapFields (·.setIfInBounds 1 (Value.ref h₁.objs.size))) (bK N he₁) (sI hd₃);have hgN:(h₁.push N).get? h₁.objs.size=some N:=cZ h₁ (sI hNd);have hT₃:=(Heap.get?_update_other (h₁.push N) (Obj.mapFields (·.setIfInBounds 1 (Value.ref h₁.objs.size))) (Ne.symm hTe)).trans hgN;have keep:∀b o,b≠e->h₁.get? b=some o->((h₁.push N).update e (Obj.mapFields (·.setIfInBounds 1 (Value.ref h₁.objs.size)))).get? b=some o:=λb o hbe hb=>by rw[Heap.get?_update_other _ _ (Ne.symm hbe)];exact bK _ hb
 have noRec:∀b o,s.heap.get? b=some o->(∀vs,o.data≠.fields vs)->b≠e:=λb o hb hnf q=>by replace hb:=q▸hb;replace hb:=he▸hb;injection hb with hb;subst hb;exact hnf vs hd
 have hT0:h0.get? h₁.objs.size=none:=by
  cases q:h0.get? h₁.objs.size with
  |none=>rfl
  |some o=>
   have:=h0s _ (by rw[q];exact λq=>nomatch q);cases q2:s.heap.get? h₁.objs.size with
   |none=>exact absurd q2 this
   |some o2=>refine af (hs₁.2.2 _ o2 q2) λsl hs=>?_;exact absurd (gB hs) (Nat.lt_irrefl _)
 refine⟨λb o hbo=>keep b o (λq=>by replace hbo:=q▸hbo;replace hbo:=hen.1▸hbo;exact nS hbo) (kb₁ b o hbo),hen,hl.of_keeps λb o hb hnf=>?_,hP,
  ⟨_,_,h₁.objs.size,_,_,he₃,(Obj.cls_mapFields _ _).trans hc,hd₃,by simp[hsz],⟨kb₁.fresh,hT0⟩,hTe,hT₃,hNd,rfl⟩,λb o hb hnd=>?_,λb hb=>?_⟩
 ·refine af (hs₁.2.2 b o hb) λsl hs=>?_;exact⟨_,keep b _ (noRec b o hb hnf) hs,rfl⟩
 ·have hbe:b≠e:=λq=>by replace hb:=q▸hb;replace hb:=hen.2▸hb;exact nS hb
  refine aP (x5 b o hb hnd) λsl hs hsl=>?_;by_cases hin:b∈(env :: l).filterMap (·.frame)
  ·refine af (hs₁.2.2 b _ hs) λsl' hs'=>?_;exact⟨sl',keep b _ hbe hs',λnp=>absurd (hP b hin) np⟩
  ·exact⟨sl,keep b _ hbe ((hs₁.2.1 b hin).trans hs),hsl⟩
 ·have hbe:b≠e:=λq=>hb (q▸hen.2);have h1:=h0s b hb;cases q2:s.heap.get? b with
  |none=>exact absurd q2 h1
  |some o2=>refine af (hs₁.2.2 b o2 q2) λsl hs=>?_;rw[keep b _ hbe hs];exact λq=>nomatch q
theorem ur{oe:Obj}{vs:Array Value}{L:Addr}{Q:aJ Unit}(hfr:A.frames=some (env :: l))(hl:s.heap.FunFrames bs (env :: l))(hP:∀b∈(env :: l).filterMap (·.frame),P b)(hf:env.frame=some L)
  (he:s.heap.get? e=some oe) (hc:oe.cls=.type "StopIteration") (hkb:bs.StaysIn s.heap) (hen:bs.get? e=none/\h0.get? e=none) (hd:oe.data=.fields vs) (h1:vs[1]?=some .none)
  (x5:sz D P h0 s.heap) (h0s:∀b,h0.get? b≠none->s.heap.get? b≠none)
  (h:∀h',jb bs D P (env :: l) h0 h' e (rawInt L)->Q () { s with heap:=h' }):wpAny M A (noteFrame (.ref e) env) Q E s:=by
 unfold noteFrame;simp only[hf];refine wpAny_bind (wpAny_field he hd h1 ?_);rw[if_neg (by decide)];exact rR hfr hl hP hf he hc hkb hen hd (uq.mp h1).1 x5 h0s h
theorem jb.note{L:Addr}{Q:aJ Unit}(x:jb bs D P (env :: l) h0 s.heap e .none)(hfr:A.frames=some (env :: l))(hf:env.frame=some L)
  (h:∀h',jb bs D P (env :: l) h0 h' e (rawInt L)->Q () { s with heap:=h' }):wpAny M A (noteFrame (.ref e) env) Q E s:=by
 obtain⟨x1,x2,x3,xp,⟨oe,vs,T,oT,ts,he,hc,hd,h1,hT,hne,hgT,hdT,h3⟩,x5,x6⟩:=x;unfold noteFrame;simp only[hf];refine wpAny_bind (wpAny_field he hd h1 ?_);rw[if_pos (show(Value.ref T != Value.none)=true from rfl)];refine wpAny_bind (wpAny_field hgT hdT h3 ?_);rw[if_neg (show ¬((Value.none==rawInt L)=true)from λq=>nomatch q)];have hlt:=(uq.mp h3).1;refine wpAny_bind (wpAny_setField hgT hdT hlt ?_);have other:∀b,b≠T->(s.heap.update T (Obj.mapFields (·.setIfInBounds 3 Value.none))).get? b=s.heap.get? b:=λb hb=>Heap.get?_update_other _ _ (Ne.symm hb);have noRec:∀b o,s.heap.get? b=some o->(∀vs,o.data≠.fields vs)->b≠T:=λb o hb hnf q=>by replace hb:=q▸hb;replace hb:=hgT▸hb;injection hb with hb;subst hb;exact hnf ts hdT
 refine rR (s:={ s with heap:=s.heap.update T (Obj.mapFields (·.setIfInBounds 3 Value.none)) }) hfr (x3.of_keeps λb o hb hnf=>⟨o,(other b (noRec b o hb hnf)).trans hb,rfl⟩) xp hf ((other e (Ne.symm hne)).trans he) hc
  (λb o hbo=>(other b λq=>by replace hbo:=q▸hbo;replace hbo:=hT.1▸hbo;exact nS hbo).trans (x1 b o hbo)) x2 hd (uq.mp h1).1 (x5.then λb o hb q=>(other b λz=>hb (z▸hT.2)).trans q) (λb hb=>?_) h
 refine(?_:(s.heap.update T _).get? b≠none);rw[other b λz=>hb (z▸hT.2)];exact x6 b hb
theorem jb.noted{L:Addr}{fl:Value}{Q:aJ Unit}(x:jb bs D P l h0 s.heap e fl)(hfl:fl=rawInt L)(hf:env.frame=some L)(h:Q () s):wpAny M A (noteFrame (.ref e) env) Q E s:=by subst hfl;obtain⟨x1,x2,x3,xp,⟨oe,vs,T,oT,ts,he,hc,hd,h1,hT,hne,hgT,hdT,h3⟩,x5,x6⟩:=x;unfold noteFrame;simp only[hf];refine wpAny_bind (wpAny_field he hd h1 ?_);rw[if_pos (show(Value.ref T != Value.none)=true from rfl)];refine wpAny_bind (wpAny_field hgT hdT h3 ?_);rw[if_pos (show((rawInt L==rawInt L)=true)from by simp[rawInt])];exact wpAny_pure h
theorem jb.head{fl:Value}{Q:aJ Value}(x:jb bs D P l h0 s.heap e fl)(h:∀T,Q (.ref T) s):wpAny M A (field (.ref e) 1) Q E s:=by obtain⟨_,_,_,_,⟨oe,vs,T,oT,ts,he,hc,hd,h1,_⟩,_,_⟩:=x;exact wpAny_field he hd h1 (h T)
theorem jb.isA{fl:Value}(x:jb bs D P l h0 s.heap e fl):s.TypeIs (.ref e) "StopIteration":=by obtain⟨_,_,_,_,⟨oe,vs,T,oT,ts,he,hc,hd,h1,_⟩,_,_⟩:=x;exact⟨oe,he,hc⟩
theorem jb.back{fl:Value}{L:Addr}(x:jb bs D P l h0 s.heap e fl)(hf:env.frame=some L)(h:∀h',jb bs D P l h0 h' e (rawInt L)->E (.ref e) { s with heap:=h' }):cameBackBy M A env E (.ref e) s:=by unfold cameBackBy;refine wpAny_bind (x.head λT=>?_);rw[if_neg (show ¬((Value.ref T==Value.none)=true)from j9)];rw[hf];exact x.setFlight h
theorem jb.leave{L:Addr}{Q:aJ Unit}(x:jb bs D P (env :: l) h0 s.heap e (rawInt L))(hf:env.frame=some L)
  (h:∀h',jb bs D P l h0 h' e .none->Q () { s with heap:=h' }):wpAny M A (leaving env (.ref e)) Q E s:=by
 unfold leaving;exact wpAny_bind (x.noted rfl hf (x.setFlight λh'' x''=>h h'' x''.outer))
theorem yz{oe:Obj}{vs:Array Value}{L:Addr}{Q:aJ Unit}(hfr:A.frames=some (env :: l))(hl:s.heap.FunFrames bs (env :: l))(hP:∀b∈(env :: l).filterMap (·.frame),P b)(hf:env.frame=some L)
  (he:s.heap.get? e=some oe) (hc:oe.cls=.type "StopIteration") (hkb:bs.StaysIn s.heap) (hen:bs.get? e=none/\h0.get? e=none) (hd:oe.data=.fields vs) (h1:vs[1]?=some .none)
  (x5:sz D P h0 s.heap) (h0s:∀b,h0.get? b≠none->s.heap.get? b≠none)
  (h:∀h',jb bs D P l h0 h' e .none->Q () { s with heap:=h' }):wpAny M A (leaving env (.ref e)) Q E s:=by
 unfold leaving;exact wpAny_bind (ur hfr hl hP hf he hc hkb hen hd h1 x5 h0s λh' x'=>x'.setFlight λh'' x''=>h h'' x''.outer)
end
inductive VR where
 |val (v:Int) (r:List Int)|stop|bad
noncomputable def zX(val b:Int):List Int->VR
 |[]=>bif Builtin.bitAnd b 64==0 then .val val []else bif eU val then .stop else .bad
 |b' :: r=>bif Builtin.bitAnd b 64==0 then .val val (b' :: r)else bif eU val then zX (Builtin.bitOr (val*2 ^ 6) (Builtin.bitAnd b' 63)) b' r else .bad
theorem ub{v b:Int}:zX v b []=bif Builtin.bitAnd b 64==0 then .val v []else bif eU v then .stop else .bad:=rfl
theorem rn{v b x:Int}{r:List Int}:zX v b (x :: r)=bif Builtin.bitAnd b 64==0 then .val v (x :: r)else bif eU v then zX (Builtin.bitOr (v*2 ^ 6) (Builtin.bitAnd x 63)) x r else .bad:=rfl
noncomputable def kI:List Int->VR
 |[]=>.stop
 |b :: r=>zX (Builtin.bitAnd b 63) b r
noncomputable def lL:Nat->List Int->Option (List Int)
 |0,_=>none
 |n+1,l=>match kI l with
  |.stop=>some []
  |.bad=>none
  |.val v r=>(lL n r).map (v :: ·)
noncomputable abbrev eH(b:Array UInt8):List Int:=b.toList.map λc=>((c.toNat:Nat):Int)
structure kr(B:aX):Prop where
 g:B.at ("_parse_varint":Str)=some (.ref 83)
 f:B.hb.get? 83=some (cr (aK 8) (sx "_parse_varint") pW 289 82)
 c:B.hb.CodeRec (.ref 82) (sx "_parse_varint")
 gNext:B.at ("next":Str)=some (.builtin "next")
 gIter:B.at ("iter":Str)=some (.builtin "iter")
 gStop:B.at ("StopIteration":Str)=some (.type "StopIteration")
 gNum:B.at ("_law_numbers":Str)=some (.ref 261)
 fNum:B.hb.get? 261=some (cr (aK 71) (sx "_law_numbers") uB 818 260)
 cNum:B.hb.CodeRec (.ref 260) (sx "_law_numbers")
noncomputable abbrev wB:Nat->Str:=hZ [sx "iterator",sx "b",sx "val"]
noncomputable abbrev Ao:SC:=[(0,.loc),(1,.loc),(2,.loc)]
section
variable{B:aX}{C:Cx}{A:Around}{env:Env}{nm:Nat->Str}{sc:SC}{σ:aF}{mt:List (Nat×Addr)}{s:Shared}{T:aC}
theorem WP.up{α:Type}{t:Sem α}{Q:α->Shared->Prop}{E:aJ Value}(h:WP B A t Q s):wpAny (model B.prog B.w) A t Q E s:=wpAny_mono h (λ_ _ q=>q) λ_ _ f=>f.elim
theorem vN(H:kr B){it:Addr}{p1 p2 p3:Pos}{Q:aJ Value}{E:aJ Value}(EO:bl env (aQ (aK 8)).names)(Y:At B C env wB Ao σ mt T s.heap)(hσ:σ.getD 0 none=some (.val (.ob (.ref it))))
  (h:wpAny (model B.prog B.w) A (call (.builtin "next") [.ref it]) Q E s):
  wpAny (model B.prog B.w) A (eval (.Call (.Name "next" p1) [.Name "iterator" p2] [] p3) env) Q E s:=by
 refine(?_:wpAny (model B.prog B.w) A (eval (.Name "next" p1) env >>= λfv=>callWith p3 fv [] [(false,eval (.Name "iterator" p2) env)] []) Q E s);refine wpAny_bind (WP.up (Y.glob (by rw[EO.names ..];decide +kernel) H.gNext (by decide +kernel) ?_));refine Calls.callWith_builtin rfl (o6 (df ?_));refine WP.up (Y.name (i:=0) (c:=.loc) iW hσ rfl (by decide +kernel) λv hv=>?_);obtain rfl:v=.ref it:=hv;exact fJ h
theorem At.moved{it:Addr}{h h':Heap}(Y:At B C env nm sc σ mt T h)(hx:C.X it)(hl:C.hl≠some it)(hc:∀x a,env.cells.lookup x=some a->a≠it)(hs:Heap.SameBut it h h')(hv:h'.get? it≠none):At B C env nm sc σ mt T h':=
 ⟨Y.sim.step (W:=λa=>a=it) (λa e=>e▸hx) (λx a e q=>hc x a e q) (λa o ne e=>(hs.2 a ne).trans e) (λa e=>e▸hv),
 Y.tab.step (W:=λa=>a=it) (λa e=>.inl (e▸hx)) (λl q e=>hl (e▸q)) λa o ne e=>(hs.2 a ne).trans e⟩
end
section
variable{B:aX}{C:Cx}{A:Around}{env:Env}{nm:Nat->Str}{sc:SC}{σ:aF}{mt:List (Nat×Addr)}{s:Shared}{T:aC}
structure ig(it:Addr)(C:Cx)(s s':Shared):Prop where
 gens:s'.gens=s.gens
 drawn:s'.drawn=s.drawn
 os:s'.os=s.os
 keep:∀a o,a≠it->¬C.F a->C.hl≠some a->s.heap.get? a=some o->s'.heap.get? a=some o
 live:∀a,s.heap.get? a≠none->s'.heap.get? a≠none
theorem ig.refl(it:Addr)(C:Cx)(s:Shared):ig it C s s:=⟨rfl,rfl,rfl,λ_ _ _ _ _ e=>e,λ_ e=>e⟩
theorem ig.trans{it:Addr}{s' s'':Shared}(x:ig it C s s')(y:ig it C s' s''):ig it C s s'':=
 ⟨y.gens.trans x.gens,y.drawn.trans x.drawn,y.os.trans x.os,λa o n f l e=>y.keep a o n f l (x.keep a o n f l e),λa e=>y.live a (x.live a e)⟩
theorem eR.run{it:Addr}{s':Shared}(c:eR C s s'):ig it C s s':=⟨c.gens,c.drawn,c.os,λa o _ f l e=>c.keep a o f l e,c.live⟩
theorem ig.move{it:Addr}{h':Heap}{t:Nat}(hs:Heap.SameBut it s.heap h')(hv:h'.get? it≠none):ig it C s { s with heap:=h',toks:=t }:=
 ⟨rfl,rfl,rfl,λa o n _ _ e=>(hs.2 a n).trans e,λa e=>by
  by_cases q:a=it
  ·subst q;exact hv
  ·show h'.get? a≠none;rw[hs.2 a q];exact e⟩
theorem ee.live{h:Heap}{it:Addr}{b:Array UInt8}{t:Tok}{i:Nat}(I:ee h it b t i):h.get? it≠none:=by refine aP I ?_;clear I;intro o ho _;rw[ho];exact λq=>nomatch q
theorem ee.keep{h h':Heap}{it:Addr}{b:Array UInt8}{t:Tok}{i:Nat}(I:ee h it b t i)(hk:∀o,h.get? it=some o->h'.get? it=some o):ee h' it b t i:=by refine aP I ?_;clear I;intro o ho r;exact⟨o,hk o ho,r⟩
theorem va{b:Array UInt8}{i:Nat}(h:(eH b).drop i=[]):b[i]?=none:=by have:(eH b).length<=i:=List.drop_eq_nil_iff.mp h;simp at this;simp[this]
theorem rQ{b:Array UInt8}{i:Nat}{x:Int}{r:List Int}(h:(eH b).drop i=x :: r):∃c,b[i]?=some c/\x=((c.toNat:Nat):Int)/\(eH b).drop (i+1)=r:=by
 have h2:(eH b).drop (i+1)=r:=by rw[Eq.symm List.tail_drop];rw[h];rfl
 have h1:(eH b)[i]?=some x:=by rw[Eq.symm List.head?_drop];rw[h];rfl
 simp only[List.getElem?_map,Array.getElem?_toList,sA]at h1;refine aP h1 ?_;clear h1;intro c hc q1q;subst q1q;exact⟨c,hc,rfl,h2⟩
structure sd(B:aX)(P:Addr->Prop)(A:Around)(env:Env)(l:List Env)(it:Addr)(h0 h:Heap):Prop where
 hh:A.handled=none
 fr:A.frames=some (env :: l)
 hf:env.frame=some env.locals
 kind:env.scope.kind=.function
 l0:h0.FunFrames B.hb l
 hP:∀b∈(env :: l).filterMap (·.frame),P b
 base:∀b o,B.hb.get? b=some o->h.get? b=some o
 itb:B.hb.get? it=none
 loc:env.locals≠it/\B.hb.get? env.locals=none
 ns:∃m,h.Ns env.locals m
 keep:∀b o,h0.get? b=some o->b≠it->h.get? b=some o
 it0:∀o,h0.get? it=some o->∃vs,o.data=.fields vs
 itl:h.get? it≠none
section
variable{M:Model}{P:Addr->Prop}{l:List Env}{it:Addr}{h0:Heap}{E:aJ Value}
inductive Gm(B:aX)(P:Addr->Prop)(env:Env)(l:List Env)(it:Addr)(h0 h':Heap)(e:Addr):Prop
 |mk (ff:h'.FunFrames B.hb (env :: l)) (st:B.hb.StaysIn h') (hen:B.hb.get? e=none/\h0.get? e=none) (kp:sz (·=it) P h0 h') (al:∀b,h0.get? b≠none->h'.get? b≠none) (oe:Obj) (vs:Array Value) (g1:h'.get? e=some oe) (g2:oe.cls=.type "StopIteration") (g3:oe.data=.fields vs) (g4:vs[1]?=some .none)
theorem sd.start(Z:sd B P A env l it h0 s.heap){h':Heap}{e:Addr}(N:sY s.heap h' it e):
  Gm B P env l it h0 h' e:=by
 obtain⟨k,hen,hil,oe,vs,he,hc,hd,h1⟩:=N;refine af Z.ns λm hns=>?_;refine⟨Heap.FunFrames.cons (m:=m) (by rw[Z.kind];decide) Z.hf (hns.at' λo q=>k _ o Z.loc.1 q) Z.loc.2 (Z.l0.of_keeps λb o q nf=>?_),λb o q=>k b o (λz=>by replace q:=z▸q;replace q:=Z.itb▸q;exact nS q) (Z.base b o q),⟨?_,?_⟩,λb o q d=>⟨o.slots,k b o d (Z.keep b o q d),λ_=>rfl⟩,λb q=>?_,oe,vs,he,hc,hd,h1⟩
 ·have ne:b≠it:=λz=>by subst z;refine af (Z.it0 o q) λvs d=>?_;exact nf vs d
  exact⟨o,k b o ne (Z.keep b o q ne),rfl⟩
 ·cases q:B.hb.get? e with
  |none=>rfl
  |some o=>replace hen:=Z.base e o q▸hen;exact sN hen
 ·cases q:h0.get? e with
  |none=>rfl
  |some o=>
   have ne:e≠it:=λz=>by subst z;exact Z.itl hen
   replace hen:=Z.keep e o q ne▸hen;exact sN hen
 ·by_cases z:b=it
  ·subst z;exact hil
  ·cases e2:h0.get? b with
   |none=>exact absurd e2 q
   |some o=>rw[k b o z (Z.keep b o e2 z)];exact λq=>nomatch q
end
end
section
variable{B:aX}{C:Cx}{A:Around}{env:Env}{s:Shared}{T:aC}
theorem qP:bU wB Ao:=bx (by decide +kernel)
theorem GY{i:Nat}{x:Str}{σ:aF}{a m:Int}{p q r:Pos}{k:Nat}{Q:aJ Value}{E:aJ Value}(Y:At B C env wB Ao σ [] T s.heap)(hi:(i,Kd.loc)∈Ao)(hx:wB i=x)(hp:bc x=true)(hσ:σ.getD i none=some (.val (.int a)))
  (h:∀t t',Q (.int (Builtin.bitAnd a m) t) { s with toks:=t' }):wpAny (model B.prog B.w) A (eval (.BinOp (.Name x p) .BitAnd (.Constant (.int m) k q) r) env) Q E s:=by
 refine wpAny_BinOp (WP.up (Y.name hi hσ hx hp λv hv=>?_));refine af hv ?_;clear hv;intro u q1q;subst q1q;exact wpAny_Constant_int (PyProof.Rows.and_int (h _ _))
noncomputable abbrev HP(B:aX)(C:Cx)(env:Env)(it:Addr)(b:Array UInt8)(t:Tok)(T:aC)(s₀ s:Shared)(v:Int)(x:Int)(j:Nat):Prop:=
 At B C env wB Ao [some (.val (.ob (.ref it))),some (.val (.int x)),some (.val (.int v))] [] T s.heap/\ee s.heap it b t j/\ig it C s₀ s
theorem kF{it:Addr}{b:Array UInt8}{t:Tok}{i:Nat}{s s':Shared}(hx:¬C.F it)(hl:C.hl≠some it)(I:ee s.heap it b t i)(c:eR C s s'):ee s'.heap it b t i:=I.keep λo e=>c.keep _ o hx hl e
variable{l:List Env}{it:Addr}{h0:Heap}{P:Addr->Prop}
theorem yN{σ:aF}{s₀:Shared}(Y:At B C env wB Ao σ [] T s.heap)(EO:bl env (aQ (aK 8)).names)(hh:A.handled=none)(fr:A.frames=some (env :: l))(hf:env.frame=some env.locals)(l0:h0.FunFrames B.hb l)(hP:∀b∈(env :: l).filterMap (·.frame),P b)
  (hx:C.X it) (it0:∀o,h0.get? it=some o->∃vs,o.data=.fields vs) (itl:s.heap.get? it≠none) (R:ig it C s₀ s) (k0:∀b o,h0.get? b=some o->¬C.F b/\C.hl≠some b/\s₀.heap.get? b=some o):sd B P A env l it h0 s.heap where
 hh:=hh
 fr:=fr
 hf:=hf
 kind:=EO.kind
 l0:=l0
 hP:=hP
 base:=Y.sim.vol.base
 itb:=Y.sim.vol.baseX it hx
 loc:=⟨λq=>Y.sim.vol.fx _ Y.sim.fF (q▸hx),Y.sim.vol.baseF _ Y.sim.fF⟩
 ns:=by refine aP Y.sim.ex λm F _=>?_;refine aP F.ns λml hn _=>?_;exact⟨ml,hn⟩
 keep:=λb o e ne=>let ⟨f,q,e'⟩:=k0 b o e;R.keep b o ne f q e'
 it0:=it0
 itl:=itl
variable{b:Array UInt8}{t:Tok}{R:aJ Result}
noncomputable def Ij(R:aJ Result):aJ Flow:=λf s=>R (.ok (.ret (pG f))) s
noncomputable def GO(B:aX)(A:Around)(env:Env)(R:aJ Result):aJ Value:=λe s=>wpAny (model B.prog B.w) A (leaving env e) (λ_ s''=>R (.error e) s'') (λe' s''=>R (.error e') s'') s
noncomputable def Id(B:aX)(C:Cx)(env:Env)(it:Addr)(b:Array UInt8)(t:Tok)(T:aC)(s₀:Shared)(g:VR)(n:Nat)(s:Shared):Prop:=
 ∃x v j rest,n=rest.length/\(eH b).drop j=rest/\zX v x rest=g/\HP B C env it b t T s₀ s v x j
theorem ui(H:kr B){j:Nat}(EO:bl env (aQ (aK 8)).names)(hh:A.handled=none)(fr:A.frames=some (env :: l))(hf:env.frame=some env.locals)(l0:h0.FunFrames B.hb l)(hP:∀b∈(env :: l).filterMap (·.frame),P b)
  (hx:C.X it) (hlit:C.hl≠some it) (hc:∀x a,env.cells.lookup x=some a->a≠it) (it0:∀o,h0.get? it=some o->∃vs,o.data=.fields vs) (k0:∀b o,h0.get? b=some o->¬C.F b/\C.hl≠some b/\s.heap.get? b=some o)
  (Y:At B C env wB Ao [some (.val (.ob (.ref it))),none,none] [] T s.heap) (I:ee s.heap it b t j)
  (hb:kI ((eH b).drop j)≠.bad)
  (hv:∀v r,kI ((eH b).drop j)=.val v r->∀s' u j',ig it C s s'->ee s'.heap it b t j'->(eH b).drop j'=r->R (.ok (.ret (.int v u))) s')
  (he:kI ((eH b).drop j)=.stop->∀s' e,s'.gens=s.gens->s'.drawn=s.drawn->s'.os=s.os->jb B.hb (·=it) P l h0 s'.heap e .none->R (.error (.ref e)) s'):
  wpAny (model B.prog B.w) A (execs (cP (aK 8)) env) (Ij R) (GO B A env R) s:=by
 have hxF:¬C.F it:=λf=>Y.sim.vol.fx _ f hx;have hne:env.locals≠it:=λq=>hxF (q▸Y.sim.fF);refine wpAny_execs_cons (wpAny_Assign_Name (vN H EO Y rfl ?_));cases hd:(eH b).drop j with
 |nil=>replace he:=hd▸he;refine nc hh I (va hd) λh' e N=>?_;obtain⟨ff,st,hen,kp,al,oe,vs,g1,g2,g3,g4⟩:=(yN Y EO hh fr hf l0 hP hx it0 I.live (.refl it C s) k0).start N;exact yz (s:={ s with heap:=h' }) fr ff hP hf g1 g2 st hen g3 g4 kp al λh'' x=>he rfl _ e rfl rfl rfl x
 |cons x0 r0=>
  refine d1 (rQ hd) λc0 hc0 q1q hd1=>?_;subst q1q;rw[hd]at hv he hb;refine mK I hc0 λh1 I1 S1=>?_;have R1:ig it C s { s with heap:=h1,toks:=s.toks+1 }:=.move S1 I1.live;have Y1:=Y.moved hx hlit hc S1 I1.live;refine WP.up (fM (nm:=wB) (N:=3) (i:=1) (p:=.int c0.toNat) (s:={ s with heap:=h1,toks:=s.toks+1 }) qP (by decide +kernel) rfl rfl Y1 rfl ⟨_,rfl⟩ λs2 c2 l2 Y2=>?_);have I2:=kF hxF hlit (s:={ s with heap:=h1,toks:=s.toks+1 }) I1 c2;refine wpAny_execs_cons (wpAny_Assign_Name (GY (i:=1) Y2 kl rfl (by decide +kernel) rfl λu u'=>?_));refine WP.up (fM (nm:=wB) (N:=3) (i:=2) (p:=.int (Builtin.bitAnd c0.toNat 63)) (s:={ s2 with toks:=u' }) qP (by decide +kernel) rfl rfl (show At B C env wB Ao _ [] T s2.heap from Y2) rfl ⟨_,rfl⟩ λs3 c3 l3 Y3=>?_);have I3:=kF hxF hlit (s:={ s2 with toks:=u' }) I2 c3;have R3:ig it C s s3:=R1.trans (c2.run.trans (ig.trans (s':={ s2 with toks:=u' }) ⟨rfl,rfl,rfl,λ_ _ _ _ _ e=>e,λ_ e=>e⟩ c3.run));refine wpAny_execs_cons (wpAny_While ?_);refine codeAny_whileLoop (Id B C env it b t T s (zX (Builtin.bitAnd c0.toNat 63) c0.toNat r0)) ?_ r0.length ⟨_,_,_,_,rfl,hd1,rfl,Y3,I3,R3⟩;rintro n s4 ⟨x,v,j',rest,rfl,hr,hg,Y4,I4,R4⟩;have ht:∀{X:Bool},(Builtin.bitAnd x 64==0)=X->(Builtin.bitAnd x 64 != 0)= !X:=λe=>by rewrite[bne];rw[e];rfl
  refine wpAny_isTrue_value (GY (i:=1) Y4 kl rfl (by decide +kernel) rfl λu4 u4'=>PyProof.Rows.truthy_int ?_);cases hz:Builtin.bitAnd x 64==0 with
  |true=>
   have hval:zX v x rest=.val v rest:=by cases rest<;>simp[ub,rn,hz]
   rw[ht hz];refine wpAny_execs_nil (wpAny_execs_cons (wpAny_Return_some (WP.up ?_)));exact At.name (s:={ s4 with toks:=u4' }) Y4 (i:=2) (c:=.loc) mf rfl rfl (by decide +kernel) λw hw=>by refine af hw ?_;clear hw;intro uw q1q;subst q1q;exact hv v rest (by rw[hval.symm];exact hg.symm) _ uw j' (R4.trans ⟨rfl,rfl,rfl,λ_ _ _ _ _ e=>e,λ_ e=>e⟩) I4 hr
  |false=>
   rw[ht hz];refine(?_:wpAny _ A (execs _ env) _ _ { s4 with toks:=u4' });have hsm:eU v=true:=by
    cases e:eU v with
    |true=>rfl
    |false=>exact absurd (show kI (((c0.toNat:Nat):Int) :: r0)=.bad from hg.symm.trans (by cases rest<;>simp[ub,rn,hz,e])) hb
   refine wpAny_execs_cons (wpAny_AugAssign_Name (WP.up (dY.load (s:={ s4 with toks:=u4' }) Y4.sim (i:=2) (c:=.loc) (av:=.val (.int v)) mf rfl (by decide +kernel) λw hw=>?_)));refine af hw ?_;clear hw;intro uw q1q;subst q1q;refine wpAny_Constant_int (PyProof.Rows.ilshift_int_small (by decide) (by decide) (of_decide_eq_true hsm) ?_);refine WP.up (fM (nm:=wB) (N:=3) (i:=2) (p:=.int (v*2 ^ 6)) (s:={ s4 with toks:=u4'+1+1 }) qP (by decide +kernel) rfl rfl (show At B C env wB Ao _ [] T s4.heap from Y4) rfl ⟨_,rfl⟩ λs5 c5 l5 Y5=>?_);have I5:=kF hxF hlit (s:={ s4 with toks:=u4'+1+1 }) I4 c5;have R5:ig it C s s5:=R4.trans (ig.trans (s':={ s4 with toks:=u4'+1+1 }) ⟨rfl,rfl,rfl,λ_ _ _ _ _ e=>e,λ_ e=>e⟩ c5.run);refine wpAny_execs_cons (wpAny_Assign_Name (vN H EO Y5 rfl ?_));cases rest with
   |nil=>
    have hst:zX v x []=.stop:=by simp[ub,rn,hz,hsm]
    refine nc hh I5 (va hr) λh' e N=>?_;obtain⟨ff,st,hen,kp,al,oe,vs,g1,g2,g3,g4⟩:=(yN Y5 EO hh fr hf l0 hP hx it0 I5.live R5 k0).start N;refine ur (s:={ s5 with heap:=h' }) fr ff hP hf g1 g2 st hen g3 g4 kp al λh2 x2=>?_;refine jb.back (s:={ s5 with heap:=h2 }) x2 hf λh3 x3=>?_;exact jb.leave (s:={ s5 with heap:=h3 }) x3 hf λh4 x4=>he (show kI (((c0.toNat:Nat):Int) :: r0)=.stop from hg.symm.trans hst) _ e R5.gens R5.drawn R5.os x4
   |cons x5 r5=>
    refine d1 (rQ hr) λc5' hc5 q1q hd5=>?_;subst q1q;refine mK I5 hc5 λh6 I6 S6=>?_;have Y6:=Y5.moved hx hlit hc S6 I6.live;refine WP.up (fM (nm:=wB) (N:=3) (i:=1) (p:=.int c5'.toNat) (s:={ s5 with heap:=h6,toks:=s5.toks+1 }) qP (by decide +kernel) rfl rfl Y6 rfl ⟨_,rfl⟩ λs7 c7 l7 Y7=>?_);have I7:=kF hxF hlit (s:={ s5 with heap:=h6,toks:=s5.toks+1 }) I6 c7;refine wpAny_execs_cons (wpAny_AugAssign_Name (WP.up (dY.load Y7.sim (i:=2) (c:=.loc) (av:=.val (.int (v*2 ^ 6))) mf rfl (by decide +kernel) λw hw=>?_)));refine af hw ?_;clear hw;intro uw7 q1q;subst q1q;refine(GY (i:=1) Y7 kl rfl (by decide +kernel) rfl λu8 u8'=>PyProof.Rows.ior_int ?_);refine WP.up (fM (nm:=wB) (N:=3) (i:=2) (p:=.int (Builtin.bitOr (v*2 ^ 6) (Builtin.bitAnd c5'.toNat 63))) (s:={ s7 with toks:=u8'+1 }) qP (by decide +kernel) rfl rfl (show At B C env wB Ao _ [] T s7.heap from Y7) rfl ⟨_,rfl⟩ λs9 c9 l9 Y9=>?_);have I9:=kF hxF hlit (s:={ s7 with toks:=u8'+1 }) I7 c9;refine wpAny_execs_nil ⟨r5.length,ie _,_,_,_,r5,rfl,hd5,?_,Y9,I9,?_⟩
    ·rw[hg.symm];simp[ub,rn,hz,hsm]
    ·exact R5.trans ((ig.move S6 I6.live).trans (c7.run.trans (ig.trans (s':={ s7 with toks:=u8'+1 }) ⟨rfl,rfl,rfl,λ_ _ _ _ _ e=>e,λ_ e=>e⟩ c9.run)))
end
section
variable{B:aX}{C:Cx}{A:Around}{s:Shared}{T:aC}
noncomputable abbrev Hd(s:Shared)(l:List Env):Addr->Prop:=λb=>s.heap.get? b=none\/b∈l.filterMap (·.frame)
theorem v8(H:kr B){l:List Env}{it:Addr}{b:Array UInt8}{t:Tok}{j:Nat}{R:aJ Result}(hroom:A.depth<recursionLimit)(hh:A.handled=none)(hfr:A.frames=some l)(l0:s.heap.FunFrames B.hb l)
  (V:cV B C s.heap) (hx:C.X it) (I:ee s.heap it b t j) (hb:kI ((eH b).drop j)≠.bad)
  (hv:∀v r,kI ((eH b).drop j)=.val v r->∀s' u j',s'.gens=s.gens->s'.drawn=s.drawn->s'.os=s.os->(∀a o,a≠it->s.heap.get? a=some o->s'.heap.get? a=some o)->ee s'.heap it b t j'->(eH b).drop j'=r->R (.ok (.ret (.int v u))) s')
  (he:kI ((eH b).drop j)=.stop->∀s' e,s'.gens=s.gens->s'.drawn=s.drawn->s'.os=s.os->jb B.hb (·=it) (Hd s l) l s.heap s'.heap e .none->R (.error (.ref e)) s'):
  codeAny (model B.prog B.w) A (.call (.ref 83) ⟨[.ref it],[]⟩) R s:=by
 have Df:dX B 83 wB 3 [0] Ao _ _:=jf H.f H.c rfl rfl rfl (by decide +kernel) (by decide +kernel) (by decide +kernel);refine gZ (C:=C.ro) (T:=[]) (args:=⟨[.ref it],[]⟩) (vs:=[.ref it]) (ps:=[.ob (.ref it)]) (σ:=[some (.val (.ob (.ref it))),none,none]) Df rfl (BindsTo.of_eq rfl) rfl hroom V.ro aU.ro ⟨_,_,rfl,rfl,rfl⟩ λF' env s₁ hF' hf hcl EO hl Y x1=>?_;have itl:=I.live;have I1:ee s₁.heap it b t j:=I.keep λo e=>x1.all _ o e;have fresh:∀a o,s.heap.get? a=some o->¬F' a:=λa o e f=>by replace e:=hF' a f▸e;exact nS e
 have same:∀{s'},ig it (C.ro.enter F') s₁ s'->∀a o,a≠it->s.heap.get? a=some o->s'.heap.get? a=some o:=λr a o n e=>r.keep a o n (fresh a o e) (λq=>nomatch q) (x1.all a o e);refine ui (h0:=s.heap) (P:=Hd s l) H EO (show(A.deeper env).handled=none from hh) (Around.frames_deeper hfr) hf l0 (λc hc=>?_) (show(C.X it\/_)\/_ from .inl (.inl hx)) (by intro q;exact nS q) (λx a e q=>?_) (λo e=>?_) (λc o e=>⟨fresh c o e,(by intro q;exact nS q),x1.all c o e⟩) Y I1 hb
  (λv r hvr s' u j' r' I' d=>hv v r hvr s' u j' (r'.gens.trans x1.gens) (r'.drawn.trans x1.drawn) (r'.os.trans x1.os) (same r') I' d) (λhst s' e g1 g2 g3 f=>he hst s' e (g1.trans x1.gens) (g2.trans x1.drawn) (g3.trans x1.os) f)
 ·replace hc:=nv▸hc;replace hc:=hf▸hc;rcases ah.mp hc with rfl|hc
  ·exact .inl (hF' _ Y.sim.fF)
  ·exact .inr hc
 ·subst q;exact itl (hF' _ (hcl x a e))
 ·refine d1 I ?_;clear I;intro o' ho' _ hd;replace e:=ho'▸e;replace e:=iS e;subst e;exact⟨_,hd⟩
end
section
variable{B:aX}{C:Cx}{A:Around}{env:Env}{nm:Nat->Str}{sc:SC}{σ:aF}{mt:List (Nat×Addr)}{s:Shared}{T:aC}
theorem dY.slots{h h':Heap}{D P:Addr->Prop}(S:dY B C env nm sc σ mt h)(K:sz D P h h')(al:∀b,h.get? b≠none->h'.get? b≠none)
  (hP:∀b,P b->h.get? b≠none->b=env.locals\/(C.X b/\∃o es ep,h.get? b=some o/\o.data=.dict es ep)) (hD:∀b,D b->(C.F b\/C.X b)/\b≠env.locals/\(∀x a,env.cells.lookup x=some a->a≠b)/\∀i a,(i,a)∈mt->a≠b):dY B C env nm sc σ mt h':=by
 have V:=S.vol;have keep:∀a o,¬C.X a->¬C.F a->h.get? a=some o->h'.get? a=some o:=λa o x f e=>by refine aP (K a o e λd=>(hD a d).1.elim f x) λsl e' q=>?_;rw (occs:=.all) [e',q λp=>(hP a p (by rw[e];exact λq=>nomatch q)).elim (λz=>f (z▸S.fF)) λz=>x z.1]
 refine aP S.ex λm F e=>?_;have loc:∃o es ep,h.get? env.locals=some o/\o.data=.dict es ep:=by obtain⟨ml,⟨o,es,ep,ho,hd,_⟩,_⟩:=F.ns;exact⟨o,es,ep,ho,hd⟩
 have lst:∀i a vs n,(i,a)∈mt->h.get? a=some (aT vs n)->h'.get? a=some (aT vs n):=λi a vs n q g=>by
  refine aP (K a _ g λd=>(hD a d).2.2.2 i a q rfl) λsl e' z=>?_;rw (occs:=.all) [e',z λp=>?_];rcases hP a p (by rw[g];exact λq=>nomatch q)with w|⟨_,o,es,ep,w,w2⟩
  ·refine pJ loc ?_;clear loc;intro o es ep ho hd;replace g:=w▸g;replace g:=ho▸g;replace g:=iS g;subst g;cases hd
  ·replace w:=g▸w;replace w:=iS w;subst w;cases w2
 exact {
  vol:=⟨λa o e=>by
   obtain⟨sl,e',q⟩:=K a o (V.base a o e) λd=>(hD a d).1.elim (λz=>by replace e:=V.baseF a z▸e;exact nS e) λz=>by replace e:=V.baseX a z▸e;exact nS e
   rw (occs:=.all) [e',q λp=>(hP a p (by rw[V.base a o e];exact λq=>nomatch q)).elim (λz=>by replace e:=z▸e;replace e:=V.baseF _ S.fF▸e;exact nS e) λz=>by replace e:=V.baseX _ z.1▸e;exact nS e],V.baseX,V.baseF,V.baseL,
   λa x=>al a (V.liveX a x),λa x=>al a (V.liveF a x),λa x=>al a (V.liveL a x),V.fx,V.lf,V.lx⟩
  fF:=S.fF
  cF:=S.cF
  mF:=S.mF
  mlist:=λi a q=>by refine eV (S.mlist i a q) λvs n e=>?_;exact⟨vs,n,lst i a vs n q e⟩
  minj:=S.minj
  ex:=by
   refine⟨m,⟨F.kind,F.gl,F.bt,?_,λx c k hc=>?_,F.apart⟩,λi c q=>⟨(e i c q).1,?_⟩⟩
   ·obtain⟨ml,⟨o,es,ep,ho,hd,r⟩,q⟩:=F.ns;refine aP (K _ o ho λd=>(hD _ d).2.1 rfl) λsl e' _=>?_;exact⟨ml,⟨_,es,ep,e',hd,r⟩,q⟩
   ·refine aP (F.cell x c k hc) λo ho hd=>?_;refine aP (K _ o ho λd=>(hD c d).2.2.1 x c hc rfl) λsl e' _=>?_;exact⟨_,e',hd⟩
   ·have y:=(e i c q).2;cases z:σ.getD i none with
    |none=>trivial
    |some av=>
     replace y:=z▸y;cases av with
     |val p=>obtain⟨c,v,e,r⟩:=y;exact⟨c,v,e,r.move (λa o x f l g=>⟨x,f,l,keep a o x f g⟩) (λ_ e=>e) c⟩
     |own xs=>obtain⟨c,b,vs,n,e,q,g,r⟩:=y;exact⟨c,b,vs,n,e,q,lst i b vs n q g,r.move (λa o x f l g=>⟨x,f,l,keep a o x f g⟩) (λ_ e=>e) c⟩ }
theorem At.addNew{o:Obj}(ho:o.isFreed=false)(Y:At B C env nm sc σ mt T s.heap):At B (C.add s.heap.objs.size) env nm sc σ mt T (s.heap.push o):=by have ha:=aV s.heap;have x:a9 none s { s with heap:=s.heap.push o }:=⟨rfl,rfl,rfl,λ_ _ _ e=>bK _ e⟩;have Y1:=Y.kept x;refine⟨Y.sim.addF Y1.sim ha (λ_ _ _ e=>bK _ e) (by rw[cZ _ ho];exact λq=>nomatch q),?_⟩;exact Y.tab.move rfl rfl (λ_ _ _ _ e=>bK _ e) λa o x f _ e=>⟨x,(λ(q:C.F a\/a=s.heap.objs.size)=>q.elim f λq=>by replace e:=q▸e;replace e:=ha▸e;exact nS e),bK _ e⟩
theorem At.newX{o:Obj}(ho:o.isFreed=false)(Y:At B C env nm sc σ mt T s.heap):At B (C.addX (·=s.heap.objs.size)) env nm sc σ mt T (s.heap.push o):=by have ha:=aV s.heap;have x:a9 none s { s with heap:=s.heap.push o }:=⟨rfl,rfl,rfl,λ_ _ _ e=>bK _ e⟩;have Y1:=Y.kept x;exact⟨Y.sim.addX (λa o _ e=>x.all a o e) (λa l=>Y1.sim.vol.liveL a l) (λa w=>by subst w;exact⟨ha,by rw[cZ _ ho];exact λq=>nomatch q⟩),(Y.tab.addX λa w=>by subst w;exact ha).kept x⟩
theorem qD{prog:Program}{w:World}{A:Around}{E:aJ Value}{s:Shared}{b:Array UInt8}{t:Tok}{Q:aJ Value}(hQ:Q (.ref s.heap.objs.size) { s with heap:=s.heap.push { cls:=.type "bytes_iterator",data:=.fields #[.bytes b t,.int 0 0] } }):
  wpAny (model prog w) A (call (.builtin "iter") [.bytes b t]) Q E s:=by
 refine PySem.Calls.call_function_entry (by decide +kernel) (by decide +kernel) kdk_entry_iter (kdk_args_iter _) ?_;unfold Builtin.«iter»;refine wpAny_bind (m:=someArgs "iter" 1 2 _) (wpAny_of_eq (a:=[Value.bytes b t]) (by first|rfl|kernel_rfl!) ?_);refine(?_:wpAny _ _ (pyIter (.bytes b t) >>= _) _ _ _);exact wpAny_bind (PySem.W.KBw.pyIter_bytes (wpAny_pure ⟨_,rfl,hQ⟩))
end
noncomputable abbrev uP:Nat->Str:=hZ [sx "octets",sx "row",sx "told",sx "place"]
noncomputable abbrev rP:SC:=[(0,.loc),(1,.loc),(2,.loc),(3,.loc)]
section
variable{B:aX}{C:Cx}{A:Around}{env:Env}{s:Shared}{T:aC}
theorem oh:bU uP rP:=bx (by decide +kernel)
theorem Cp{p1 p2 p3 p4 p5 p6 p7 p8:Pos}{k1 k2:Nat}(EO:bl env (aQ (aK 71)).names)(hln:(p2.line==p1.line)=true):
  swappedStores [.Tuple [.Name "row" p1,.Name "told" p2] k1 p3] (.Tuple [.Call (.Name "iter" p4) [.Name "octets" p5] [] p6,.List [] p7] k2 p8) env=pure (some [sx "row",sx "told"]):=by
 have hs:pv uP (aQ (aK 71)).names [(1,p1),(2,p2)] [.Call (.Name "iter" p4) [.Name "octets" p5] [] p6,.List [] p7]=true:=by refine(?_:(true&&true&&((true&&p1.line==p1.line)&&((true&&p2.line==p1.line)&&true)) && !false)=true);rw[hln];rw[beq_self_eq_true ..];rfl
 have:=lX (nm:=uP) (ts:=[(1,p1),(2,p2)]) (k:=k1) (tp:=p3) (ek:=k2) (ep:=p8) (vs:=[.Call (.Name "iter" p4) [.Name "octets" p5] [] p6,.List [] p7]) EO rfl rfl (by rw[hs];rfl);replace this:=hs▸this;exact this
theorem GB{b:Array UInt8}{p1 p2 p3 p4 p5 p6 p7 p8 p9:Pos}{k1 k2:Nat}{Q:aJ Flow}(H:kr B)(EO:bl env (aQ (aK 71)).names)(hh:A.handled=none)(hln:(p2.line==p1.line)=true)
  (Y:At B C env uP rP [some (.val (.bytes b)),none,none,none] [] T s.heap)
  (h:∀s' it l t,eR C s s'->s.heap.get? it=none->s.heap.get? l=none->it≠l->ee s'.heap it b t 0->At B ((C.addX (·=it)).add l) env uP rP [some (.val (.bytes b)),some (.val (.ob (.ref it))),some (.own []),none] [(2,l)] T s'.heap->Q .next s'):
  WP B A (exec (.Assign [.Tuple [.Name "row" p1,.Name "told" p2] k1 p3] (.Tuple [.Call (.Name "iter" p4) [.Name "octets" p5] [] p6,.List [] p7] k2 p8) p9) env) Q s:=by
 refine PyProof.Rows.Assign_Tuple_swapped (names:=[sx "row",sx "told"]) (wpAny_Tuple (k:=k2) ?_) rfl (Cp EO hln);refine(?_:WP B A (spliced [(false,_),(false,_)]) _ s);refine df ?_;refine(?_:WP B A (eval (.Name "iter" p4) env >>= λfv=>callWith p6 fv [] [(false,eval (.Name "octets" p5) env)] []) _ s);refine wpAny_bind (Y.glob (by rw[EO.names ..];decide +kernel) H.gIter (by decide +kernel) ?_);refine Calls.callWith_builtin rfl (o6 (df ?_));refine Y.name (i:=0) (c:=.loc) iW rfl rfl (by decide +kernel) λv hv=>?_;refine af hv ?_;clear hv;intro t q1q;subst q1q;refine fJ (qD ?_);have Y1:=Y.newX (o:={ cls:=.type "bytes_iterator",data:=.fields #[.bytes b t,.int 0 0] }) rfl;have I1:ee (s.heap.push { cls:=.type "bytes_iterator",data:=.fields #[.bytes b t,.int 0 0] }) s.heap.objs.size b t 0:=⟨_,cZ _ rfl,rfl,rfl⟩;have f1:=aV s.heap;generalize hs1:({ s with heap:=s.heap.push { cls:=.type "bytes_iterator",data:=.fields #[.bytes b t,.int 0 0] } }:Shared)=s1;have hs1h:s.heap.push { cls:=.type "bytes_iterator",data:=.fields #[.bytes b t,.int 0 0] }=s1.heap:=by rw[hs1.symm];rfl
 have x1:a9 none s s1:=by rw[hs1.symm];exact⟨rfl,rfl,rfl,λ_ _ _ e=>bK _ e⟩
 rw[hs1h]at Y1 I1;generalize hit:s.heap.objs.size=it at *;refine df (wpAny_List (fJ ⟨by decide,?_⟩));have Y2:=Y1.addNew (o:=aT [] 0) rfl;have f2:=aV s1.heap;have x2:a9 none s1 { s1 with heap:=s1.heap.push (aT [] 0) }:=.lay';have g2:(s1.heap.push (aT [] 0)).get? s1.heap.objs.size=some (aT [] 0):=cZ _ rfl;have ne:it≠s1.heap.objs.size:=λq=>by replace I1:=q▸I1;exact I1.live f2
 generalize hs2:({ s1 with heap:=s1.heap.push (aT [] 0) }:Shared)=s2 at *;have hs2h:s1.heap.push (aT [] 0)=s2.heap:=by rw[hs2.symm];rfl
 rw[hs2h]at Y2 g2;generalize hl:s1.heap.objs.size=l at *;refine fJ ⟨(by show 2<=sizeLine;decide),?_⟩;have x3:a9 none s2 { s2 with heap:=s2.heap.push (eg [.ref it,.ref l] 0) }:=.lay';have ht:(s2.heap.push (eg [.ref it,.ref l] 0)).IsTuple s2.heap.objs.size (List.toArray [.ref it,.ref l]):=⟨_,cZ _ rfl,rfl,_,rfl⟩;have Y3:=Y2.kept x3;refine wpAny_unpackItems_tuple (items:=List.toArray [.ref it,.ref l]) (s:={ s2 with heap:=s2.heap.push (eg [.ref it,.ref l] 0) }) hh ht λh' hx=>?_;have x4:a9 none { s2 with heap:=s2.heap.push (eg [.ref it,.ref l] 0) } { s2 with heap:=h' }:=⟨rfl,rfl,rfl,λc o _ eb=>hx c o (λq=>by subst q;replace eb:=(aV ..)▸eb;exact nS eb) eb⟩;have Y4:=Y3.kept x4;have xa:a9 none s { s2 with heap:=h' }:=x1.trans (x2.trans (x3.trans x4));refine(?_:WP B A (assignInOrder [bindName env "told",bindName env "row"] [.ref l,.ref it]) _ _);refine wpAny_assignInOrder_more (wpAny_bindName (Y4.sim.store (i:=2) (c:=.loc) (av:=.own []) (s:={ s2 with heap:=h' }) mf oh (by simp) (by decide) ⟨rfl,l,[],0,rfl,.inr rfl,(λq=>nomatch q),x4.all _ _ (x3.all _ _ g2),rfl⟩ λs5 S5 c5 l5=>?_));have Y5:At B ((C.addX (·=it)).add l) env uP rP [some (.val (.bytes b)),none,some (.own []),none] [(2,l)] T s5.heap:=⟨S5,Y4.tab.chg c5 l5⟩;refine wpAny_assignInOrder_more (wpAny_bindName (S5.store (i:=1) (c:=.loc) (av:=.val (.ob (.ref it))) kl oh (eE (dh _)) (by decide) ⟨rfl,rfl⟩ λs6 S6 c6 l6=>wpAny_assignInOrder_none ?_));have c56:=c5.trans c6;have live:∀a,s.heap.get? a≠none->h'.get? a≠none:=λa q=>by
  cases e:s.heap.get? a with
  |none=>exact absurd e q
  |some o=>rw[show h'.get? a=some o from xa.all a o e];exact λq=>nomatch q
 have fl:s.heap.get? l=none:=by
  cases q:s.heap.get? l with
  |none=>rfl
  |some o=>replace f2:=x1.all l o q▸f2;exact sN f2
 refine h s6 it l t ⟨c56.gens.trans xa.gens,c56.drawn.trans xa.drawn,c56.os.trans xa.os,λa o f q e=>c56.keep a o (λ(w:C.F a\/a=l)=>?_) q (xa.all a o e),λa q=>c56.live a (live a q)⟩ f1 fl ne ?_ ⟨S6,Y5.tab.chg c6 l6⟩
 ·rcases w with w|w
  ·exact f w
  ·replace e:=w▸e;replace e:=fl▸e;exact nS e
 ·refine I1.keep λo e=>c56.keep it o (λ(w:C.F it\/it=l)=>?_) (λq=>Y.sim.vol.liveL it q f1) ((x2.trans (x3.trans x4)).all it o e);rcases w with w|w
  ·exact Y.sim.vol.liveF it w f1
  ·exact ne w
end
section
variable{B:aX}{C:Cx}{A:Around}{env:Env}{s:Shared}{T:aC}
theorem A3{o:Expr}{name:Str}{apos pos:Pos}{args:List Expr}{Q:aJ Value}{E:aJ Value}
  (hbase:∀{Q:aJ Value},wpAny (model B.prog B.w) A (eval o env) Q E s->wpAny (model B.prog B.w) A (attributeBase o name env (eval o env)) Q E s)
  (hs:∀x∈backTo pos (starEach args env),x.1=false) (hn:args.length<29) (hline:(apos.endLine==pos.line)=true)
  (h:wpAny (model B.prog B.w) A (eval o env) (λov s₁=>∀pl,wpAny (model B.prog B.w) A (getMethod ov name pl) (λr s₂=>wpAny (model B.prog B.w) A (callWith pos r.1 r.2 (backTo pos (starEach args env)) []) Q E s₂) E s₁) E s):
  wpAny (model B.prog B.w) A (eval (.Call (.Attribute o name apos) args [] pos) env) Q E s:=by
 rw[arm_eval_Call ..];refine wpAny_bind (wpAny_mono (hbase h) (λov s₁ h₁=>?_) λ_ _ e=>e);refine wpAny_bind (wpAny_standAt ?_);have hform:methodCallForm (args.length+([]:List Keyword).length) (backTo pos (starEach args env)) (backToKw pos (keywordEach [] env))=true:=by
  unfold methodCallForm;have h1:(backTo pos (starEach args env)).all (λx=> !x.1)=true:=by rewrite[bD];intro x hx;rw[hs x hx];rfl
  rw[h1];have:backToKw pos (keywordEach [] env)=[]:=rfl;rw[this];simp;lia
 have hpos:methodCallPos true o env apos pos=pure pos:=by unfold methodCallPos;simp[hline]
 unfold methodCall;rw[hform];refine wpAny_bind (wpAny_holding (wpAny_mono (h₁ _) (λr s₂ h₂=>?_) λ_ _ x=>x));exact wpAny_bind (wpAny_of_eq hpos h₂)
theorem BN{l it:Addr}{lo:List Env}{b:Array UInt8}{t:Tok}{j:Nat}{xs:List PV}{pl:Option AV}{p18 p19 p20 p21 p22 p23 p24:Pos}{Q:aJ Flow}{E:aJ Value}(H:kr B)(EO:bl env (aQ (aK 71)).names)
  (hline:(p19.endLine==p23.line)=true) (hroom:A.depth<recursionLimit) (hh:A.handled=none) (hfr:A.frames=some (env :: lo)) (hf:env.frame=some env.locals) (l0:s.heap.FunFrames B.hb lo)
  (Y:At B C env uP rP [some (.val (.bytes b)),some (.val (.ob (.ref it))),some (.own xs),pl] [(2,l)] T s.heap) (hx:C.X it) (hc:∀x a,env.cells.lookup x=some a->a≠it) (I:ee s.heap it b t j) (hsz:xs.length<=1000) (hb:kI ((eH b).drop j)≠.bad)
  (hv:∀v r,kI ((eH b).drop j)=.val v r->∀s' j',s'.gens=s.gens->s'.drawn=s.drawn->s'.os=s.os->(∀a o,a≠it->a≠l->s.heap.get? a=some o->s'.heap.get? a=some o)->(∀a,s.heap.get? a≠none->s'.heap.get? a≠none) ->
   At B C env uP rP [some (.val (.bytes b)),some (.val (.ob (.ref it))),some (.own (xs++[.int v])),pl] [(2,l)] T s'.heap->ee s'.heap it b t j'->(eH b).drop j'=r->Q .next s')
  (he:kI ((eH b).drop j)=.stop->∀s' e,s'.gens=s.gens->s'.drawn=s.drawn->s'.os=s.os->jb B.hb (·=it) (Hd s (env :: lo)) (env :: lo) s.heap s'.heap e .none->E (.ref e) s'):
  wpAny (model B.prog B.w) A (exec (.Expr (.Call (.Attribute (.Name "told" p18) "append" p19) [.Call (.Name "_parse_varint" p20) [.Name "row" p21] [] p22] [] p23) p24) env) Q E s:=by
 refine af Y.sim.names λm M=>?_;obtain⟨a,vs,n,ev,qm,fa,nl,g,rs,cxs⟩:=M.own (i:=2) (c:=.loc) mf rfl;have hal:a=l:=by have:=ju.mp qm;cases this;rfl
 subst hal;have nit:¬C.F it:=λq=>Y.sim.vol.fx _ q hx;have hai:a≠it:=λq=>nit (q▸fa);have hst:backTo p23 (starEach [.Call (.Name "_parse_varint" p20) [.Name "row" p21] [] p22] env)=[(false,eval (.Call (.Name "_parse_varint" p20) [.Name "row" p21] [] p22) env)]:=rfl;refine wpAny_Expr_any (A3 (λ{Q} hQ=>hQ) (by rw[hst];intro x hx;rcases ah.mp hx with rfl|hx;rfl;cases hx) (eE (dh _)) hline (wpAny_Name (WP.up (M.load (i:=2) (c:=.loc) mf (by decide +kernel) ev λplx=>?_)) (by decide +kernel))) (bz EO);refine WP.up (gT PySem.F.slot_list_append PySem.F.type_list_append g ?_);rw[hst];refine PySem.P.append_list ?_;refine(?_:wpAny _ A (eval (.Name "_parse_varint" p20) env >>= λfv=>callWith p22 fv [] [(false,eval (.Name "row" p21) env)] []) _ _ s);refine wpAny_bind (WP.up (Y.glob (by rw[EO.names ..];decide +kernel) H.g (by decide +kernel) ?_));refine Calls.callWith_function (o:=cr (aK 8) (sx "_parse_varint") pW 289 82) (fd:=am (aK 8) (sx "_parse_varint") pW 289 82 .none) (o6 (df ?_));refine WP.up (Y.name (i:=1) (c:=.loc) kl rfl rfl (by decide +kernel) λw hw=>?_);obtain rfl:w=.ref it:=hw;have ff:s.heap.FunFrames B.hb (env :: lo):=by refine aP Y.sim.ex λm' F _=>?_;refine aP F.ns λml hn _=>?_;exact Heap.FunFrames.cons (by rw[EO.kind];decide) hf hn (Y.sim.vol.baseF _ Y.sim.fF) l0
 refine fJ ⟨⟨Y.sim.vol.base _ _ H.f,rfl⟩,wpAny_call (v8 H hroom hh hfr ff Y.sim.vol hx I hb (λv r hvr s1 u j' g1 g2 g3 kp I1 hd=>?_) λhst s' e g1 g2 g3 x=>he hst s' e g1 g2 g3 x)⟩;have ga:=kp a _ hai g;have live1:∀c,s.heap.get? c≠none->s1.heap.get? c≠none:=λc q=>by
  by_cases z:c=it
  ·subst z;exact I1.live
  ·cases e:s.heap.get? c with
   |none=>exact absurd e q
   |some o=>rw[kp c o z e];exact λq=>nomatch q
 have S1:dY B C env uP rP [some (.val (.bytes b)),some (.val (.ob (.ref it))),some (.own xs),pl] [(2,a)] s1.heap:=Y.sim.step (W:=(·=it)) (λc e=>e▸hx) (λx c e q=>hc x c e q) (λc o ne e=>kp c o ne e) (λc e=>e▸I1.live);have T1:aU C T s1.heap:=Y.tab.step (W:=(·=it)) (λc e=>.inl (e▸hx)) (λl q e=>Y.sim.vol.lx l q (e▸hx)) λc o ne e=>kp c o ne e;refine af S1.names λm1 M1=>?_;obtain⟨a1,vs1,n1,ev1,qm1,fa1,nl1,gg1,rs1,cxs1⟩:=M1.own (i:=2) (c:=.loc) mf rfl;have hal:a1=a:=by have:=ju.mp qm1;cases this;rfl
 subst hal;have hlen:=rs1.length;refine⟨vs1.toArray,n1,(show _<=cap by simp[hlen];unfold cap;lia),gg1,?_⟩;have g2':(s1.heap.update a1 (Obj.mapSeq λx=>x.push (.int v u))).get? a1=some (aT (vs1++[.int v u]) (n1+1)):=by have:=IsL.update (f:=λx=>x.push (.int v u)) gg1;simpa[IsL]using this
 have k2:∀b o,b≠a1->s1.heap.get? b=some o->(s1.heap.update a1 (Obj.mapSeq λx=>x.push (.int v u))).get? b=some o:=λb o ne e=>((Heap.SameBut.update (h:=s1.heap) (a:=a1) (f:=Obj.mapSeq λx=>x.push (.int v u))).2 b ne).trans e;have r2:aH C (s1.heap.update a1 (Obj.mapSeq λx=>x.push (.int v u))) (xs++[.int v]) (vs1++[.int v u]):=
  aH.append (rs1.stay cxs1 λb o _ f _ e=>k2 b o (λw=>f (w▸fa1)) e) ⟨_,[],rfl,⟨u,rfl⟩,rfl⟩
 have M2:=M1.mut oh (i:=2) (c:=.loc) mf (by simp) ev1 qm1 k2 g2' r2 (by rw[cW ..];rw[cxs1];rfl);refine hv v r hvr _ j' g1 g2 g3 (λc o n1 n2 e=>k2 c o n2 (kp c o n1 e)) (λc q=>?_) ⟨M2.sim,T1.own fa1 nl1 k2⟩ (I1.keep λo e=>k2 it o (Ne.symm hai) e) hd;by_cases z:c=a1
 ·subst z;show(s1.heap.update c _).get? c≠none;rw[g2'];exact λq=>nomatch q
 ·refine(?_:(s1.heap.update a1 _).get? c≠none);cases e:s1.heap.get? c with
  |none=>exact absurd e (live1 c q)
  |some o=>rw[k2 c o z e];exact λq=>nomatch q
end
section
variable{B:aX}{C:Cx}{A:Around}{env:Env}{s:Shared}{T:aC}
noncomputable abbrev RI(h:Heap)(I:Addr)(i n:Nat):Prop:=IsRangeIter h I (0+(i:Nat)*1) ((n:Int)-(i:Nat)) 1
theorem RI.keep{h h':Heap}{I:Addr}{i n:Nat}(x:RI h I i n)(hk:∀o,h.get? I=some o->h'.get? I=some o):RI h' I i n:=by have:h.get? I=some _:=x;exact hk _ this
theorem RI.live{h:Heap}{I:Addr}{i n:Nat}(x:RI h I i n):h.get? I≠none:=by have:h.get? I=some _:=x;rw[this];exact λq=>nomatch q
theorem Er{b:Array UInt8}{σ:aF}{mt:List (Nat×Addr)}{p11 p12 p13 p14 p15 p16 p17:Pos}{k3:Nat}{Q:aJ Value}{E:aJ Value}(D:fy B)(EO:bl env (aQ (aK 71)).names)(hh:A.handled=none)
  (Y:At B C env uP rP σ mt T s.heap) (hσ:σ.getD 0 none=some (.val (.bytes b))) (hb:b.size<=1000)
  (h:∀s' I,a9 none s s'->s.heap.get? I=none->RI s'.heap I 0 (b.size+1)->Q (.ref I) s'):
  wpAny (model B.prog B.w) A (eval (.Call (.Name "range" p11) [.BinOp (.Call (.Name "len" p12) [.Name "octets" p13] [] p14) .Add (.Constant (.int 1) k3 p15) p16] [] p17) env) (λv s₁=>wpAny (model B.prog B.w) A (pyIter v) Q E s₁) E s:=by
 refine(?_:wpAny _ A (eval (.Name "range" p11) env >>= λfv=>callWith p17 fv [] [(false,eval (.BinOp (.Call (.Name "len" p12) [.Name "octets" p13] [] p14) .Add (.Constant (.int 1) k3 p15) p16) env)] []) _ _ s);refine wpAny_bind (WP.up (Y.glob (v:=.type "range") (by rw[EO.names ..];decide +kernel) (D.bf .range) (by decide +kernel) ?_));refine PySem.callWith_type rfl (o6 (df (wpAny_BinOp ?_)));refine(?_:wpAny _ A (eval (.Name "len" p12) env >>= λfv=>callWith p14 fv [] [(false,eval (.Name "octets" p13) env)] []) _ _ s);refine wpAny_bind (WP.up (Y.glob (v:=.builtin "len") (by rw[EO.names ..];decide +kernel) (D.bf .len) (by decide +kernel) ?_));refine Calls.callWith_builtin rfl (o6 (df ?_));refine WP.up (Y.name (i:=0) (c:=.loc) iW hσ rfl (by decide +kernel) λv hv=>?_);refine af hv ?_;clear hv;intro t q1q;subst q1q;refine fJ (PySem.W.len_bytes (by lia) (wpAny_Constant_int (wpAny_add_int (fJ ?_))));have e1:((b.size:Int)+1)=((b.size+1:Nat):Int):=by push_cast;rfl
 refine(?_:wpAny _ A (call (.type "range") [.int ((b.size:Int)+1) _]) _ _ _);rw[e1];have e0:((0:Int)+((b.size+1:Nat):Int))=((b.size+1:Nat):Int):=by lia
 have hsz:=fj (a:=0) (n:=b.size+1);replace hsz:=e0▸hsz;refine call_range_1 (wpAny_pyIter_range (a:=0) (b:=((b.size+1:Nat):Int)) (c:=1) (cZ _ rfl) (by have:=jv (a:=0) (n:=b.size+1) (by decide) (by lia);rwa [e0]at this) ?_);refine h _ _ (.mk' λa o e=>bK _ (bK _ e)) (gi (by rw[fE ..];exact Nat.le_succ _)) ?_;rw[hsz];have e2:(0+((0:Nat):Int)*1)=0:=rfl;have e3:(((b.size+1:Nat):Int)-((0:Nat):Int))=((b.size+1:Nat):Int):=rfl;refine(?_:IsRangeIter _ _ (0+((0:Nat):Int)*1) (((b.size+1:Nat):Int)-((0:Nat):Int)) 1);rw[e2];rw[e3];exact cZ _ rfl
structure DK(B:aX)(C:Cx)(env:Env)(T:aC)(b:Array UInt8)(t:Tok)(it l I:Addr)(s₀:Shared)(i j:Nat)(xs:List Int)(s:Shared):Prop where
 at':∃pl,At B C env uP rP [some (.val (.bytes b)),some (.val (.ob (.ref it))),some (.own (xs.map .int)),pl] [(2,l)] T s.heap
 bi:ee s.heap it b t j
 ri:RI s.heap I i (b.size+1)
 gens:s.gens=s₀.gens
 drawn:s.drawn=s₀.drawn
 os:s.os=s₀.os
 keep:∀a o,a≠it->a≠I->¬C.F a->C.hl≠some a->s₀.heap.get? a=some o->s.heap.get? a=some o
 live:∀a,s₀.heap.get? a≠none->s.heap.get? a≠none
theorem AZ{l it I:Addr}{lo:List Env}{b:Array UInt8}{t:Tok}{s₀:Shared}{res:List Int}{p10 p18 p19 p20 p21 p22 p23 p24:Pos}{R:aJ Result}(H:kr B)(EO:bl env (aQ (aK 71)).names)
  (hline:(p19.endLine==p23.line)=true) (hroom:A.depth<recursionLimit) (hh:A.handled=none) (hfr:A.frames=some (env :: lo)) (hf:env.frame=some env.locals)
  (hx:C.X it) (hxI:C.X I) (hitI:it≠I) (hc:∀x a,env.cells.lookup x=some a->a≠it/\a≠I) (hlo:∀s:Shared,(∀a o,a≠it->a≠I->¬C.F a->C.hl≠some a->s₀.heap.get? a=some o->s.heap.get? a=some o)->s.heap.FunFrames B.hb lo)
  (hb:b.size<=1000)
  (he:∀s1 i j pl s' e,At B C env uP rP [some (.val (.bytes b)),some (.val (.ob (.ref it))),some (.own (res.map .int)),pl] [(2,l)] T s1.heap->DK B C env T b t it l I s₀ i j res s1->s'.gens=s1.gens->s'.drawn=s1.drawn->s'.os=s1.os ->
   jb B.hb (·=it) (Hd s1 (env :: lo)) (env :: lo) s1.heap s'.heap e (rawInt env.locals)->R (.error (.ref e)) s')
  {i j:Nat} {xs rest:List Int} (Z:DK B C env T b t it l I s₀ i j xs s) (hi:i<=b.size+1) (hxi:xs.length=i) (hv:lL (b.size+1-i) ((eH b).drop j)=some rest) (hr:res=xs++rest):
  codeAny (model B.prog B.w) A (.forLoop (.Name "place" p10) (.ref I) [.Expr (.Call (.Attribute (.Name "told" p18) "append" p19) [.Call (.Name "_parse_varint" p20) [.Name "row" p21] [] p22] [] p23) p24] [] env) R s:=by
 have W:=Walks.range (prog:=B.prog) (w:=B.w) hh I 0 1 (b.size+1);refine codeAny_forLoop_any (λk s'=>∃i j xs rest,k=b.size+1-i/\i<=b.size+1/\xs.length=i/\DK B C env T b t it l I s₀ i j xs s'/\lL (b.size+1-i) ((eH b).drop j)=some rest/\res=xs++rest) ?_ (b.size+1-i) ⟨i,j,xs,rest,rfl,hi,hxi,Z,hv,hr⟩;rintro k s1 ⟨i,j,xs,rest,rfl,hi,hxi,Z,hv,hr⟩;obtain⟨n,hn⟩:∃n,b.size+1-i=n+1:=by
  cases hq:b.size+1-i with
  |zero=>replace hv:=hq▸hv;exact nS hv
  |succ n=>exact⟨n,rfl⟩
 have hlt:i<b.size+1:=Nat.lt_of_sub_eq_succ hn;replace hv:=hn▸hv;refine W.item i s1 _ _ hlt Z.ri λv h' tk hP st hk=>?_;refine af hP ?_;clear hP;intro tv q1q;subst q1q;refine af Z.at' λpl Y=>?_;have hk':∀a o,a≠I->s1.heap.get? a=some o->h'.get? a=some o:=λa o ne e=>hk a o (by simpa using ne) e;have st':RI h' I (i+1) (b.size+1):=st;have Y1:At B C env uP rP [some (.val (.bytes b)),some (.val (.ob (.ref it))),some (.own (xs.map .int)),pl] [(2,l)] T h':=
  ⟨Y.sim.step (W:=(·=I)) (λc e=>e▸hxI) (λx c e q=>(hc x c e).2 q) (λc o ne e=>hk' c o ne e) (λc e=>e▸st'.live),Y.tab.step (W:=(·=I)) (λc e=>.inl (e▸hxI)) (λl q e=>Y.sim.vol.lx l q (e▸hxI)) λc o ne e=>hk' c o ne e⟩
 have B1:ee h' it b t j:=Z.bi.keep λo e=>hk' it o hitI e;have nit:¬C.F it:=λq=>Y.sim.vol.fx _ q hx;have nI:¬C.F I:=λq=>Y.sim.vol.fx _ q hxI;have lit:C.hl≠some it:=λq=>Y.sim.vol.lx _ q hx;have lI:C.hl≠some I:=λq=>Y.sim.vol.lx _ q hxI;refine wpAny_pure ?_;refine wpAny_assign_Name (WP.up (dY.store (s:={ s1 with heap:=h',toks:=tk }) Y1.sim (i:=3) (c:=.loc) (av:=.val (.int (0+(i:Int)*1))) w7 oh (d4 _) (by decide) ⟨rfl,tv,rfl⟩ λs2 S2 c2 l2=>?_));have Y2:At B C env uP rP [some (.val (.bytes b)),some (.val (.ob (.ref it))),some (.own (xs.map .int)),some (.val (.int (0+(i:Int)*1)))] [(2,l)] T s2.heap:=⟨S2,Y1.tab.chg c2 l2⟩;have B2:ee s2.heap it b t j:=B1.keep λo e=>c2.keep it o nit lit e;have R2:RI s2.heap I (i+1) (b.size+1):=st'.keep λo e=>c2.keep I o nI lI e;have keep2:∀a o,a≠it->a≠I->¬C.F a->C.hl≠some a->s₀.heap.get? a=some o->s2.heap.get? a=some o:=λa o n1 n2 f q e=>c2.keep a o f q (hk' a o n2 (Z.keep a o n1 n2 f q e));have live2:∀a,s₀.heap.get? a≠none->s2.heap.get? a≠none:=λa q=>c2.live a (by
  refine(?_:h'.get? a≠none);by_cases z:a=I
  ·subst z;exact st'.live
  ·cases e:s1.heap.get? a with
   |none=>exact absurd e (Z.live a q)
   |some o=>rw[hk' a o z e];exact λq=>nomatch q)
 have hg1:s2.gens=s₀.gens:=c2.gens.trans Z.gens;have hg2:s2.drawn=s₀.drawn:=c2.drawn.trans Z.drawn;have hg3:s2.os=s₀.os:=c2.os.trans Z.os;refine wpAny_execs_cons ?_;have hbad:kI ((eH b).drop j)≠.bad:=λq=>by simp[lL,q]at hv
 refine BN H EO hline hroom hh hfr hf (hlo s2 keep2) Y2 hx (λx a e=>(hc x a e).1) B2 (by simp;lia) hbad (λv r hvr s3 j' g1 g2 g3 kp lv Y3 B3 hd=>?_) λhst s' e g1 g2 g3 x=>?_
 ·refine wpAny_execs_nil ?_;simp only[lL,hvr]at hv;refine mE hv λrest' hv' qq=>?_;subst qq;have hnl:∀a,¬C.F a->a≠l:=λa f q=>f (q▸Y2.sim.mF 2 l iW);refine⟨b.size+1-(i+1),Nat.sub_lt_sub_left hlt (ie i),i+1,j',xs++[v],rest',rfl,hlt,by simp[hxi],⟨⟨_,by simpa using Y3⟩,B3,R2.keep λo e=>kp I o (Ne.symm hitI) (hnl I nI) e,g1.trans hg1,g2.trans hg2,g3.trans hg3,λa o n1 n2 f q e=>kp a o n1 (hnl a f) (keep2 a o n1 n2 f q e),λa q=>lv a (live2 a q)⟩,?_,by rw[hr];simp⟩;rw[show b.size+1-(i+1)=n from congrArg Nat.pred hn];rw[hd];exact hv'
 ·refine x.note hfr hf λh4 x4=>?_;have hrx:res=xs:=by simp only[lL,hst]at hv;replace hv:=iS hv;subst hv;rw[hr];simp
  subst hrx;exact he s2 (i+1) j _ _ e Y2 ⟨⟨_,Y2⟩,B2,R2,hg1,hg2,hg3,keep2,live2⟩ g1 g2 g3 x4
end
theorem qI{h h' base:Heap}{l:List Env}:h.FunFrames base l->(∀b∈l.filterMap (·.frame),∀o,h.get? b=some o->∃o',h'.get? b=some o'/\o'.data=o.data)->h'.FunFrames base l:=by
 induction l with
 |nil=>exact λ_ _=>trivial
 |cons env l ih=>
  rintro⟨k,⟨L,o,e,n,g,d⟩,r⟩ hk;have hm:L∈(env :: l).filterMap (·.frame):=by rw[nv];rw[e];exact bW
  refine aP (hk L hm o g) λo' g' d'=>?_;exact⟨k,⟨L,o',e,n,g',λvs q=>d vs (d'▸q)⟩,ih r λb hb=>hk b (by rw[nv];rw[e];exact bZ _ hb)⟩
section
variable{B:aX}{C:Cx}{A:Around}{env:Env}{s:Shared}{T:aC}
structure DB(s:Shared)(lo:List Env)(F:Addr->Prop)(res:List Int)(l:Addr)(s':Shared):Prop where
 gens:s'.gens=s.gens
 drawn:s'.drawn=s.drawn
 os:s'.os=s.os
 new:s.heap.get? l=none
 list:∃vs n,s'.heap.get? l=some (aT vs n)/\∀C h,aH C h (res.map .int) vs
 keep:∀b o,s.heap.get? b=some o->¬F b->∃sl,s'.heap.get? b=some { o with slots:=sl }/\(b∉lo.filterMap (·.frame)->sl=o.slots)
 live:∀b,s.heap.get? b≠none->s'.heap.get? b≠none
theorem rd{C:Cx}{h:Heap}{C':Cx}{h':Heap}:∀{xs:List Int} {vs:List Value},aH C h (xs.map .int) vs->aH C' h' (xs.map .int) vs
 |[],_,r=>r
 |x :: xs,_,r=>by obtain⟨v,w,rfl,r1,r2⟩:=r;exact⟨v,w,rfl,r1,rd r2⟩
set_option maxHeartbeats 1000000 in
theorem BV{lo:List Env}{b:Array UInt8}{res:List Int}{p1 p2 p3 p4 p5 p6 p7 p8 p9 p10 p11 p12 p13 p14 p15 p16 p17 p18 p19 p20 p21 p22 p23 p24 p25 p26 p27 p28 p29 p30:Pos}{k1 k2 k3:Nat}{rest:List Stmt}{Q:aJ Flow}{E:aJ Value}(D:fy B)(H:kr B)
  (EO:bl env (aQ (aK 71)).names) (hln:(p2.line==p1.line)=true) (hline:(p19.endLine==p23.line)=true) (hroom:A.depth<recursionLimit) (hh:A.handled=none) (hfr:A.frames=some (env :: lo)) (hf:env.frame=some env.locals)
  (l0:s.heap.FunFrames B.hb lo) (hloX:∀b∈lo.filterMap (·.frame),C.X b/\∃o es ep,s.heap.get? b=some o/\o.data=.dict es ep) (hcs:∀x a,env.cells.lookup x=some a->C.F a) (hta:C.ta=none) (hhl:C.hl=none)
  (Y:At B C env uP rP [some (.val (.bytes b)),none,none,none] [] T s.heap) (hb:b.size<=1000) (hv:lL (b.size+1) (eH b)=some res)
  (h:∀l s',DB s lo C.F res l s'->Q (.ret (.ref l)) s'):
  wpAny (model B.prog B.w) A (execs (.Assign [.Tuple [.Name "row" p1,.Name "told" p2] k1 p3] (.Tuple [.Call (.Name "iter" p4) [.Name "octets" p5] [] p6,.List [] p7] k2 p8) p9 ::
   .Try [.For (.Name "place" p10) (.Call (.Name "range" p11) [.BinOp (.Call (.Name "len" p12) [.Name "octets" p13] [] p14) .Add (.Constant (.int 1) k3 p15) p16] [] p17)
    [.Expr (.Call (.Attribute (.Name "told" p18) "append" p19) [.Call (.Name "_parse_varint" p20) [.Name "row" p21] [] p22] [] p23) p24] [] p25]
    [.ExceptHandler (some (.Name "StopIteration" p26)) none [.Return (some (.Name "told" p27)) p28] p29] [] [] p30 :: rest) env) Q E s:=by
 refine wpAny_execs_cons (WP.up (GB H EO hh hln Y λs1 it l t c1 fit fl nil I1 Y1=>?_));refine wpAny_execs_cons (wpAny_Try_except ?_);refine wpAny_execs_cons (wpAny_For (Er D EO hh Y1 rfl hb λs2 I x2 fI R2=>?_));have Y2':=Y1.kept x2;have hW:∀a,a=I->s1.heap.get? a=none/\s2.heap.get? a≠none:=λa e=>by subst e;exact⟨fI,R2.live⟩
 have Y2:At B (((C.addX (·=it)).add l).addX (·=I)) env uP rP [some (.val (.bytes b)),some (.val (.ob (.ref it))),some (.own []),none] [(2,l)] T s2.heap:=
  ⟨Y1.sim.addX (λa o _ e=>x2.all a o e) (λa q=>Y2'.sim.vol.liveL a q) hW,(Y1.tab.addX λa w=>(hW a w).1).kept x2⟩
 have I2:ee s2.heap it b t 0:=I1.keep λo e=>x2.all _ o e;have hitI:it≠I:=λq=>by subst q;exact I1.live fI
 have dead:∀a,s.heap.get? a≠none->a≠it/\a≠l/\a≠I:=λa q=>⟨λz=>q (z▸fit),λz=>q (z▸fl),λz=>c1.live a q (z▸fI)⟩;have k2:∀a o,¬C.F a->s.heap.get? a=some o->s2.heap.get? a=some o:=λa o f e=>x2.all a o (c1.keep a o f (by rw[hhl];exact λq=>nomatch q) e);have nC:∀a,¬C.F a->s.heap.get? a≠none->¬(((C.addX (·=it)).add l).addX (·=I)).F a:=λa f q (w:C.F a\/a=l)=>w.elim f (dead a q).2.1;have keepAll:∀s':Shared,(∀a o,a≠it->a≠I->¬(((C.addX (·=it)).add l).addX (·=I)).F a->(((C.addX (·=it)).add l).addX (·=I)).hl≠some a->s2.heap.get? a=some o->s'.heap.get? a=some o)->∀a o,¬C.F a->s.heap.get? a=some o->s'.heap.get? a=some o:=λs' kk a o f e=>by
  have hne:s.heap.get? a≠none:=by rw[e];exact λq=>nomatch q
  exact kk a o (dead a hne).1 (dead a hne).2.2 (nC a f hne) (show C.hl≠some a by rw[hhl];exact λq=>nomatch q) (k2 a o f e)
 have loF:∀c∈lo.filterMap (·.frame),¬C.F c:=λc hc f=>Y.sim.vol.fx c f (hloX c hc).1;refine AZ (res:=res) (s₀:=s2) (l:=l) (it:=it) (t:=t) (b:=b) (C:=((C.addX (·=it)).add l).addX (·=I)) H EO hline hroom hh hfr hf (.inl (.inr rfl)) (.inr rfl) hitI (λx a e=>?_) (λs' kk=>qI l0 λc hc o e=>⟨o,keepAll s' kk c o (loF c hc) e,rfl⟩) hb (λs5 i j pl s' e Y5 Z5 g1 g2 g3 x5=>?_)
  (i:=0) (j:=0) (xs:=[]) (rest:=res) ⟨⟨none,Y2⟩,I2,R2,rfl,rfl,rfl,λ_ _ _ _ _ _ e=>e,λ_ e=>e⟩ (Nat.zero_le _) rfl (by rw[List.drop_zero];exact hv) rfl
 ·have hne:s.heap.get? a≠none:=Y.sim.vol.liveF a (hcs x a e);exact⟨(dead a hne).1,(dead a hne).2.2⟩
 refine jb.back x5 hf λh6 x6=>?_;refine jb.noted (s:={ s' with heap:=h6 }) x6 rfl hf ?_;refine jb.setFlight (s:={ s' with heap:=h6 }) x6 λh7 x7=>?_;have toAt:∀{h8:Heap} {fl:Value},jb B.hb (·=it) (Hd s5 (env :: lo)) (env :: lo) s5.heap h8 e fl->At B (((C.addX (·=it)).add l).addX (·=I)) env uP rP [some (.val (.bytes b)),some (.val (.ob (.ref it))),some (.own (res.map .int)),pl] [(2,l)] T h8:=λ{h8 fl} x8=>by
  refine⟨Y5.sim.slots x8.slots x8.al (λc hc hne=>?_) (λc hc=>?_),λa q=>?_⟩
  ·rcases hc with hc|hc
   ·exact absurd hc hne
   ·replace hc:=nv▸hc;replace hc:=hf▸hc;rcases ah.mp hc with rfl|hc
    ·exact .inl rfl
    ·obtain⟨cx,o,es,ep,e1,e2⟩:=hloX c hc;exact .inr ⟨.inl (.inl cx),o,es,ep,keepAll s5 Z5.keep c o (loF c hc) e1,e2⟩
  ·refine⟨.inr (.inl (.inr hc)),λq=>?_,λx a e q=>?_,λi a e q=>?_⟩
   ·exact(dead _ (Y.sim.vol.liveF _ Y.sim.fF)).1 (q▸hc)
   ·exact(dead a (Y.sim.vol.liveF a (hcs x a e))).1 (q▸hc)
   ·rcases ah.mp e with e|e
    ·cases e;exact nil (hc▸q.symm)
    ·cases e
  ·exact absurd (show C.ta=some a from q) (by rw[hta];exact λq=>nomatch q)
 have Y7:=toAt x7;refine wpAny_handleBy_builtin (X:="StopIteration") (T:="StopIteration") (b:=true) (isSubtype_of_subB (by decide +kernel)) (isSubtype_of_subB (by decide +kernel)) (isSubtype_of_subB (by decide +kernel)) (WP.up (At.glob (s:={ s' with heap:=h7 }) Y7 (by rw[EO.names ..];decide +kernel) H.gStop (by decide +kernel) ⟨rfl,jb.isA (s:={ s' with heap:=h7 }) x7,?_⟩));rw[if_pos rfl];refine jb.setFlight (s:={ s' with heap:=h7 }) x7 λh8 x8=>?_;have Y8:=toAt x8;refine af Y8.sim.names λm M=>?_;obtain⟨a,vs,n,ev,qm,fa,nl,g,rs,cxs⟩:=M.own (i:=2) (c:=.loc) mf rfl;have hal:a=l:=by have:=ju.mp qm;cases this;rfl
 subst hal;refine wpAny_execs_cons (wpAny_Return_some (wpAny_Name (WP.up (mI.load (s:={ s' with heap:=h8 }) M (i:=2) (c:=.loc) mf (by decide +kernel) ev ?_)) (by decide +kernel)));refine h a _ ⟨g1.trans (Z5.gens.trans (x2.gens.trans c1.gens)),g2.trans (Z5.drawn.trans (x2.drawn.trans c1.drawn)),g3.trans (Z5.os.trans (x2.os.trans c1.os)),fl,⟨vs,n,g,λC' h'=>rd rs⟩,λc o e f=>?_,λc q=>x8.al c (Z5.live c ?_)⟩
 ·have hne:s.heap.get? c≠none:=by rw[e];exact λq=>nomatch q
  refine aP (x8.slots c o (keepAll s5 Z5.keep c o f e) (dead c hne).1) λsl q r=>?_;refine⟨sl,q,λnm=>r λp=>?_⟩;rcases p with p|p
  ·replace p:=keepAll s5 Z5.keep c o f e▸p;exact sN p
  ·replace p:=nv▸p;replace p:=hf▸p;rcases ah.mp p with rfl|p
   ·exact f Y.sim.fF
   ·exact nm p
 ·have:=c1.live c q;cases e:s1.heap.get? c with
  |none=>exact absurd e this
  |some o=>rw[x2.all c o e];exact λq=>nomatch q
end
section
variable{B:aX}{C:Cx}{A:Around}{s:Shared}
theorem tH(D:fy B)(H:kr B){lo:List Env}{b:Array UInt8}{t:Tok}{res:List Int}{R:aJ Result}(hroom:A.depth+1<recursionLimit)(hh:A.handled=none)(hfr:A.frames=some lo)
  (l0:s.heap.FunFrames B.hb lo) (hlo:∀c∈lo.filterMap (·.frame),C.F c/\∃o es ep,s.heap.get? c=some o/\o.data=.dict es ep) (V:cV B C s.heap) (hb:b.size<=1000) (hv:lL (b.size+1) (eH b)=some res)
  (h:∀l s',DB s lo (λ_=>False) res l s'->R (.ok (.ret (.ref l))) s'):
  codeAny (model B.prog B.w) A (.call (.ref 261) ⟨[.bytes b t],[]⟩) R s:=by
 have Df:dX B 261 uP 4 [0] rP _ _:=jf H.fNum H.cNum rfl rfl rfl (by decide +kernel) (by decide +kernel) (by decide +kernel);refine gZ (C:=C.ro) (T:=[]) (args:=⟨[.bytes b t],[]⟩) (vs:=[.bytes b t]) (ps:=[.bytes b]) (σ:=[some (.val (.bytes b)),none,none,none]) Df rfl (BindsTo.of_eq rfl) rfl (by lia) V.ro aU.ro ⟨_,_,rfl,⟨t,rfl⟩,rfl⟩ λF' env s₁ hF' hf hcl EO hl Y x1=>?_;have fresh:∀a o,s.heap.get? a=some o->¬F' a:=λa o e f=>by replace e:=hF' a f▸e;exact nS e
 refine BV D H EO rfl rfl hroom (show(A.deeper env).handled=none from hh) (Around.frames_deeper hfr) hf (qI l0 λc hc o e=>⟨o,x1.all c o e,rfl⟩) (λc hc=>?_) hcl rfl rfl Y hb hv λl s' N=>h l s' ?_
 ·obtain⟨f,o,es,ep,e,d⟩:=hlo c hc;exact⟨.inr f,o,es,ep,x1.all c o e,d⟩
 ·refine⟨N.gens.trans x1.gens,N.drawn.trans x1.drawn,N.os.trans x1.os,?_,N.list,λc o e _=>N.keep c o (x1.all c o e) (fresh c o e),λc q=>N.live c ?_⟩
  ·cases e:s.heap.get? l with
   |none=>rfl
   |some o=>have:=N.new;replace this:=x1.all l o e▸this;exact sN this
  ·cases e:s.heap.get? c with
   |none=>exact absurd e q
   |some o=>rw[x1.all c o e];exact λq=>nomatch q
end
noncomputable abbrev ID:Nat->Str:=hZ [sx "self",sx "headers",sx "k",sx "v"]
structure sb(B:aX):Prop where
 f:B.hb.get? 132=some (cr (aG 0) (sx "Headers.__init__") bv 599 131 (.ref 125))
 c:B.hb.CodeRec (.ref 131) (sx "Headers.__init__")
 d:∃o n,B.hb.get? 125=some o/\o.data=.seq #[.none] n
 gList:B.at ("list":Str)=some (.type "list")
 gHeaders:B.at ("Headers":Str)=some (.ref 240)
section
variable{B:aX}{C:Cx}{A:Around}{env:Env}{s:Shared}{T:aC}{mN:Str->Option Value}
theorem GK:bU ID rP:=bx (by decide +kernel)
theorem zq(H:HF B mN)(HI:sb B){x dx l:Addr}{p1 p2 p3 p4 p5 p6 p7 p8 p9 p10 p11 p12 p13 p14 p15 p16 p17 p18 p19 p20 p21 p22:Pos}{k1 k2:Nat}{rs:List Stmt}{tg:Expr}{fb:List Stmt}{Q:aJ Flow}(EO:bl env (aQ (aG 0)).names)(hh:A.handled=none)(hhl:C.hl=none)
  (hx:C.X x) (hdx:C.X dx) (hl:¬C.F l/\¬C.X l) (hcx:∀y a,env.cells.lookup y=some a->C.F a)
  (Y:At B C env ID rP [some (.val (.ob (.ref x))),some (.val (.ob (.ref l))),none,none] [] T s.heap) (I:s.heap.Inst x 240 λ_=>none) (hd:∀o,s.heap.get? x=some o->o.dict=some dx) (gl:s.heap.get? l=some (aT [] 0))
  (h:∀s',s'.gens=s.gens->s'.drawn=s.drawn->s'.os=s.os->(∀a o,¬C.F a->a≠x->a≠dx->s.heap.get? a=some o->s'.heap.get? a=some o)->s'.heap.Inst x 240 (je l)->(∀o,s'.heap.get? x=some o->o.dict=some dx)->Q .next s'):
  WP B A (execs [.Assign [.Name "headers" p1] (.IfExp (.Compare (.Name "headers" p2) [.IsNot] [.Constant .none k1 p3] p4) (.Name "headers" p5) (.List [] p6) p7) p8,
   .If (.Compare (.Call (.Name "type" p9) [.Name "headers" p10] [] p11) [.IsNot] [.Name "list" p12] p13) rs [] p14,
   .Assign [.Attribute (.Name "self" p15) "_headers" p16] (.Name "headers" p17) p18,
   .If (.Constant (.bool true) k2 p19) [.For tg (.Name "headers" p20) fb [] p21] [] p22] env) Q s:=by
 have xF:¬C.F x:=λq=>Y.sim.vol.fx _ q hx;have dF:¬C.F dx:=λq=>Y.sim.vol.fx _ q hdx;have hlx:∀a,C.hl≠some a:=λa=>by rw[hhl];exact λq=>nomatch q
 have kd:=EO.names;refine wpAny_execs_cons (wpAny_Assign_Name (wpAny_IfExp (wpAny_isTrue_Compare1 (Y.name (i:=1) (c:=.loc) kl rfl rfl (by decide +kernel) λv hv=>wpAny_Constant_none ?_))));obtain rfl:v=.ref l:=hv;refine wpAny_isNot_other rfl (λq=>nomatch q) (wpAny_truthy_bool ?_);rw[if_pos rfl];refine Y.name (i:=1) (c:=.loc) kl rfl rfl (by decide +kernel) λv hv=>?_;obtain rfl:v=.ref l:=hv;refine fM (nm:=ID) (N:=4) (i:=1) (p:=.ob (.ref l)) GK (by decide +kernel) rfl rfl Y rfl rfl λs1 c1 l1 Y1=>?_;have gl1:=l1 _ _ _ gl;refine wpAny_execs_cons (wpAny_If (wpAny_isTrue_Compare1 ?_));refine(?_:WP B A (eval (.Name "type" p9) env >>= λfv=>callWith p11 fv [] [(false,eval (.Name "headers" p10) env)] []) _ s1);refine wpAny_bind (Y1.glob (by rw[kd ..];decide +kernel) H.gType (by decide +kernel) ?_);refine PySem.callWith_type rfl (xv (Y1.name (i:=1) (c:=.loc) kl rfl rfl (by decide +kernel) λv hv=>?_));obtain rfl:v=.ref l:=hv;refine call_type_of (Tx:="list") ⟨_,gl1,rfl⟩ (by decide) ?_;refine Y1.glob (by rw[kd ..];decide +kernel) HI.gList (by decide +kernel) ?_;refine wpAny_isNot_self rfl (wpAny_truthy_bool ?_);rw[if_neg (λq=>nomatch q)];refine wpAny_execs_nil (wpAny_execs_cons (plainObj_wpAny_Assign_Attribute (Y1.name (i:=1) (c:=.loc) kl rfl rfl (by decide +kernel) λv hv=>?_)));obtain rfl:v=.ref l:=hv;refine Y1.name (i:=0) (c:=.loc) iW rfl rfl (by decide +kernel) λv hv=>?_;obtain rfl:v=.ref x:=hv;refine eV H.cls λt1 t2 hC=>?_;have kx:∀o,s.heap.get? x=some o->s1.heap.get? x=some o:=λo e=>c1.keep x o xF (hlx x) e;have kdx:∀o,s.heap.get? dx=some o->s1.heap.get? dx=some o:=λo e=>c1.keep dx o dF (hlx dx) e;refine iU (id I) λox hox hcx1 hdt hdd=>?_;have hdict:=hd ox hox;obtain⟨d',hd',hne,hns⟩:∃d,ox.dict=some d/\d≠x/\s.heap.Ns1 d λ_=>none:=by
  rcases hdd with⟨e,_⟩|e
  ·replace e:=hdict▸e;exact sN e
  ·exact e
 obtain rfl:d'=dx:=by replace hd':=hdict▸hd';replace hd':=iS hd';subst hd';rfl
 have I1:s1.heap.Inst x 240 λ_=>none:=⟨ox,kx _ hox,hcx1,hdt,.inr ⟨d',hd',hne,hns.at λo e=>kdx o e⟩⟩;have hx240:x≠240:=λq=>by have:=Y1.sim.vol.baseX x hx;replace this:=q▸this;replace this:=hC▸this;exact sN this
 have st:∀{Q':aJ Unit},(∀h' tk',h'.Inst x 240 (je l)->(∀b o,b≠x->b≠d'->s1.heap.get? b=some o->h'.get? b=some o)->(∀o,h'.get? x=some o->o.dict=some d')->Q' () { s1 with heap:=h',toks:=tk' }) ->
   WP B A (setAttr (.ref x) "_headers" (.ref l)) Q' s1:=λ{Q'} hq=>by
  obtain⟨hp,gg,dr,tk,os⟩:=s1;refine store_attr PySem.F.store_object (Y1.sim.vol.base _ _ hC) (H.ns.keeps Y1.sim.vol.base) H.sa H.hd qZ hx240 I1 (λh' tk' I' k' sm=>?_);refine hq h' tk' I' (λb o n1 n2 e=>k' b o n1 (λo₀ dx₀ e1 e2=>?_) e) λo e=>?_
  ·replace e1:=kx _ hox▸e1;replace e1:=iS e1;subst e1;replace e2:=hdict▸e2;replace e2:=iS e2;subst e2;exact n2
  ·refine wP (sm ox (kx _ hox)) λo₁ e1 _ _ _ e5=>?_;replace e:=e1▸e;replace e:=iS e;subst e;exact e5 d' hdict
 refine st λh2 tk2 I2 k2 d2=>?_;have live2:∀a,a=x\/a=d'->h2.get? a≠none:=λa q=>by
  refine iU (id I2) λo2 e2 _ _ e3=>?_;rcases q with rfl|rfl
  ·rw[e2];exact λq=>nomatch q
  ·rcases e3 with⟨_,e3⟩|⟨d3,e4,_,e5⟩
   ·have:=e3 "_headers";simp[je]at this
   ·have:=d2 o2 e2;replace this:=e4▸this;replace this:=iS this;subst this;refine pJ e5 ?_;clear e5;intro o5 _ _ e6 _;rw[e6];exact λq=>nomatch q
 have hWX:∀a,(a=x\/a=d')->C.X a:=λa q=>q.elim (λe=>e▸hx) λe=>e▸hdx;have Y2:At B C env ID rP ([some (.val (.ob (.ref x))),some (.val (.ob (.ref l))),none,none].set 1 (some (.val (.ob (.ref l))))) [] T h2:=
  ⟨Y1.sim.step (W:=λa=>a=x\/a=d') hWX (λy a e w=>Y1.sim.vol.fx a (hcx y a e) (hWX a w)) (λa o w e=>k2 a o (λq=>w (.inl q)) (λq=>w (.inr q)) e) live2,
  Y1.tab.step (W:=λa=>a=x\/a=d') (λa w=>.inl (hWX a w)) (λl q w=>hlx l q) λa o w e=>k2 a o (λq=>w (.inl q)) (λq=>w (.inr q)) e⟩
 have glx:l≠x:=λq=>hl.2 (q▸hx);have gld:l≠d':=λq=>hl.2 (q▸hdx);have gl2:h2.get? l=some (aT [] 0):=k2 l _ glx gld gl1;refine wpAny_execs_cons (wpAny_If (wpAny_isTrue_value (wpAny_Constant_bool (wpAny_truthy_bool ?_))));rw[if_pos rfl];refine wpAny_execs_cons (wpAny_For (At.name (s:={ s1 with heap:=h2,toks:=tk2 }) Y2 (i:=1) (c:=.loc) kl rfl rfl (by decide +kernel) λv hv=>?_));obtain rfl:v=.ref l:=hv;have IL:h2.IsList l #[]:=⟨_,gl2,rfl,_,rfl⟩;refine wpAny_pyIter_list (s:={ s1 with heap:=h2,toks:=tk2 }) IL ?_;have hIl:l≠h2.objs.size:=λq=>by replace gl2:=q▸gl2;exact absurd (gB gl2) (Nat.lt_irrefl _)
 have W:=Walks.list (prog:=B.prog) (w:=B.w) hh h2.objs.size l hIl #[];refine codeAny_forLoop_any (λn s'=>s'={ s1 with heap:=h2.push { cls:=.type "list_iterator",data:=.fields #[.ref l,.int 0 0] },toks:=tk2 }) (λn s' e=>?_) 0 rfl;subst e;refine W.done _ _ _ ⟨⟨_,cZ _ rfl,rfl,rfl⟩,IL.at λo e=>bK _ e⟩ λh3 tk3 k3=>wpAny_execs_nil (wpAny_execs_nil (wpAny_execs_nil ?_));have k23:∀a o,h2.get? a=some o->h3.get? a=some o:=λa o e=>by
  refine k3 a o (λq=>?_) (bK _ e);have:a=h2.objs.size:=by simpa using q
  replace e:=this▸e;replace e:=(aV ..)▸e;exact nS e
 refine h _ c1.gens c1.drawn c1.os (λa o f n1 n2 e=>k23 a o (k2 a o n1 n2 (c1.keep a o f (hlx a) e))) ?_ λo e=>?_
 ·refine iU I2 ?_;clear I2;intro o2 e2 e3 e4 e5;refine⟨o2,k23 _ _ e2,e3,e4,e5.imp id λ⟨d,r1,r2,r3⟩=>⟨d,r1,r2,r3.at λo e=>k23 _ _ e⟩⟩
 ·refine aP I2 ?_;clear I2;intro o2 e2 _;have:=k23 _ _ e2;replace this:=(show h3.get? x=some o from e)▸this;replace this:=iS this;subst this;exact d2 o e2
end
section
variable{B:aX}{C:Cx}{A:Around}{env:Env}{s:Shared}{T:aC}{mN:Str->Option Value}
theorem hV{a:Addr}{b:Value}:Code.weight (.builtin "type.__call__" ⟨[.ref a,b],[]⟩)=1:=by rfl
theorem za{a:Addr}{b:Value}:Code.cUnits (.builtin "type.__call__" ⟨[.ref a,b],[]⟩)=1:=by rfl
theorem v6(H:HF B mN)(HI:sb B){l:Addr}{Q:aJ Value}(F:bJ 1 A)(V:cV B C s.heap)(hhl:C.hl=none)(hl:¬C.F l/\¬C.X l)(gl:s.heap.get? l=some (aT [] 0))
  (h:∀x d s',a9 none s s'->s.heap.get? x=none->s.heap.get? d=none->s'.heap.Inst x 240 (je l)->(∀o,s'.heap.get? x=some o->o.dict=some d)->Q (.ref x) s'):WP B A (call (.ref 240) [.ref l]) Q s:=by
 refine eV H.cls λt1 t2 hC=>?_;have Vb:=V.base;obtain⟨hp,gg,dr,tk,os⟩:=s;refine wpAny_call_obj_init PySem.F.objNew (Vb _ _ hC) (H.ns.keeps Vb) H.mInit (Vb _ _ HI.f) rfl λh' x dx M=>?_;have dead:∀a o,hp.get? a=some o->a≠x/\a≠dx:=λa o e=>⟨λq=>(by replace e:=q▸e;replace e:=M.newX▸e;exact nS e),λq=>(by replace e:=q▸e;replace e:=M.newD▸e;exact nS e)⟩;have hIx:=M.inst;have hlive:∀a,a=x\/a=dx->h'.get? a≠none:=λa q=>by
  refine iU (id hIx) λo e _ _ e3=>?_;have ed:=M.dict o e;rcases q with rfl|rfl
  ·rw[e];exact λq=>nomatch q
  ·rcases e3 with⟨e3,_⟩|⟨d3,e4,_,e5⟩
   ·replace e3:=ed▸e3;exact sN e3
   ·replace e4:=ed▸e4;replace e4:=iS e4;subst e4;refine pJ e5 ?_;clear e5;intro o5 _ _ e6 _;rw[e6];exact λq=>nomatch q
 have V1:cV B (C.addX λa=>a=x\/a=dx) h':=V.addX (λa o _ e=>M.keeps a o e) (λa q=>by replace q:=hhl▸q;exact nS q) λa q=>⟨q.elim (λe=>e▸M.newX) λe=>e▸M.newD,hlive a q⟩;have Df:dX B 132 ID 4 [0,1] rP _ _:=jf HI.f HI.c rfl rfl rfl (by decide +kernel) (by decide +kernel) (by decide +kernel);refine lV HI.d λod n h1 h2=>?_;have FA:bJ 0 (A.under (.builtin "type.__call__" ⟨[.ref 240,.ref l],[]⟩)):=⟨F.hd,by have:=F.depth;show A.depth+Code.weight (.builtin "type.__call__" ⟨[.ref 240,.ref l],[]⟩)+_<=_;rw[hV];lia,by have:=F.units;show A.units+Code.cUnits (.builtin "type.__call__" ⟨[.ref 240,.ref l],[]⟩)+_<=_;have:=za (a:=240) (b:=.ref l);lia⟩;refine wpAny_call (gZ (s:=⟨h',gg,dr,tk,os⟩) (C:=(C.addX λa=>a=x\/a=dx).ro) (T:=[]) (args:=⟨[.ref x,.ref l],[]⟩) (vs:=[.ref x,.ref l]) (ps:=[.ob (.ref x),.ob (.ref l)]) (σ:=[some (.val (.ob (.ref x))),some (.val (.ob (.ref l))),none,none]) Df rfl
  (BindsTo.of_defaults (fd:=am (aG 0) (sx "Headers.__init__") bv 599 131 (.ref 125)) rfl (V1.base _ _ h1) h2 rfl rfl) rfl FA.room V1.ro aU.ro ⟨_,_,rfl,rfl,_,_,rfl,rfl,rfl⟩ λF' env s₁ hF' hf hcl EO hln Y x1=>?_)
 have hlF:¬F' l:=λf=>by have:=hF' l f;replace this:=(show h'.get? l=_ from M.keeps _ _ gl)▸this;exact sN this
 have hlX:¬(C.X l\/(l=x\/l=dx)):=λq=>q.elim hl.2 λq=>q.elim (dead l _ gl).1 (dead l _ gl).2;refine WP.up (zq (C:=(C.addX λa=>a=x\/a=dx).ro.enter F') H HI EO FA.hd rfl (x:=x) (dx:=dx) (l:=l) (.inl (.inl (.inr (.inl rfl)))) (.inl (.inl (.inr (.inr rfl)))) ⟨hlF,λq=>?_⟩ hcl Y ?_ (λo e=>?_) (x1.all _ _ (M.keeps _ _ gl)) λs' g1 g2 g3 k I d=>?_)
 ·rcases q with(q|q)|q
  ·exact hlX q
  ·exact absurd (show C.hl=some l from q) (by rw[hhl];exact λq=>nomatch q)
  ·exact hl.1 q
 ·refine iU hIx ?_;clear hIx;intro o e e1 e2 e3;exact⟨o,x1.all _ _ e,e1,e2,e3.imp id λ⟨d,r1,r2,r3⟩=>⟨d,r1,r2,r3.at λo e=>x1.all _ _ e⟩⟩
 ·refine aP hIx ?_;clear hIx;intro ox ex _;have:=x1.all _ _ ex;replace e:=this▸e;replace e:=iS e;subst e;exact M.dict _ ex
 ·have fresh:∀a o,hp.get? a=some o->¬F' a:=λa o e f=>by have:=hF' a f;replace this:=(show h'.get? a=some o from M.keeps _ _ e)▸this;exact sN this
  exact⟨rfl,h x dx s' ⟨g1.trans x1.gens,g2.trans x1.drawn,g3.trans x1.os,λa o _ e=>k a o (fresh a o e) (dead a o e).1 (dead a o e).2 (x1.all _ _ (M.keeps _ _ e))⟩ M.newX M.newD I d⟩
end
noncomputable abbrev rF:Nat->Str:=vC
noncomputable def eC:SC:=(hH rF (aQ (aK 75)).names (List.range 26)).getD []
theorem Gv:hH rF (aQ (aK 75)).names (List.range 26)=some eC:=by
 unfold eC;cases e:hH rF (aQ (aK 75)).names (List.range 26)with
 |some x=>rfl
 |none=>
  have h:(hH rF (aQ (aK 75)).names (List.range 26)).isSome=true:=by decide +kernel
  replace h:=e▸h;exact fT h
theorem mV:bU rF eC:=bx (by decide +kernel)
noncomputable def gC:E:=.comp (.callu .pretty ⟨247,49,247,61⟩ (.cons (.bin .LShift (.var 26 ⟨247,62,247,67⟩) (.var 6 ⟨247,71,247,76⟩) ⟨247,62,247,76⟩) .nil) ⟨247,49,247,77⟩) (.one 26 ⟨247,82,247,87⟩)
 (.callb .range ⟨247,91,247,96⟩ (.cons (.cst (.int 16) 0 ⟨247,97,247,99⟩) .nil) ⟨247,91,247,100⟩) .nil [6] (le [(sx ".0",.local),(sx "means",.local),(sx "pretty_flags",.globalImplicit),(sx "shift",.free)]) ⟨247,48,247,101⟩
noncomputable def st3:Stmt:=.Assign [.Tuple [.Name "told" ⟨247,4,247,8⟩,.Name "words" ⟨247,10,247,15⟩,.Name "table" ⟨247,17,247,22⟩] 0 ⟨247,4,247,22⟩]
 (.Tuple [.Call (.Name "_law_numbers" ⟨247,26,247,38⟩) [.Name "octets" ⟨247,39,247,45⟩] [] ⟨247,26,247,46⟩,gC.toE rF,.Call (.Name "Headers" ⟨247,103,247,110⟩) [.List [] ⟨247,111,247,113⟩] [] ⟨247,103,247,114⟩] 0 ⟨247,25,247,115⟩) ⟨247,4,247,115⟩
theorem Ck:cP (aK 75)=i6.toSs rF++st3 :: aY.toSs rF:=rfl
theorem yx:gC.ok rF 51 (aQ (aK 75)).names eC=true:=by decide +kernel
theorem Dc:i6.ok rF 51 (aQ (aK 75)).names eC=true:=by decide +kernel
theorem Dy:aY.ok rF 51 (aQ (aK 75)).names eC=true:=by decide +kernel
theorem Da:i6.wf.2=true:=by decide +kernel
theorem EZ:aY.wf.2=true:=by decide +kernel
theorem uD:(3,Kd.loc)∈eC/\(9,Kd.loc)∈eC/\(10,Kd.cell)∈eC/\(11,Kd.cell)∈eC:=by
 have h:(eC.contains (3,Kd.loc)&&eC.contains (9,Kd.loc)&&eC.contains (10,Kd.cell)&&eC.contains (11,Kd.cell))=true:=by decide +kernel
 simpa[and_assoc]using h
section
variable{B:aX}{C:Cx}{A:Around}{env:Env}{s:Shared}{T:aC}{mN:Str->Option Value}
theorem qz(H:HF B mN){pos:Pos}{args:List (Bool×Sem Value)}{Q:aJ Value}(hst:(args.any (λx=>x.fst)||([]:List (Option Str×Sem Value)).any λx=>x.fst.isNone)=false)
  (h:WP B A (evalArgs (.ref 240) true args []) (λas s₁=>∃v,as=⟨[v],[]⟩/\(∀b o,B.hb.get? b=some o->s₁.heap.get? b=some o)/\WP B A (call (.ref 240) [v]) Q s₁) s):
  WP B A (callWith pos (.ref 240) [] args []) Q s:=by
 unfold callWith;refine wpAny_bind (wpAny_holding (wpAny_mono h (λas s₁ h₁=>?_) λ_ _ x=>x));refine d1 h₁ ?_;clear h₁;intro v e hk hc;subst e;obtain⟨hh,g,d,t,os⟩:=s₁;refine eV H.cls λt1 t2 hC=>?_;have hC:=hk _ _ hC;have f1:=tc_lookup;have hT:(⟨hh,g,d,t,os⟩:Shared).TypeIs (.ref 240) "type":=⟨_,hC,rfl⟩;refine wpAny_bind (wpAny_standAt ?_);refine(?_:wpAny _ _ (keeperOf (.ref 240) >>= _) _ _ _);unfold keeperOf specialOf
 repeat (any_goals (first|assumption|with_reducible refine wpAny_loadPart_at hC ?_|with_reducible refine wpAny_load' hC ?_|wp_step))
 rw[if_pos (by rfl)];rw[hst];show wpAny _ _ (call (.ref 240) [v] [] >>= λr=>do holding [r] point;pure r) _ _ _;exact wpAny_bind (wpAny_mono hc (λr s' hr=>wpAny_bind (wpAny_holding (wpAny_point (wpAny_pure hr)))) λ_ _ x=>x)
theorem tS(H:HF B mN){pos:Pos}{x:Sem Value}{Q:aJ Value}(h:WP B A x (λv s₁=>(∀b o,B.hb.get? b=some o->s₁.heap.get? b=some o)/\WP B A (call (.ref 240) [v]) Q s₁) s):
  WP B A (callWith pos (.ref 240) [] [(false,x)] []) Q s:=
 qz H rfl (o6 (df (wpAny_mono h (λv s₁ h₁=>fJ ⟨v,rfl,h₁⟩) λ_ _ x=>x)))
set_option backward.match.sparseCases true in
theorem Cm(EO:bl env (aQ (aK 75)).names){p1 p2 p3 p4 p5:Pos}{k k2:Nat}{es:List Expr}(hst:(es.any fun|.Starred ..=>true|_=>false)=false):
  swappedStores [.Tuple [.Name "told" p1,.Name "words" p2,.Name "table" p3] k p4] (.Tuple es k2 p5) env=pure none:=by
 have ha:([(9,p1),(10,p2),(11,p3)].all (alikeT rF (aQ (aK 75)).names p1.line))=false:=by refine(?_:(_&&(false&&_))=false);rw[Bool.false_and ..];rw[Bool.and_false ..];rfl
 have hs:pv rF (aQ (aK 75)).names [(9,p1),(10,p2),(11,p3)] es=false:=by refine(?_:(_&&_&&[(9,p1),(10,p2),(11,p3)].all (alikeT rF (aQ (aK 75)).names p1.line)&&_)=false);rw[ha];rw[Bool.and_false ..];rw[Bool.false_and ..];rfl
 have:=lX (nm:=rF) (ts:=[(9,p1),(10,p2),(11,p3)]) (k:=k) (tp:=p4) (ek:=k2) (ep:=p5) (vs:=es) EO (by kernel_rfl) hst (by rw[hs];rfl);replace this:=hs▸this;exact this
end
section
variable{B:aX}{C:Cx}{A:Around}{env:Env}{nm:Nat->Str}{sc:SC}{σ:aF}{mt:List (Nat×Addr)}{s:Shared}{T:aC}{mN:Str->Option Value}
noncomputable abbrev Cx.tab(C:Cx)(l:Addr)(ta:Option Addr):Cx:={ C with hl:=some l,ta:=ta }
theorem an.withTab{h₀ h:Heap}{l:Addr}{ta:Option Addr}(hta:C.ta=none)(f:h₀.get? l=none)(hk:∀a o,h₀.get? a=some o->h.get? a=some o){p:PV}{v:Value}(c:clean p=true)(r:an C h₀ p v):an (C.tab l ta) h p v:=
 r.move (C:=C) (C':=C.tab l ta) (λa o x fa _ e=>⟨x,fa,(λq=>by replace q:=iS q;subst q;replace e:=f▸e;exact nS e),hk a o e⟩) (λa e=>by replace e:=hta▸e;exact nS e) c
theorem aH.withTab{h₀ h:Heap}{l:Addr}{ta:Option Addr}(hta:C.ta=none)(f:h₀.get? l=none)(hk:∀a o,h₀.get? a=some o->h.get? a=some o){p:List PV}{v:List Value}(c:aA p=true)(r:aH C h₀ p v):aH (C.tab l ta) h p v:=
 r.move (C:=C) (C':=C.tab l ta) (λa o x fa _ e=>⟨x,fa,(λq=>by replace q:=iS q;subst q;replace e:=f▸e;exact nS e),hk a o e⟩) (λa e=>by replace e:=hta▸e;exact nS e) c
theorem dY.withTab{h₀ h:Heap}{l:Addr}{ta:Option Addr}(S:dY B C env nm sc σ mt h₀)(hta:C.ta=none)(f:h₀.get? l=none)(hk:∀a o,h₀.get? a=some o->h.get? a=some o)(lv:h.get? l≠none):dY B (C.tab l ta) env nm sc σ mt h where
 vol:={
  base:=λa o e=>hk a o (S.vol.base a o e)
  baseX:=S.vol.baseX
  baseF:=S.vol.baseF
  baseL:=λa q=>by
   replace q:=iS q;subst q;cases e:B.hb.get? l with
   |none=>rfl
   |some o=>replace f:=S.vol.base l o e▸f;exact sN f
  liveX:=λa x=>by
   cases e:h₀.get? a with
   |none=>exact absurd e (S.vol.liveX a x)
   |some o=>rw[hk a o e];exact λq=>nomatch q
  liveF:=λa x=>by
   cases e:h₀.get? a with
   |none=>exact absurd e (S.vol.liveF a x)
   |some o=>rw[hk a o e];exact λq=>nomatch q
  liveL:=λa q=>by replace q:=iS q;subst q;exact lv
  fx:=S.vol.fx
  lf:=λa q x=>by replace q:=iS q;subst q;exact S.vol.liveF _ x f
  lx:=λa q x=>by replace q:=iS q;subst q;exact S.vol.liveX _ x f }
 fF:=S.fF
 cF:=S.cF
 mF:=S.mF
 mlist:=λi a q=>by refine eV (S.mlist i a q) λvs n e=>?_;exact⟨vs,n,hk a _ e⟩
 minj:=S.minj
 ex:=by
  refine aP S.ex λm F e=>?_;refine⟨m,F.keep (λ_=>True) trivial (λ_ _ _=>trivial) λa o _ g=>hk a o g,λi c q=>⟨?_,?_⟩⟩
  ·have k:=(e i c q).1;cases c<;>exact k
  ·have y:=(e i c q).2;cases z:σ.getD i none with
   |none=>trivial
   |some av=>
    replace y:=z▸y;cases av with
    |val p=>obtain⟨c,v,e,r⟩:=y;exact⟨c,v,e,r.withTab hta f hk c⟩
    |own xs=>obtain⟨c,b,vs,n,e,q,g,r⟩:=y;exact⟨c,b,vs,n,e,q,hk b _ g,r.withTab hta f hk c⟩
theorem j2:∀xs:List Int,aA (xs.map .int)=true
 |[]=>rfl
 |x :: xs=>by simp[bb,bR,clean,j2 xs]
set_option maxHeartbeats 1000000 in
theorem GF(X:gL B mN)(P:bV B Φ2 5)(HN:kr B)(HI:sb B){b:Array UInt8}{res:List Int}{ws:List PV}{Q:aJ Flow}(EO:bl env (aQ (aK 75)).names)(F:bJ 5 A)(hfr:A.frames=some [env])(hf:env.frame=some env.locals)
  (hhl:C.hl=none) (hta:C.ta=none) (Y:At B C env rF eC σ mt [] s.heap) (hlen:σ.length=51) (hσ3:σ.getD 3 none=some (.val (.bytes b))) (hb:b.size<=1000) (hv:lL (b.size+1) (eH b)=some res)
  (hw:(gC.sm Φ2).ev σ []=some (.list ws,[])) (hcw:aA ws=true)
  (h:∀l x s' mt',eR C s s'->s.heap.get? l=none->s.heap.get? x=none->At B (C.tab l (some x)) env rF eC (((σ.set 9 (some (.val (.list (res.map .int))))).set 10 (some (.val (.list ws)))).set 11 (some (.val .tab))) mt' [] s'.heap->Q .next s'):
  WP B A (exec st3 env) Q s:=by
 have kd:=EO.names;have FT:fi B 5 51 A env (aQ (aK 75)).names σ:=⟨F,λx hx=>by rw[kd ..];exact hx,hlen⟩;refine wpAny_Assign_stores (wpAny_Tuple (k:=0) ?_) rfl (Cm EO rfl);refine(?_:WP B A (spliced [(false,_),(false,_),(false,_)]) _ s);refine df ?_;refine(?_:WP B A (eval (.Name "_law_numbers" _) env >>= λfv=>callWith _ fv [] [(false,eval (.Name "octets" _) env)] []) _ s);refine wpAny_bind (Y.glob (by rw[kd ..];decide +kernel) HN.gNum (by decide +kernel) ?_);refine d0 (o:=cr (aK 71) (sx "_law_numbers") uB 818 260) (fd:=am (aK 71) (sx "_law_numbers") uB 818 260 .none) (by intro x hx;rcases ah.mp hx with rfl|hx;rfl;cases hx) (mX (Y.name (i:=3) (c:=.loc) uD.1 hσ3 (by decide +kernel) (by decide +kernel) λv hv=>?_));refine af hv ?_;clear hv;intro t q1q;subst q1q;refine⟨⟨Y.sim.vol.base _ _ HN.fNum,rfl⟩,?_⟩;have hloc:∃o es ep,s.heap.get? env.locals=some o/\o.data=.dict es ep:=by refine aP Y.sim.ex λm F _=>?_;obtain⟨ml,⟨o,es,ep,e,d,_⟩,_⟩:=F.ns;exact⟨o,es,ep,e,d⟩
 have hfm:∀c,c∈[env].filterMap (·.frame)↔c=env.locals:=λc=>by simp[hf,eq_comm]
 have ff:s.heap.FunFrames B.hb [env]:=by refine aP Y.sim.ex λm' F _=>?_;refine aP F.ns λml hn _=>?_;exact Heap.FunFrames.cons (by rw[EO.kind];decide) hf hn (Y.sim.vol.baseF _ Y.sim.fF) trivial
 refine wpAny_call (tH X.D HN (res:=res) (by have:=F.depth;show _<1000;lia) F.hd hfr ff (λc hc=>?_) Y.sim.vol hb hv λl1 s1 N=>?_)
 ·rw[(hfm c).mp hc];exact⟨Y.sim.fF,hloc⟩
 have Y1:At B C env rF eC σ mt [] s1.heap:=⟨Y.sim.slots (D:=λ_=>False) (P:=λc=>c∈[env].filterMap (·.frame)) (λc o e d=>N.keep c o e d) N.live (λc hc _=>.inl ((hfm c).mp hc)) λc hc=>hc.elim,λa q=>by replace q:=hta▸q;exact nS q⟩;refine lV N.list λvs1 n1 g1 rs1=>?_;have L0:=Y.live.new N.new;have r1:an C s1.heap (.list (res.map .int)) (.ref l1):=⟨l1,vs1,n1,rfl,L0.1,L0.2.1,L0.2.2,g1,rs1 _ _⟩;have k1:∀a o,¬C.F a->s.heap.get? a=some o->s1.heap.get? a=some o:=λa o f e=>by refine aP (N.keep a o e (λz=>z)) λsl q r=>?_;rw[q];rw[r λw=>f ((hfm a).mp w▸Y.sim.fF)];rfl
 refine df ?_;refine(bo P (by decide) gC).v yx FT hw Y1 λv2 s2 x2 Y2 r2=>?_;have x2':a9 none s1 s2:=by rw[hhl.symm];exact x2
 have r1':=r1.keep (C:=C) x2.keep;refine df ?_;refine(?_:WP B A (eval (.Name "Headers" _) env >>= λfv=>callWith _ fv [] [(false,eval (.List [] _) env)] []) _ s2);refine wpAny_bind (Y2.glob (by rw[kd ..];decide +kernel) HI.gHeaders (by decide +kernel) ?_);refine tS X.H (wpAny_List (fJ ⟨by decide,?_⟩));have fl:=aV s2.heap;have gl:(s2.heap.push (aT [] 0)).get? s2.heap.objs.size=some (aT [] 0):=cZ _ rfl;have x3:a9 none s2 { s2 with heap:=s2.heap.push (aT [] 0) }:=.lay';have Y3:=Y2.kept x3;generalize hs3:({ s2 with heap:=s2.heap.push (aT [] 0) }:Shared)=s3 at *;have hs3h:s2.heap.push (aT [] 0)=s3.heap:=by rw[hs3.symm];rfl
 replace gl:=hs3h▸gl;generalize s2.heap.objs.size=l at *;have Ll:=Y2.live.new fl;refine⟨Y3.sim.vol.base,v6 X.H HI (F.mono (by decide)) Y3.sim.vol hhl ⟨Ll.2.1,Ll.1⟩ gl λx d s4 x4 fx fd I4 hd=>fJ ⟨(by show 3<=sizeLine;decide),?_⟩⟩;have hlist:s4.heap.get? l=some (aT [] 0):=x4.all _ _ gl;have x24:a9 none s2 s4:=x3.trans x4;have Y4:At B (C.tab l (some x)) env rF eC σ mt [] s4.heap:=by
  refine⟨Y2.sim.withTab hta fl (λa o e=>x24.all a o e) (by rw[hlist];exact λq=>nomatch q),λa q=>?_⟩;replace q:=iS q;subst q;refine iU I4 ?_;clear I4;intro o e1 e2 e3 e4;have hdo:=hd o e1;obtain⟨d',hd',hne,hns⟩:∃d,o.dict=some d/\d≠x/\s4.heap.Ns1 d (je l):=by
   rcases e4 with⟨e,_⟩|e
   ·replace e:=hdo▸e;exact sN e
   ·exact e
  replace hd':=hdo▸hd';replace hd':=iS hd';subst hd';refine⟨l,d,o,[],0,rfl,hlist,rfl,e1,e2,e3,hdo,hne,hns,λc hc=>?_,λr hr=>nomatch hr⟩;have fc:s3.heap.get? c=none:=hc.elim (λz=>z▸fx) λz=>z▸fd;have Lc:=Y3.live.new fc;exact⟨Lc.2.1,Lc.1,λz=>by replace z:=iS z;subst z;replace fc:=gl▸fc;exact sN fc⟩
 have r1'':an (C.tab l (some x)) s4.heap (.list (res.map .int)) (.ref l1):=r1'.withTab hta fl (λa o e=>x24.all a o e) (j2 res);have r2'':an (C.tab l (some x)) s4.heap (.list ws) v2:=an.withTab hta fl (λa o e=>x24.all a o e) hcw r2;have x5:a9 none s4 { s4 with heap:=s4.heap.push (eg [.ref l1,v2,.ref x] 0) }:=.lay';have Y5:=Y4.kept x5;have ht:an (C.tab l (some x)) (s4.heap.push (eg [.ref l1,v2,.ref x] 0)) (.tuple [.list (res.map .int),.list ws,.tab]) (.ref s4.heap.objs.size):=
  an.newTuple Y4.live ⟨_,_,rfl,r1'',_,_,rfl,r2'',_,_,rfl,⟨x,rfl,rfl⟩,rfl⟩
 refine(?_:WP B A (assign ((Tg.many [(9,⟨247,4,247,8⟩),(10,⟨247,10,247,15⟩),(11,⟨247,17,247,22⟩)] 0 ⟨247,4,247,22⟩).toE rF) env (.ref s4.heap.objs.size)) (λ_=>Q .next) _);have eb:cN σ (Tg.many [(9,⟨247,4,247,8⟩),(10,⟨247,10,247,15⟩),(11,⟨247,17,247,22⟩)] 0 ⟨247,4,247,22⟩) (.tuple [.list (res.map .int),.list ws,.tab])=
   some (((σ.set 9 (some (.val (.list (res.map .int))))).set 10 (some (.val (.list ws)))).set 11 (some (.val .tab))):=by
  refine(?_:aw (aA (res.map .int)) (aw (aA ws) (aw true (some _)))=_);rw[j2 ..];rw[hcw];rfl
 refine kT (N:=51) (s:={ s4 with heap:=s4.heap.push (eg [.ref l1,v2,.ref x] 0) }) F.hd mV eb Y5.sim hlen (λi hi=>?_) ht λs6 mt6 m6 S6 n6 c6 l6=>?_
 ·have hi':i=9\/i=10\/i=11:=by simpa[en]using hi
  rcases hi' with rfl|rfl|rfl
  ·exact⟨by decide,_,by decide,uD.2.1⟩
  ·exact⟨by decide,_,by decide,uD.2.2.1⟩
  ·exact⟨by decide,_,by decide,uD.2.2.2⟩
 ·have old:∀a,s.heap.get? a≠none->s2.heap.get? a≠none:=λa q=>by
   have:=N.live a q;cases e:s1.heap.get? a with
   |none=>exact absurd e this
   |some o=>rw[x2'.all a o e];exact λq=>nomatch q
  have xall:∀a o,s2.heap.get? a=some o->s4.heap.get? a=some o:=λa o e=>x24.all a o e;refine h l x s6 mt6 ⟨?_,?_,?_,λa o f q e=>?_,λa q=>?_⟩ ?_ ?_ ⟨S6,Y5.tab.chg c6 l6⟩
  ·exact c6.gens.trans (x5.gens.trans (x24.gens.trans (x2'.gens.trans N.gens)))
  ·exact c6.drawn.trans (x5.drawn.trans (x24.drawn.trans (x2'.drawn.trans N.drawn)))
  ·exact c6.os.trans (x5.os.trans (x24.os.trans (x2'.os.trans N.os)))
  ·refine c6.keep a o f (λz=>?_) (x5.all a o (xall a o (x2'.all a o (k1 a o f e))));replace z:=iS z;subst z;exact old _ (by rw[e];exact λq=>nomatch q) fl
  ·refine c6.live a ?_;have:=old a q;cases e:s2.heap.get? a with
   |none=>exact absurd e this
   |some o=>rw[x5.all a o (xall a o e)];exact λq=>nomatch q
  ·cases e:s.heap.get? l with
   |none=>rfl
   |some o=>exact absurd fl (old l (by rw[e];exact λq=>nomatch q))
  ·cases e:s.heap.get? x with
   |none=>rfl
   |some o=>
    have:=old x (by rw[e];exact λq=>nomatch q);cases e2:s2.heap.get? x with
    |none=>exact absurd e2 this
    |some o2=>replace fx:=x3.all x o2 e2▸fx;exact sN fx
end
theorem qQ{env:Env}{ys:List Stmt}:∀xs:List Stmt,execs (xs++ys) env=execs xs env >>= λf=>match f with|.next=>execs ys env|f=>pure f
 |[]=>by refine(?_:execs ys env=(pure .next:Sem Flow) >>= _);rw[pure_bind ..];rfl
 |x :: xs=>by
  rw[List.cons_append];rw[execs_cons ..];rw[execs_cons ..];rw[bind_assoc ..]
  congr 1
  funext f
  cases f<;>first|exact qQ xs|(rw[pure_bind ..];rfl)
theorem yy{M:Model}{A:Around}{E:aJ Value}{env:Env}{ys:List Stmt}{Q:aJ Flow}{xs:List Stmt}{s:Shared}
  (h:wpAny M A (execs xs env) (λf s'=>match f with|.next=>wpAny M A (execs ys env) Q E s'|f=>Q f s') E s):wpAny M A (execs (xs++ys) env) Q E s:=by
 rw[qQ ..];refine wpAny_bind (wpAny_mono h (λf s' q=>?_) λ_ _ x=>x);cases f<;>first|exact q|exact wpAny_pure q
structure HS(B:aX):Prop where
 f:B.hb.get? 281=some (cr (aK 75) (sx "law") uB 818 280)
 c:B.hb.CodeRec (.ref 280) (sx "law")
structure FO(B:aX)(mN:Str->Option Value):Prop where
 X:gL B mN
 U:nJ B
 N:kr B
 I:sb B
 L:HS B
section
variable{B:aX}{A:Around}{s:Shared}{mN:Str->Option Value}
noncomputable abbrev HL:Cx:=⟨λ_=>False,λ_=>False,none,none⟩
theorem HU(B:aX):cV B HL B.hb where
 base:=λ_ _ e=>e
 baseX:=λ_ q=>q.elim
 baseF:=λ_ q=>q.elim
 baseL:=λ_ q=>nomatch q
 liveX:=λ_ q=>q.elim
 liveF:=λ_ q=>q.elim
 liveL:=λ_ q=>nomatch q
 fx:=λ_ q=>q.elim
 lf:=λ_ q=>nomatch q
 lx:=λ_ q=>nomatch q
structure xr(xs:List PV):Prop where
 runs:∃σ1 b res ws σ2 T2,i6.ex Φ2 ((List.replicate 51 none).set 0 (some (.val (.arg xs)))) []=some ⟨.next,σ1,[]⟩/\σ1.getD 3 none=some (.val (.bytes b))/\b.size<=1000/\lL (b.size+1) (eH b)=some res /\
  (gC.sm Φ2).ev σ1 []=some (.list ws,[])/\aA ws=true /\
  aY.ex Φ2 (((σ1.set 9 (some (.val (.list (res.map .int))))).set 10 (some (.val (.list ws)))).set 11 (some (.val .tab))) []=some ⟨.ret (.bool true),σ2,T2⟩
theorem BK(W:FO B mN){xs:List PV}{a:Addr}{vs:List Value}{Q:aJ Value}(F:bJ 6 A)(hfr:A.frames=some [])(hs:s.heap=B.hb)(ha:s.heap.IsList a (List.toArray vs))(hr:aH HL s.heap xs vs)(hcx:aA xs=true)(L:xr xs)
  (h:∀s',s'.gens=s.gens->s'.os=s.os->(∀b o,s.heap.get? b=some o->s'.heap.get? b=some o)->Q (.bool true) s'):WP B A (call (.ref 281) [.ref a]) Q s:=by
 obtain⟨σ1,b,res,ws,σ2,T2,e1,e2,hb,hv,hw,hcw,e3⟩:=L.runs;have P:bV B Φ2 5:=F8 W.X W.U;have Df:dX B 281 rF 51 [0] eC (cr (aK 75) (sx "law") uB 818 280) (am (aK 75) (sx "law") uB 818 280 .none):=by
  refine⟨W.L.f,rfl,rfl,rfl,rfl,rfl,rfl,rfl,W.L.c,⟨_,Gv⟩,mV,λi hi=>?_⟩;have h0:(eC.any λy=>y.1==0)=true:=by decide +kernel
  have:i=0:=by simpa using hi
  subst this;obtain⟨⟨j,c⟩,hj,e⟩:=ls.mp h0;have:j=0:=by simpa using e
  subst this;exact⟨by decide,c,hj⟩
 have V:cV B HL s.heap:=hs▸HU B;refine wpAny_call (gZ (C:=HL) (T:=[]) (args:=⟨[.ref a],[]⟩) (vs:=[.ref a]) (ps:=[.arg xs]) (σ:=(List.replicate 51 none).set 0 (some (.val (.arg xs)))) Df rfl (BindsTo.of_eq rfl) ?_ F.room V (λ_ q=>nomatch q)
  ⟨_,_,rfl,⟨a,vs,rfl,(λq=>q),(λq=>q),(λq=>nomatch q),ha,hr⟩,rfl⟩ λF' env s₁ hF' hf hcl EO hln Y x1=>?_)
 ·refine(?_:aw (aA xs) _=_);rw[hcx];rfl
 have FD:bJ 5 (A.deeper env):=F.deeper env;have fresh:∀c o,s.heap.get? c=some o->¬F' c:=λc o e f=>by replace e:=hF' c f▸e;exact nS e
 refine(?_:wpAny _ _ (execs (cP (aK 75)) env) _ _ s₁);rw[Ck];have FT:∀{σ:aF},σ.length=51->fi B 5 51 (A.deeper env) env (aQ (aK 75)).names σ:=λhl=>⟨FD,λx hx=>by rw[EO.names ..];exact hx,hl⟩;refine yy (WP.up ((mz P (by decide) i6).2 Da Dc mV (FT hln) EO e1 Y λC1 f1 s2 mt1 g1 c1 Y1 n1 r1=>?_));obtain rfl:f1=.next:=r1;have hhl:C1.hl=none:=g1.hl;have hta:C1.ta=none:=g1.ta;refine wpAny_execs_cons (WP.up (GF W.X P W.N W.I EO FD (Around.frames_deeper hfr) hf hhl hta Y1 n1 e2 hb hv hw hcw λl x s3 mt3 c3 fl fx Y3=>?_));refine WP.up ((mz P (by decide) aY).2 EZ Dy mV (FT (by simpa using n1)) EO e3 Y3 λC4 f4 s4 mt4 g4 c4 Y4 n4 r4=>?_);refine aP r4 ?_;clear r4;intro v q1q rv;subst q1q;obtain rfl:v=.bool true:=rv;refine h s4 ?_ ?_ λc o e=>?_
 ·exact c4.gens.trans (c3.gens.trans (c1.gens.trans x1.gens))
 ·exact c4.os.trans (c3.os.trans (c1.os.trans x1.os))
 ·have e1':=x1.all c o e;have f0:=fresh c o e;have e2':=c1.keep c o f0 (λq=>nomatch q) e1';have f1:¬C1.F c:=λq=>(g1.f c q).elim f0 λz=>by replace z:=e1'▸z;exact sN z
  have e3':=c3.keep c o f1 (by rw[hhl];exact λq=>nomatch q) e2';exact c4.keep c o f1 (λq=>by replace q:=iS q;subst q;replace e2':=fl▸e2';exact nS e2') e3'
end
noncomputable def Hx:Nat->List (List Nat)
 |0=>[[73,84,69,82,65,66,76,69,95,67,79,82,79,85,84,73,78,69],[65,83,89,78,67,95,71,69,78,69,82,65,84,79,82],[48,120,52,48,48],[48,120,56,48,48]]
 |1=>[[48,120,50,48,48,48,48,48,48,48],[48,120,52,48,48,48,48,48,48,48],[48,120,56,48,48,48,48,48,48,48],[48,120,49,48,48,48,48,48,48,48,48]]
 |_=>[[79,80,84,73,77,73,90,69,68],[78,69,87,76,79,67,65,76,83],[86,65,82,65,82,71,83],[86,65,82,75,69,89,87,79,82,68,83]]
noncomputable def wc(k v:Nat):List Nat:=bif Nat.beq v 0 then[48,120,48]else yQ (Hx k) v []
noncomputable def wM(k v:Nat):Str:=⟨(wc k v).toArray⟩
noncomputable def iK:Nat->Nat
 |0=>8
 |1=>29
 |_=>0
noncomputable def oE:Nat->Str
 |0=>sx "ITERABLE_COROUTINE ASYNC_GENERATOR 0x400 0x800"
 |1=>sx "0x20000000 0x40000000 0x80000000 0x100000000"
 |_=>sx "OPTIMIZED NEWLOCALS VARARGS VARKEYWORDS"
theorem zT:∀k<3,((List.range 16).map λv=>λT:aC=>mH .index (cu (wM k)) [.str (wM k v)] T)=(List.range 16).map λ(v:Nat)=>λT:aC=>some (iN v,T):=
 λ_ h=>Hg h (by kernel_rfl) (by kernel_rfl) (by kernel_rfl)
theorem B5:((List.range 3).all λk=>(List.range 16).all λv=>aS (wM k v))=true:=by decide +kernel
theorem BA:((List.range 3).all λk=>clean (cu (wM k)))=true:=by decide +kernel
theorem yo:((List.range 3).all λk=>(List.range 16).all λv=>(List.range 16).all λw=> !(wc k v==wc k w)||v==w)=true:=by decide +kernel
theorem wz{k:Nat}(h:k<3):bX (wM k) where
 idx:=λv hv T=>congrFun ((iu.mp (zT k h)) v (bS.mpr hv)) T
 ok:=λv hv=>bD.mp (bD.mp B5 k (bS.mpr h)) v (bS.mpr hv)
 cl:=bD.mp BA k (bS.mpr h)
 inj:=λv hv w hw e=>by
  have:=bD.mp (bD.mp (bD.mp yo k (bS.mpr h)) v (bS.mpr hv)) w (bS.mpr hw);have e2:wc k v=wc k w:=by have:=congrArg (λx:Str=>x.cps.toList) e;simpa[wM]using this
  replace this:=e2▸this;simpa using this
noncomputable def ln{α β:Type}(f:α->β):List α->List β
 |[]=>[]
 |x :: r=>f x :: ln f r
theorem GD{α β:Type}{f:α->β}{x r}:ln f (x :: r)=(f x :: ln f r):=rfl
theorem ya{α β:Type}(f:α->β):∀L:List α,ln f L=L.map f
 |[]=>rfl
 |x :: r=>by rw[GD];rw[ya f r];rfl
theorem di{α β:Type}{f g:α->β}{L:List α}(h:ln f L=L.map g){x:α}(hx:x∈L):f x=g x:=
 (iu.mp ((ya f L).symm.trans h)) x hx
theorem uA:∀k<3,(ln (λ(v:Nat)=>λT:aC=>fQ Φ0 iY io dz [iN (v*2 ^ iK k)] T) (List.range 16))=(List.range 16).map λv=>λT:aC=>some (.str (wM k v),T)
 |0,_=>by kernel_rfl
 |1,_=>by kernel_rfl
 |2,_=>by kernel_rfl
theorem zR:∀k<3,((List.range 16).map λv=>gW .LShift (iN v) (iN (iK k)))=(List.range 16).map λ(v:Nat)=>some (iN (v*2 ^ iK k))
 |0,_=>by kernel_rfl
 |1,_=>by kernel_rfl
 |2,_=>by kernel_rfl
section
variable{f:ax}{T:aC}{k:Nat}
theorem Cw(h:k<3)(h6:f 6=aN (iK k)):(gC.sm Φ2).ev (az f) T=some (cu (wM k),T):=by
 have e:=fW (Φ:=Φ2) (e:=gC) (f:=f) (T:=T) (L:=List.range 16) (b:=true) (λv=>iN v) (λg=>g 6=aN (iK k)) (λ_=>true) (λv=>.str (wM k v)) rfl rfl (by show 16<=16777216;decide) (bP rfl h6)
  (λv hv g g6=>⟨aW g 26 (aN v),e9 rfl,g6,rfl,λ_=>⟨by exact fU (aL (aZ (aa (by decide) rfl) (aa (by decide) g6) ((iu.mp (zR k h)) v hv)) ac) rfl (congrFun (di (uA k h) hv) T),rfl⟩⟩)
 replace e:=(jg.mpr (λ_ _=>rfl))▸e;exact e
end
theorem og(f:ax)(i:Nat)(x y:Option AV):aW (aW f i x) i y=aW f i y:=by
 funext j;unfold aW
 cases Nat.beq j i<;>rfl
noncomputable abbrev IR(k:Nat)(o:Option AV):ax:=aW (aW (λ_=>none) 7 (some (.val (.str (oE k))))) 26 o
theorem Iz{f:ax}{k:Nat}(h:f 7=some (.val (.str (oE k)))):o0 [7] f=IR k none:=by
 funext j
 unfold o0 IR aW;cases hj:Nat.beq j 7 with
 |true=>have e:j=7:=il hj;subst e;rw[h];rfl
 |false=>
  have:[7].contains j=false:=by
   have:j≠7:=λe=>by subst e;exact tF hj
   simp[this]
  rw[this];cases Nat.beq j 26<;>rfl
theorem zo:∀k<3,ln (λ(v:Nat)=>λT:aC=>(((aY.nth 0).e.elt).sm Φ2).ev (az (IR k (aN v))) T) (List.range 16)=(List.range 16).map λv=>λT:aC=>some (.str (wM k v),T)
 |0,_=>by kernel_rfl
 |1,_=>by kernel_rfl
 |2,_=>by kernel_rfl
theorem En{f:ax}{k:Nat}{T:aC}(h:k<3)(h7:f 7=some (.val (.str (oE k)))):(aY.nth 0).ex Φ2 (az f) T=some ⟨.next,az (aW f 12 (some (.val (cu (wM k))))),T⟩:=by
 have e:=fW (Φ:=Φ2) (e:=(aY.nth 0).e) (f:=f) (T:=T) (L:=List.range 16) (b:=true) (λv=>iN v) (λg=>∃o,g=IR k o) (λ_=>true) (λv=>.str (wM k v)) rfl rfl (by show 16<=16777216;decide) ⟨none,Iz h7⟩
  (λv hv g ⟨o,hg⟩=>⟨aW g 26 (aN v),e9 rfl,⟨aN v,by rw[hg];rw[og ..];rfl⟩,rfl,λ_=>⟨by rw[hg];rw[og ..];exact congrFun (di (zo k h) hv) T,rfl⟩⟩)
 replace e:=(jg.mpr (λ_ _=>rfl))▸e;exact ia e (wz h).cl
noncomputable def bI(n:Nat)(f:ax):aF:=(List.range n).map f
theorem kR{n:Nat}(f:ax){i:Nat}(h:i<n):(bI n f).getD i none=f i:=by simp[bI,List.getD,h]
theorem gv(n:Nat)(f:ax)(i:Nat)(x:Option AV):(bI n f).set i x=bI n (aW f i x):=by
 apply List.ext_getElem
 ·simp[bI]
 ·intro j h1 h2;have hj:j<n:=by simpa[bI]using h2
  simp only[bI,List.getElem_map,List.getElem_range,List.getElem_set,aW];by_cases e:i=j
  ·subst e;simp
  ·have:Nat.beq j i=false:=by
    cases q:Nat.beq j i with
    |false=>rfl
    |true=>exact absurd (il q).symm e
   rw[this];simp[e]
theorem CR(n:Nat)(caps:List Nat)(f:ax):jT caps (bI n f)=bI n (o0 caps f):=by unfold jT bI;rw[List.range_eq_range'];exact lZ caps f n 0
theorem JU(f:ax):bI 51 f=az f:=rfl
section
variable{Φ:fA}{n:Nat}{f:ax}{T T1:aC}{i:Nat}{pos np xp ap ip:Pos}{p:PV}{a:E}
theorem bG(h:i<n)(e:f i=some (.val p)):((E.var i pos).sm Φ).ev (bI n f) T=some (p,T):=by refine(?_:Option.map _ ((bI n f).getD i none)=_);rw[kR f h];rw[e];rfl
theorem pQ{np pos:Pos}(h:(a.sm Φ).ev (bI n f) T=some (p,T1))(hc:clean p=true):(S.assign i np a pos).ex Φ (bI n f) T=some ⟨.next,bI n (aW f i (some (.val p))),T1⟩:=by rw[ik h hc];rw[gv ..];rfl
theorem gp{pos:Pos}(hc:clean p=true):cN (bI n f) (.one i pos) p=some (bI n (aW f i (some (.val p)))):=by refine(?_:aw (clean p) _=_);rw[hc];rw[gv ..];rfl
theorem tQ{i j k:Nat}{q1 q2 q3:Pos}{p q:PV}(hp:clean p=true)(hq:clean q=true):cN (bI n f) (.many [(i,q1),(j,q2)] k q3) (.tuple [p,q])=some (bI n (aW (aW f i (some (.val p))) j (some (.val q)))):=by refine(?_:aw (clean p) (aw (clean q) (some (((bI n f).set i _).set j _)))=_);rw[hp];rw[hq];rw[gv ..];rw[gv ..];rfl
theorem mU{xs:List PV}(hi:i<n)(h0:f i=some (.own xs))(h:(a.sm Φ).ev (bI n f) T=some (p,T1))(hc:clean p=true)(hl:xs.length+1<=cap):(S.append i xp ap a ip pos).ex Φ (bI n f) T=some ⟨.next,bI n (aW f i (some (.own (xs++[p])))),T1⟩:=by rw[rY (by rw[kR f hi];exact h0) h hc hl];rw[gv ..];rfl
theorem CD{xs ys:List PV}(hi:i<n)(h0:f i=some (.own xs))(h:(a.sm Φ).ev (bI n f) T=some (.list ys,T1))(hc:aA ys=true)(hl:xs.length+ys.length<=cap):(S.extend i xp ap a ip pos).ex Φ (bI n f) T=some ⟨.next,bI n (aW f i (some (.own (xs++ys)))),T1⟩:=by refine(?_:(fL (bI n f) i).bind _=_);rw[show fL (bI n f) i=some xs by unfold fL;rw[kR f hi];rw[h0];rfl];refine(?_:((a.sm Φ).ev (bI n f) T).bind _=_);rw[h];refine(?_:(aw (aA ys) (fit (xs.length+ys.length) _)).map _=_);rw[hc];rw[bN hl];rw[gv ..];rfl
theorem vU{j k:Nat}{xs ys:List PV}{y:PV}{jp jap jcp cp:Pos}(hi:i<n)(hj:j<n)(h0:f i=some (.own xs))(h1:f j=some (.own ys))(h:(a.sm Φ).ev (bI n f) T=some (iN k,T1))(hy:ys[k]?=some y)(hl1:ys.length<=1000)(hij:(i==j)=false)(hl:xs.length+1<=cap):
  (S.appendPop i xp ap j jp jap a jcp cp pos).ex Φ (bI n f) T=some ⟨.next,bI n (aW (aW f j (some (.own (ys.eraseIdx k)))) i (some (.own (xs++[y])))),T1⟩:=by
 refine(?_:(fL (bI n f) i).bind _=_);rw[show fL (bI n f) i=some xs by unfold fL;rw[kR f hi];rw[h0];rfl];refine(?_:(fL (bI n f) j).bind _=_);rw[show fL (bI n f) j=some ys by unfold fL;rw[kR f hj];rw[h1];rfl];refine(?_:((a.sm Φ).ev (bI n f) T).bind _=_);rw[h];refine(?_:(FC ys (iN k)).bind _=_);rw[show FC ys (iN k)=some (y,ys.eraseIdx k) by refine(?_:aw (decide ((0:Int)<=(k:Int))&&Nat.ble ys.length 1000) ((ys[(k:Int).toNat]?).map λy=>(y,ys.eraseIdx (k:Int).toNat))=_);rw[decide_eq_true (ij k)];rw[sB hl1];rw[Int.toNat_natCast ..];rw[hy];rfl]
 refine(?_:aw (!(i==j)) (fit (xs.length+1) _)=_);rw[hij];rw[bN hl];rw[gv ..];rw[gv ..];rfl
theorem tB{α:Type}{e:E}{b:Bool}{L:List α}(enc:α->PV)(P:ax->Prop)(c:α->Bool)(val:α->PV)(he:e.isComp=true)(hs:(e.src.sm Φ).evSrc (bI n f) T=some ((L.map enc,b),T))(hl:L.length<=cap)(hP:P (o0 e.caps f))
  (h:∀x∈L,∀g,P g->∃g',cN (bI n g) e.tg (enc x)=some (bI n g')/\P g'/\(e.ifs.sm Φ).evIfs (bI n g') T=some (c x,T)/\(c x=true->(e.elt.sm Φ).ev (bI n g') T=some (val x,T)/\clean (val x)=true)):
  (e.sm Φ).ev (bI n f) T=some (.list ((L.filter c).map val),T):=by
 refine kM he hs (by simpa using hl) ?_;rw[CR ..];exact eZ enc (λσ=>∃g,σ=bI n g/\P g) c val (λx hx σ ⟨g,e1,p⟩=>by subst e1;refine iU (h x hx g p) λg' h1 h2 h3 h4=>?_;exact⟨bI n g',h1,⟨g',rfl,h2⟩,h3,h4⟩) _ ⟨_,rfl,hP⟩
end
theorem tP(xs:List Int)(lo hi st:Option Int):∃ys:List Int,fC (xs.map .int) lo hi st=ys.map PV.int:=by
 unfold fC;generalize sliceRange _ _ _=L
 induction L with
 |nil=>exact⟨[],rfl⟩
 |cons i L ih=>
  refine af ih ?_;clear ih;intro ys e;rw[nv];rw[e];cases h:(xs.map PV.int)[i]? with
  |none=>exact⟨ys,rfl⟩
  |some p=>replace h:=List.getElem?_map▸h;refine aP (sA.mp h) λx _ q1q=>?_;subst q1q;exact⟨x :: ys,rfl⟩
theorem lM:∀ys:List Int,hY (ys.map .int)=some ys
 |[]=>rfl
 |y :: ys=>by rw[bh];rw[Cn];rw[lM ys];rfl
theorem ue(xs:List Int)(lo hi st:Option Int):∃k:Int,eL .sum [.list (fC (xs.map .int) lo hi st)]=some (.int k):=by refine af (tP xs lo hi st) λys e=>?_;refine⟨ys.sum,?_⟩;rw[e];refine(?_:(hY (ys.map .int)).bind _=_);rw[lM ..];rfl
noncomputable def FL:List (Nat×Nat):=[(0,55),(1,36),(2,92),(3,14),(4,44),(5,59),(6,61)]
theorem Dx(a:Int){b:Nat}(hb:0<b):∃k:Nat,k<b/\Int.fmod a b=k:=by have h0:=Int.fmod_nonneg_of_pos a (b:=(b:Int)) (by omega);have h1:=Int.fmod_lt_of_pos a (b:=(b:Int)) (by omega);exact⟨(Int.fmod a b).toNat,by omega,by omega⟩
theorem wm{f:ax}{T:aC}(xs:List Int)(hl:xs.length<=cap)(h0:f 0=some (.val (.arg (xs.map .int)))):
  ∃N:Nat->Nat,(∀i,N i<1000000)/\(bQ.nth 0).ex Φ0 (bI 22 f) T=some ⟨.next,bI 22 (aW f 2 (some (.val (.list [iN (N 0),iN (N 1),iN (N 2),iN (N 3),iN (N 4),iN (N 5),iN (N 6)])))),T⟩:=by
 have hv:∀q:Nat×Nat,∃k:Nat,k<1000000/\((eL .sum [.list (fC (xs.map .int) (some (q.1:Int)) (some 60) (some 7))]).bind λs=>(F7 (iN q.2) s).bind λt=>gW .Mod t (.int 1000000))=some (iN k):=λq=>by refine af (ue xs (some (q.1:Int)) (some 60) (some 7)) λs es=>?_;refine aP (Dx ((q.2:Int)+s) (b:=1000000) (by decide)) λk hk ek=>?_;refine⟨k,hk,?_⟩;rw[es];refine(?_:some (PV.int (Int.fmod ((q.2:Int)+s) ((1000000:Nat):Int)))=_);rw[ek];rfl
 have e:=tB (Φ:=Φ0) (n:=22) (e:=(bQ.nth 0).e) (f:=f) (T:=T) (L:=FL) (b:=true) (λq=>.tuple [iN q.1,iN q.2]) (λg=>g 0=some (.val (.arg (xs.map .int)))) (λ_=>true) (λq=>iN (hv q).choose) rfl rfl (by show 7<=16777216;decide) (bP rfl h0)
  (λq hq g g0=>⟨aW (aW g 17 (aN q.1)) 18 (aN q.2),tQ rfl rfl,g0,rfl,λ_=>⟨by have ek:=(hv q).choose_spec.2;generalize (hv q).choose=kk at ek ⊢;refine af (ue xs (some (q.1:Int)) (some 60) (some 7)) λs es=>?_;replace ek:=es▸ek;refine aZ (p:=.int ((q.2:Int)+s)) (q:=.int 1000000) (aZ (p:=iN q.2) (q:=.int s) (bG (by decide) rfl) (iX (aL (jO (lo:=iN q.1) (hi:=.int 60) (st:=.int 7) (bG (by decide) g0) (bG (by decide) rfl) rfl rfl ?_) ac) es) rfl) rfl ek;refine(?_:aw (!(some (7:Int)==some 0)) (fit (xs.map PV.int).length _)=_);rw[bN (by simpa using hl)];rfl,rfl⟩⟩)
 replace e:=(jg.mpr (λ_ _=>rfl))▸e;exact⟨λi=>(hv (FL.getD i (0,0))).choose,λi=>(hv _).choose_spec.1,pQ e rfl⟩
noncomputable def dg(a i:Nat):Nat:=(a+1)/3 ^ i%3
noncomputable def D8(c s:Nat):Nat:=bif Nat.beq c 0 then 112+s else 80+s
noncomputable def G9(v h a c i:Nat):List Nat:=((List.range i).filter λj=>Nat.beq (dg a j) v).map λj=>D8 c (h+j)
noncomputable def mkM(h a i:Nat):Nat:=((List.range i).map λj=>4 ^ (h+j)*dg a j).sum
noncomputable def yD(sep:Nat):List (List Nat)->List Nat
 |[]=>[]
 |[x]=>x
 |x :: r=>x++sep :: yD sep r
noncomputable def IP(h b c a:Nat):List Nat:=bif Nat.beq b 0 then yD 124 ((G9 1 h a c 3).map (λx=>[x])++(G9 2 h a c 3).map λx=>[126,x])
 else yD 38 ((G9 2 h a c 3).map λx=>[x])++45 :: 62 :: yD 124 ((G9 1 h a c 3).map λx=>[x])
noncomputable def Ep(h b c a:Nat):Str:=⟨(IP h b c a).toArray⟩
noncomputable def oc(h a:Nat):List Nat:=(bif Nat.blt 63 (mkM h a 3)then[64+mkM h a 3/64]else[])++[mkM h a 3%64]
noncomputable abbrev s1(x:Nat):PV:=.str ⟨#[x]⟩
noncomputable def lg(g:ax)(h a c i:Nat)(x14 x15:Option AV):ax:=
 aW (aW (aW (aW (aW (aW g 10 (aN ((a+1)/3 ^ i))) 11 (some (.own ((G9 1 h a c i).map s1)))) 12 (some (.own ((G9 2 h a c i).map s1)))) 13 (aN (mkM h a i))) 14 x14) 15 x15
noncomputable def E.th:E->E
 |.ite _ a _ _=>a
 |e=>e
noncomputable def E.el:E->E
 |.ite _ _ b _=>b
 |e=>e
noncomputable abbrev yS:S:=(bQ.nth 2).body
noncomputable abbrev Dj:S:=(yS.nth 1).body
theorem wj:ln (λ(k:Nat)=>λ(g:ax) (T:aC)=>(Dj.tail 1).ex Φ0 (bI 22 (lg g (k%2) (k/12) (k/2%2) (k/4%3) (aN (k%2+k/4%3)) (some (.val (s1 (D8 (k/2%2) (k%2+k/4%3))))))) T) (List.range 312)=
  (List.range 312).map λk=>λg T=>some ⟨.next,bI 22 (lg g (k%2) (k/12) (k/2%2) (k/4%3+1) (aN (k%2+k/4%3)) (some (.val (s1 (D8 (k/2%2) (k%2+k/4%3)))))),T⟩:=by kernel_rfl
theorem zU:ln (λ(k:Nat)=>λ(g:ax) (x y:Option AV) (T:aC)=>((bif Nat.beq (k/4%2) 0 then(yS.nth 3).e.el else(yS.nth 3).e.th).sm Φ0).ev (bI 22 (lg g (k%2) (k/8) (k/2%2) 3 x y)) T) (List.range 208)=
  (List.range 208).map λk=>λg x y T=>some (.str (Ep (k%2) (k/4%2) (k/2%2) (k/8)),T):=by kernel_rfl
theorem w8:ln (λ(k:Nat)=>λ(g:ax) (c:Nat) (x y:Option AV) (T:aC)=>((yS.nth 4).e.sm Φ0).ev (bI 22 (lg g (k%2) (k/2) c 3 x y)) T) (List.range 52)=
  (List.range 52).map λk=>λg c x y T=>some (.list ((oc (k%2) (k/2)).map λm=>iN m),T):=by kernel_rfl
set_option synthInstance.maxSize 4000 in
theorem Ip:∀h<2,∀c<2,∀b<2,∀a<26,h+2*c+4*b+8*a<208/\(h+2*c+4*b+8*a)%2=h/\(h+2*c+4*b+8*a)/8=a/\(h+2*c+4*b+8*a)/2%2=c/\(h+2*c+4*b+8*a)/4%2=b:=by decide +kernel
set_option synthInstance.maxSize 4000 in
theorem Ir:∀h<2,∀c<2,∀i<3,∀a<26,h+2*c+4*i+12*a<312/\(h+2*c+4*i+12*a)%2=h/\(h+2*c+4*i+12*a)/12=a/\(h+2*c+4*i+12*a)/2%2=c/\(h+2*c+4*i+12*a)/4%3=i:=by decide +kernel
theorem Jd:∀h<2,∀a<26,h+2*a<52/\(h+2*a)%2=h/\(h+2*a)/2=a:=by decide +kernel
theorem Ai(a b:Nat):Int.fmod (a:Int) (b:Int)=((a%b:Nat):Int):=by rw[Int.natCast_emod ..];rw[Int.fmod_eq_emod_of_nonneg _ (ij b)];rfl
theorem gK(n:Nat){b:Nat}(h0:0<b)(h:b<18446744073709551616):gW .FloorDiv (iN n) (iN b)=some (iN (n/b)):=by
 refine(?_:Option.map PV.int (aw ((b:Int) != 0&&eU (b:Int)) (some (Int.fdiv (n:Int) (b:Int))))=_);have h1:((b:Int) != 0)=true:=by simp;lia
 have h2:eU (b:Int)=true:=by unfold eU;simpa using h
 rw[h1];rw[h2];rw[v9 ..];rfl
theorem fP(n:Nat){b:Nat}(h0:0<b):gW .Mod (iN n) (iN b)=some (iN (n%b)):=by
 refine(?_:Option.map PV.int (aw ((b:Int) != 0) (some (Int.fmod (n:Int) (b:Int))))=_);have h1:((b:Int) != 0)=true:=by simp;lia
 rw[h1];rw[Ai ..];rfl
theorem gP(f:ax){i j:Nat}(x y:Option AV)(h:i≠j):aW (aW f i x) j y=aW (aW f j y) i x:=by
 funext k;unfold aW
 cases h1:Nat.beq k j<;>cases h2:Nat.beq k i<;>try rfl
 exact absurd ((il h2).symm.trans (il h1)) h
theorem Fp(g:ax)(h a c i:Nat)(x y z:Option AV):aW (lg g h a c i x y) 14 z=lg g h a c i z y:=by unfold lg;rw[gP _ _ _ (by decide:15≠14)];rw[og ..];rfl
theorem GE(g:ax)(h a c i:Nat)(x y z:Option AV):aW (lg g h a c i x y) 15 z=lg g h a c i x z:=by unfold lg;rw[og ..];rfl
section
variable{g:ax}{h a c i n p:Nat}{x y:Option AV}{T:aC}
theorem xS(hh:h<2)(hc:c<2)(hi:i<3):((kn (.tuple [.str (sx "pqrs"),.str (sx "PQRS")]) (iN c)).bind λq=>kn q (iN (h+i)))=some (s1 (D8 c (h+i))):=by exact HC hh (HC hc (Hg hi rfl rfl rfl) (Hg hi rfl rfl rfl)) (HC hc (Hg hi rfl rfl rfl) (Hg hi rfl rfl rfl))
theorem tT(hh:h<2)(hi:i<3)(hc:n/52%2=c)(g9:g 9=aN n):(Dj.nth 0).ex Φ0 (bI 22 (lg g h a c i (aN (h+i)) y)) T=some ⟨.next,bI 22 (lg g h a c i (aN (h+i)) (some (.val (s1 (D8 c (h+i)))))),T⟩:=by have e:=xS hh (hc▸cX _ (dh 1)) hi;refine bE e λq e1 e2=>?_;have:=pQ (Φ:=Φ0) (n:=22) (f:=lg g h a c i (aN (h+i)) y) (T:=T) (i:=15) (a:=(Dj.nth 0).e) (p:=s1 (D8 c (h+i))) (T1:=T) (np:=⟨181,12,181,18⟩) (pos:=⟨181,12,181,61⟩) (bg (bg (p:=.tuple [.str (sx "pqrs"),.str (sx "PQRS")]) (q:=iN c) rfl (aZ (aZ (bG (by decide) (show lg g h a c i (aN (h+i)) y 9=_ from g9)) rfl (gK n (b:=52) (by decide) (by decide))) rfl (hc▸fP (n/52) (b:=2) (by decide))) e1) (bG (by decide) rfl) e2) rfl;replace this:=(GE ..)▸this;exact this
theorem lJ{els:Ex}{rest:List PV}{tg:Tg}{q:Pos}(ht:tg=.one 14 q)(hh:h<2)(ha:a<26)(hi:i<3)(hc:n/52%2=c)(g9:g 9=aN n):
  cU tg (Dj.ex Φ0) els (iN (h+i) :: rest) (bI 22 (lg g h a c i x y)) T=cU tg (Dj.ex Φ0) els rest (bI 22 (lg g h a c (i+1) (aN (h+i)) (some (.val (s1 (D8 c (h+i))))))) T:=by
 subst ht;rw[gw];rw[gp rfl];rw[Fp ..];refine(?_:(Dj.ex Φ0 _ T).bind _=_);have D:=Ir h hh c (hc▸cX _ (dh 1)) i hi a ha;have e:=di wj (x:=h+2*c+4*i+12*a) (bS.mpr D.1);have e:=congrFun (congrFun e g) T;replace e:=D.2.1▸e;replace e:=D.2.2.1▸e;replace e:=D.2.2.2.1▸e;replace e:=D.2.2.2.2▸e;have k:Dj.ex Φ0 (bI 22 (lg g h a c i (aN (h+i)) y)) T=_:=aE (a:=Dj.nth 0) (b:=Dj.tail 1) (tT hh hi hc g9) e;rw[k];rfl
end
theorem we(g:ax)(h a c i:Nat)(x y z:Option AV){j:Nat}(hj:j<10):aW (lg g h a c i x y) j z=lg (aW g j z) h a c i x y:=by unfold lg;rw[gP _ _ _ (by lia:15≠j)];rw[gP _ _ _ (by lia:14≠j)];rw[gP _ _ _ (by lia:13≠j)];rw[gP _ _ _ (by lia:12≠j)];rw[gP _ _ _ (by lia:11≠j)];rw[gP _ _ _ (by lia:10≠j)];rfl
theorem dq(g:ax)(h a c i:Nat)(x y:Option AV){j:Nat}(hj:j<10):lg g h a c i x y j=g j:=by
 unfold lg;have f:∀k,10<=k->Nat.beq j k=false:=λk hk=>by
  cases q:Nat.beq j k with
  |false=>rfl
  |true=>exact absurd (il q) (by lia)
 rw[ck _ _ (f 15 (by decide))];rw[ck _ _ (f 14 (by decide))];rw[ck _ _ (f 13 (by decide))];rw[ck _ _ (f 12 (by decide))];rw[ck _ _ (f 11 (by decide))];rw[ck _ _ (f 10 (by decide))];rfl
theorem vW{h:Nat}(hh:h<2):sh .range [iN h,.int ((h:Int)+3)]=some [iN (h+0),iN (h+1),iN (h+2)]:=by exact HC hh rfl rfl
section
variable{g:ax}{p n:Nat}{T:aC}
theorem y8(hp:p<6){A B C:List PV}(g3:g 3=some (.own A))(g4:g 4=some (.own B))(g5:g 5=some (.own C))(lA:A.length<1000)(lB:B.length<1000)(lC:C.length<1000):
  ∃g',yS.ex Φ0 (bI 22 (aW (aW g 1 (aN p)) 9 (aN n))) T=some ⟨.next,bI 22 g',T⟩/\g' 3=some (.own (A++[iN (mkM (p/3) (n%26) 3)]))/\g' 4=some (.own (B++[.str (Ep (p/3) (n/26%2) (n/52%2) (n%26))])) /\
   g' 5=some (.own (C++(oc (p/3) (n%26)).map λm=>iN m))/\g' 6=g 6/\g' 7=g 7/\g' 8=g 8:=by
 have hh:p/3<2:=by lia
 have ha:n%26<26:=cX _ (by decide);have hb:n/26%2<2:=cX _ (by decide);have hc:n/52%2<2:=cX _ (by decide);generalize ea:n%26=a at ha;generalize eb:n/26%2=b at hb;generalize ec:n/52%2=c at hc;generalize eh:p/3=h at hh;generalize eF:aW (aW g 1 (aN p)) 9 (aN n)=F;have F9:F 9=aN n:=by rw[eF.symm];rfl
 have F1:F 1=aN p:=by rw[eF.symm];rfl
 have Fg:∀j,Nat.beq j 9=false->Nat.beq j 1=false->F j=g j:=λj h1 h2=>by rw[eF.symm];rw[ck _ _ h1];rw[ck _ _ h2];rfl
 have t0:(yS.nth 0).ex Φ0 (bI 22 F) T=some ⟨.next,bI 22 (lg F h a c 0 (F 14) (F 15)),T⟩:=
  jA (ps:=[iN ((a+1)/3 ^ 0),.list [],.list [],.int 0]) (aL (aZ (aZ (bG (by decide) F9) rfl (ea▸fP n (b:=26) (by decide))) rfl (by rw[Nat.pow_zero ..];rw[Nat.div_one ..];rfl)) rfl) rfl (by show 4<=16777216;decide) (by kernel_rfl)
 have t1:(yS.nth 1).ex Φ0 (bI 22 (lg F h a c 0 (F 14) (F 15))) T=some ⟨.next,bI 22 (lg F h a c 3 (aN (h+2)) (some (.val (s1 (D8 c (h+2)))))),T⟩:=by refine gG (xs:=[iN (h+0),iN (h+1),iN (h+2)]) (ct (ps:=[iN h,.int ((h:Int)+3)]) (aL (aZ (p:=iN p) (q:=iN 3) (bG (by decide) ((dq _ _ _ _ _ _ _ (by decide)).trans F1)) rfl (eh▸gK p (b:=3) (by decide) (by decide))) (aL (aZ (p:=iN h) (aZ (p:=iN p) (q:=iN 3) (bG (by decide) ((dq _ _ _ _ _ _ _ (by decide)).trans F1)) rfl (eh▸gK p (b:=3) (by decide) (by decide))) rfl rfl) ac)) (vW hh)) ?_;exact(lJ rfl hh ha (by decide) ec F9).trans ((lJ rfl hh ha (by decide) ec F9).trans ((lJ rfl hh ha (by decide) ec F9).trans rfl))
 generalize some (AV.val (s1 (D8 c (h+2))))=x15 at t1;have t2:=mU (Φ:=Φ0) (n:=22) (f:=lg F h a c 3 (aN (h+2)) x15) (T:=T) (i:=3) (a:=(yS.nth 2).e) (p:=iN (mkM h a 3)) (T1:=T) (xp:=⟨183,8,183,15⟩) (ap:=⟨183,8,183,22⟩) (ip:=⟨183,8,183,30⟩) (pos:=⟨183,8,183,30⟩) (by decide) (((dq _ _ _ _ _ _ _ (by decide)).trans (Fg 3 rfl rfl)).trans g3) (bG (by decide) rfl) rfl (by show _<=16777216;lia);rewrite[we _ _ _ _ _ _ _ _ (by decide)]at t2;generalize eF2:aW F 3 (some (.own (A++[iN (mkM h a 3)])))=F2 at t2;have F2_9:F2 9=aN n:=by rw[eF2.symm];exact F9
 have ev4:((yS.nth 3).e.sm Φ0).ev (bI 22 (lg F2 h a c 3 (aN (h+2)) x15)) T=some (.str (Ep h b c a),T):=by
  have D:=Ip h hh c (ec▸cX _ (dh 1)) b hb a ha;have e:=di zU (x:=h+2*c+4*b+8*a) (bS.mpr D.1);have e:=congrFun (congrFun (congrFun (congrFun e F2) (aN (h+2))) x15) T;replace e:=D.2.1▸e;replace e:=D.2.2.1▸e;replace e:=D.2.2.2.1▸e;replace e:=D.2.2.2.2▸e;refine w3 (t:= !(Nat.beq b 0)) (tu (p:=iN b) (aZ (aZ (p:=iN n) (q:=iN 26) (bG (by decide) ((dq _ _ _ _ _ _ _ (by decide)).trans F2_9)) rfl (gK n (b:=26) (by decide) (by decide))) rfl (eb▸fP (n/26) (b:=2) (by decide))) ?_) ?_
  ·exact HC hb rfl rfl
  ·revert e;exact HC hb (λe=>e) λe=>e
 have t3:=mU (Φ:=Φ0) (n:=22) (f:=lg F2 h a c 3 (aN (h+2)) x15) (T:=T) (i:=4) (a:=(yS.nth 3).e) (p:=.str (Ep h b c a)) (T1:=T) (xp:=⟨184,8,184,13⟩) (ap:=⟨184,8,184,20⟩) (ip:=⟨184,8,184,139⟩) (pos:=⟨184,8,184,139⟩) (by decide) (((dq _ _ _ _ _ _ _ (by decide)).trans (eF2▸Fg 4 rfl rfl)).trans g4) ev4 rfl (by show _<=16777216;lia);rewrite[we _ _ _ _ _ _ _ _ (by decide)]at t3;generalize eF3:aW F2 4 (some (.own (B++[.str (Ep h b c a)])))=F3 at t3;have ev5:((yS.nth 4).e.sm Φ0).ev (bI 22 (lg F3 h a c 3 (aN (h+2)) x15)) T=some (.list ((oc h a).map λm=>iN m),T):=by have D:=Jd h hh a ha;have e:=di w8 (x:=h+2*a) (bS.mpr D.1);have e:=congrFun (congrFun (congrFun (congrFun (congrFun e F3) c) (aN (h+2))) x15) T;replace e:=D.2.1▸e;replace e:=D.2.2▸e;exact e
 have lo:(oc h a).length<=2:=by unfold oc;cases Nat.blt 63 (mkM h a 3)<;>simp
 have t4:=CD (Φ:=Φ0) (n:=22) (f:=lg F3 h a c 3 (aN (h+2)) x15) (T:=T) (i:=5) (a:=(yS.nth 4).e) (xs:=C) (ys:=(oc h a).map λm=>iN m) (T1:=T) (xp:=⟨186,8,186,14⟩) (ap:=⟨186,8,186,21⟩) (ip:=⟨186,8,186,73⟩) (pos:=⟨186,8,186,73⟩) (by decide) (((dq _ _ _ _ _ _ _ (by decide)).trans (eF3▸eF2▸Fg 5 rfl rfl)).trans g5) ev5 (aM (λ_=>rfl) _) (by rw[lH ..];show _<=16777216;lia);rewrite[we _ _ _ _ _ _ _ _ (by decide)]at t4;refine⟨_,aE t0 (aE t1 (aE (by exact t2) (aE (by exact t3) (aE (by exact t4) rfl)))),?_,?_,?_,?_,?_,?_⟩
 ·rw[dq _ _ _ _ _ _ _ (by decide)];rw[eF3.symm];rw[eF2.symm];rfl
 ·rw[dq _ _ _ _ _ _ _ (by decide)];rw[eF3.symm];rfl
 ·rw[dq _ _ _ _ _ _ _ (by decide)];rfl
 ·rw[dq _ _ _ _ _ _ _ (by decide)];rw[eF3.symm];rw[eF2.symm];exact Fg 6 rfl rfl
 ·rw[dq _ _ _ _ _ _ _ (by decide)];rw[eF3.symm];rw[eF2.symm];exact Fg 7 rfl rfl
 ·rw[dq _ _ _ _ _ _ _ (by decide)];rw[eF3.symm];rw[eF2.symm];exact Fg 8 rfl rfl
end
noncomputable def zu(q:Nat×Nat):PV:=.tuple [iN q.1,iN q.2]
theorem pF{els:Ex}{tg:Tg}{q1 q2 q3:Pos}(ht:tg=.many [(1,q1),(9,q2)] 0 q3){T:aC}:∀(L:List (Nat×Nat)) (A B C:List PV) (g:ax),(∀q∈L,q.1<6)->g 3=some (.own A)->g 4=some (.own B)->g 5=some (.own C)->A.length+L.length<1000->B.length+L.length<1000->C.length+2*L.length<1000 ->
  ∃g',cU tg (yS.ex Φ0) els (L.map zu) (bI 22 g) T=els (bI 22 g') T/\g' 3=some (.own (A++L.map λq=>iN (mkM (q.1/3) (q.2%26) 3)))/\g' 4=some (.own (B++L.map λq=>.str (Ep (q.1/3) (q.2/26%2) (q.2/52%2) (q.2%26)))) /\
   g' 5=some (.own (C++(L.flatMap λq=>oc (q.1/3) (q.2%26)).map λm=>iN m))/\g' 6=g 6/\g' 7=g 7/\g' 8=g 8
 |[],A,B,C,g,_,g3,g4,g5,_,_,_=>⟨g,rfl,by simpa using g3,by simpa using g4,by simpa using g5,rfl,rfl,rfl⟩
 |q :: L,A,B,C,g,hL,g3,g4,g5,lA,lB,lC=>by
  have lo:(oc (q.1/3) (q.2%26)).length<=2:=by unfold oc;cases Nat.blt 63 (mkM (q.1/3) (q.2%26) 3)<;>simp
  simp only[lF]at lA lB lC;refine JB (y8 (p:=q.1) (n:=q.2) (T:=T) (hL q bW) g3 g4 g5 (by lia) (by lia) (by lia)) λg1 e h3 h4 h5 h6 h7 h8=>?_;obtain⟨g2,e2,k3,k4,k5,k6,k7,k8⟩:=pF ht L _ _ _ g1 (λx hx=>hL x (bZ _ hx)) h3 h4 h5 (by simp;lia) (by simp;lia) (by simp;lia);refine⟨g2,?_,?_,?_,?_,k6.trans h6,k7.trans h7,k8.trans h8⟩
  ·subst ht;rw[bh];rw[gw];rw[show cN (bI 22 g) (.many [(1,q1),(9,q2)] 0 q3) (zu q)=some (bI 22 (aW (aW g 1 (aN q.1)) 9 (aN q.2)))from tQ rfl rfl];refine(?_:(yS.ex Φ0 _ T).bind _=_);rw[e];exact e2
  ·rw[k3];simp
  ·rw[k4];simp
  ·rw[k5];simp
theorem sV{α β:Type}(f:α->β):∀(L:List α) (i:Nat),(L.map f).eraseIdx i=(L.eraseIdx i).map f
 |[],_=>rfl
 |_ :: _,0=>rfl
 |x :: L,i+1=>by rw[bh];rw[List.eraseIdx_cons_succ];rw[List.eraseIdx_cons_succ];rw[bh];rw[sV f L i];rfl
noncomputable abbrev FV:S:=(bQ.nth 3).body
theorem i0{els:Ex}{rest:List PV}{tg:Tg}{q:Pos}(ht:tg=.one 16 q){T:aC}{g:ax}{xs ys:List Nat}{r k:Nat}(g6:g 6=some (.own (xs.map λm=>iN m)))(g7:g 7=some (.own (ys.map λm=>iN m)))(g8:g 8=aN r)(hk:0<k)(hk2:k<1000)(hlt:r%k<ys.length)(hy:ys.length<=1000)(hx:xs.length<1000):
  ∃g',cU tg (FV.ex Φ0) els (iN k :: rest) (bI 22 g) T=cU tg (FV.ex Φ0) els rest (bI 22 g') T/\g' 6=some (.own ((xs++[ys.getD (r%k) 0]).map λm=>iN m))/\g' 7=some (.own ((ys.eraseIdx (r%k)).map λm=>iN m))/\g' 8=aN (r/k)/\∀j,j<6->g' j=g j:=by
 subst ht;have hg:(ys.map λm=>iN m)[r%k]?=some (iN (ys.getD (r%k) 0)):=by rw[List.getElem?_map];rewrite[List.getD];rw[rh hlt];rfl
 have t0:=vU (Φ:=Φ0) (n:=22) (f:=aW g 16 (aN k)) (T:=T) (T1:=T) (i:=6) (j:=7) (k:=r%k) (xs:=xs.map λm=>iN m) (ys:=ys.map λm=>iN m) (y:=iN (ys.getD (r%k) 0)) (a:=(FV.nth 0).e) (xp:=⟨189,8,189,13⟩) (ap:=⟨189,8,189,13⟩) (pos:=⟨189,8,189,13⟩) (jp:=⟨189,8,189,13⟩) (jap:=⟨189,8,189,13⟩) (jcp:=⟨189,8,189,13⟩) (cp:=⟨189,8,189,13⟩) (by decide) (by decide) g6 g7
  (aZ (bG (by decide) g8) (bG (by decide) rfl) (fP r hk)) hg (by simpa using hy) rfl (by rw[lH ..];show _<=16777216;lia)
 have t1:=pQ (Φ:=Φ0) (n:=22) (f:=aW (aW (aW g 16 (aN k)) 7 (some (.own ((ys.map λm=>iN m).eraseIdx (r%k))))) 6 (some (.own ((xs.map λm=>iN m)++[iN (ys.getD (r%k) 0)])))) (T:=T) (T1:=T) (i:=8) (a:=(FV.nth 1).e) (p:=iN (r/k)) (np:=⟨189,8,189,13⟩) (pos:=⟨189,8,189,13⟩) (aZ (bG (by decide) g8) (bG (by decide) rfl) (gK r hk (by lia))) rfl;have et:FV.ex Φ0 (bI 22 (aW g 16 (aN k))) T=some ⟨.next,_,T⟩:=aE (a:=FV.nth 0) (b:=FV.tail 1) (by exact t0) (aE (b:=.nil) (by exact t1) rfl);refine⟨_,by rw[gw];rw[gp rfl];show(FV.ex Φ0 _ T).bind _=_;rw[et];rfl,?_,?_,rfl,λj hj=>?_⟩
 ·refine(?_:some (AV.own _)=_);rw[kv];rfl
 ·refine(?_:some (AV.own _)=_);rw[sV ..];rfl
 ·have f:∀k,6<=k->Nat.beq j k=false:=λk hk=>by
   cases q:Nat.beq j k with
   |false=>rfl
   |true=>exact absurd (il q) (by lia)
  rw[ck _ _ (f 8 (by decide))];rw[ck _ _ (f 6 (by decide))];rw[ck _ _ (f 7 (by decide))];rw[ck _ _ (f 16 (by decide))];rfl
noncomputable def y1(i:Nat):List Nat:=[0,1,2,3].eraseIdx i
noncomputable def y2(i j:Nat):List Nat:=(y1 i).eraseIdx j
noncomputable def y3(i j k:Nat):List Nat:=(y2 i j).eraseIdx k
noncomputable def xA(i j k l:Nat):List Nat:=(((([]++[[0,1,2,3].getD i 0])++[(y1 i).getD j 0])++[(y2 i j).getD k 0])++[(y3 i j k).getD l 0])
noncomputable def Hb(i j k:Nat):Bool:=(y1 i).length==3&&((y2 i j).length==2&&((y3 i j k).length==1&&((xA i j k 0).length==4&&((xA i j k 0).all (λu=>decide (u<4))&&(List.range 4).all λw=>(xA i j k 0).contains w))))
theorem EI:((List.range 4).all λi=>(List.range 3).all λj=>(List.range 2).all λk=>Hb i j k)=true:=by decide +kernel
theorem zz{i j k l:Nat}(hi:i<4)(hj:j<3)(hk:k<2)(hl:l<1):(y1 i).length=3/\(y2 i j).length=2/\(y3 i j k).length=1/\(xA i j k l).length=4/\(∀u∈xA i j k l,u<4)/\∀w<4,w∈xA i j k l:=by
 have e:l=0:=by lia
 subst e;have h:=bD.mp (bD.mp (bD.mp EI i (bS.mpr hi)) j (bS.mpr hj)) k (bS.mpr hk);unfold Hb at h;simp only[cC,beq_iff_eq,bD,decide_eq_true_eq,bS,ks]at h;exact⟨h.1,h.2.1,h.2.2.1,h.2.2.2.1,h.2.2.2.2.1,h.2.2.2.2.2⟩
theorem wl{T:aC}{g:ax}{r:Nat}(g6:g 6=some (.own []))(g7:g 7=some (.own [iN 0,iN 1,iN 2,iN 3]))(g8:g 8=aN r):
  ∃(g':ax) (us:List Nat),(bQ.nth 3).ex Φ0 (bI 22 g) T=some ⟨.next,bI 22 g',T⟩/\g' 6=some (.own (us.map λm=>iN m))/\us.length=4/\(∀u∈us,u<4)/\(∀w<4,w∈us)/\g' 8=aN (r/4/3/2/1)/\∀j,j<6->g' j=g j:=by
 have F:=zz (i:=r%4) (j:=r/4%3) (k:=r/4/3%2) (l:=r/4/3/2%1) (cX _ (by decide)) (cX _ (by decide)) (cX _ (by decide)) (cX _ (by decide));obtain⟨l1,l2,l3,l4,f1,f2⟩:=F;refine wP (i0 (els:=(S.nil).ex Φ0) (rest:=[iN 3,iN 2,iN 1]) (tg:=(bQ.nth 3).tg) rfl (T:=T) (xs:=[]) (ys:=[0,1,2,3]) (k:=4) g6 g7 g8 (by decide) (by decide) (cX _ (by decide)) (by decide) (by decide)) λga ea a6 a7 a8 aj=>?_;refine wP (i0 (els:=(S.nil).ex Φ0) (rest:=[iN 2,iN 1]) (tg:=(bQ.nth 3).tg) rfl (T:=T) (ys:=y1 (r%4)) (k:=3) a6 a7 a8 (by decide) (by decide) (by rw[l1];exact cX _ (by decide)) (by rw[l1];decide) (eE (dh _))) λgb eb b6 b7 b8 bj=>?_;refine wP (i0 (els:=(S.nil).ex Φ0) (rest:=[iN 1]) (tg:=(bQ.nth 3).tg) rfl (T:=T) (ys:=y2 (r%4) (r/4%3)) (k:=2) b6 b7 b8 (by decide) (by decide) (by rw[l2];exact cX _ (by decide)) (by rw[l2];decide) (by simp)) λgc ec c6 c7 c8 cj=>?_;refine wP (i0 (els:=(S.nil).ex Φ0) (rest:=[]) (tg:=(bQ.nth 3).tg) rfl (T:=T) (ys:=y3 (r%4) (r/4%3) (r/4/3%2)) (k:=1) c6 c7 c8 (by decide) (by decide) (by rw[l3];exact cX _ (by decide)) (by rw[l3];decide) (by simp)) λgd ed d6 d7 d8 dj=>?_;refine⟨gd,xA (r%4) (r/4%3) (r/4/3%2) (r/4/3/2%1),?_,d6,l4,f1,f2,d8,λj hj=>(dj j hj).trans ((cj j hj).trans ((bj j hj).trans (aj j hj)))⟩;exact gG (xs:=[iN 4,iN 3,iN 2,iN 1]) rfl (ea.trans (eb.trans (ec.trans (ed.trans rfl))))
noncomputable def sS(f:Nat->Nat):Nat->List Nat->List Nat
 |_,[]=>[]
 |i,o :: r=>(o+f i) :: sS f (i+1) r
theorem H2{f:Nat->Nat}{z1}:sS f z1 []=([]):=rfl
theorem xo{f:Nat->Nat}{i o r}:sS f i (o :: r)=((o+f i) :: sS f (i+1) r):=rfl
theorem tO(f:Nat->Nat):∀(i:Nat) (l:List Nat),(sS f i l).length=l.length
 |_,[]=>rfl
 |i,o :: r=>by simp[H2,xo,tO f (i+1) r]
theorem yE(f:Nat->Nat):∀(a:List Nat) (i:Nat) (b:List Nat),sS f i (a++b)=sS f i a++sS f (i+a.length) b
 |[],_,_=>rfl
 |o :: a,i,b=>by rw[List.cons_append];rw[xo];rw[xo];rw[yE f a (i+1) b];rw[lF];rw[show i+1+a.length=i+(a.length+1) by lia];rfl
noncomputable abbrev dk(l:List Nat):List Int:=l.map λm=>((m:Nat):Int)
noncomputable def HM(m:Nat)(e0 e1:Nat):List Nat->Bool
 |[x]=>Builtin.bitAnd ((x+e0:Nat):Int) 63==(m:Int)&&Builtin.bitAnd ((x+e0:Nat):Int) 64==0
 |[x,y]=> !(Builtin.bitAnd ((x+e0:Nat):Int) 64==0)&&(eU (Builtin.bitAnd ((x+e0:Nat):Int) 63)&&(Builtin.bitAnd ((y+e1:Nat):Int) 64==0&&Builtin.bitOr (Builtin.bitAnd ((x+e0:Nat):Int) 63*2 ^ 6) (Builtin.bitAnd ((y+e1:Nat):Int) 63)==(m:Int)))
 |_=>false
theorem yH{v b:Int}(h:(Builtin.bitAnd b 64==0)=true)(r:List Int):zX v b r=.val v r:=by
 cases r
 ·rw[ub];rw[h];rfl
 ·rw[rn];rw[h];rfl
theorem y0{m:Nat}{f:Nat->Nat}{i:Nat}:∀{l:List Nat} (h:HM m (f i) (f (i+1)) l=true) (r:List Int),kI (dk (sS f i l)++r)=.val (m:Int) r
 |[x],h,r=>by have h:=aB h;refine(?_:zX (Builtin.bitAnd ((x+f i:Nat):Int) 63) _ r=_);rewrite[yH h.2];rw[eq_of_beq h.1];rfl
 |[x,y],h,r=>by refine kH (a4 h) λh1 h2 h3 h4=>?_;refine(?_:zX (Builtin.bitAnd ((x+f i:Nat):Int) 63) ((x+f i:Nat):Int) (((y+f (i+1):Nat):Int) :: r)=_);rw[rn];rw[(kJ _).mp h1];rw[h2];refine(?_:zX _ _ r=_);rewrite[yH h3];rw[eq_of_beq h4];rfl
 |[],h,_=>fT h
 |_ :: _ :: _ :: _,h,_=>fT h
theorem Dm:((List.range 52).all λk=>(List.range 2).all λb0=>(List.range 2).all λb1=>HM (mkM (k%2) (k/2) 3) (128*b0) (128*b1) (oc (k%2) (k/2)))=true:=by decide +kernel
theorem GL(h a:Nat):1<=(oc h a).length/\(oc h a).length<=2:=by unfold oc;cases Nat.blt 63 (mkM h a 3)<;>simp
theorem El{h a:Nat}(hh:h<2)(ha:a<26){f:Nat->Nat}(hf:∀i,f i=0\/f i=128)(i:Nat)(r:List Int):kI (dk (sS f i (oc h a))++r)=.val ((mkM h a 3:Nat):Int) r:=by have hb:∀i,∃b,b<2/\f i=128*b:=λi=>(hf i).elim (λe=>⟨0,by decide,e⟩) λe=>⟨1,by decide,e⟩;refine aP (hb i) λb0 h0 e0=>?_;refine aP (hb (i+1)) λb1 h1 e1=>?_;have e:=bD.mp (bD.mp (bD.mp Dm (h+2*a) (bS.mpr (by lia))) b0 (bS.mpr h0)) b1 (bS.mpr h1);replace e:=(show(h+2*a)%2=h by lia)▸e;replace e:=(show(h+2*a)/2=a by lia)▸e;replace e:=e0.symm▸e;replace e:=e1.symm▸e;exact y0 e r
theorem zS{f:Nat->Nat}(hf:∀i,f i=0\/f i=128){t:Nat}(ht:t<2)(i:Nat):kI (dk (sS f i (List.replicate t 66)))=.stop:=by
 match t,ht with
 |0,_=>rfl
 |1,_=>refine(?_:kI [((66+f i:Nat):Int)]=.stop);rcases hf i with e|e<;>rw[e]<;>rfl
noncomputable abbrev FG(q:Nat×Nat):List Nat:=oc (q.1/3) (q.2%26)
noncomputable abbrev Jg(q:Nat×Nat):Nat:=mkM (q.1/3) (q.2%26) 3
theorem yi{f:Nat->Nat}(hf:∀i,f i=0\/f i=128){t:Nat}(ht:t<2):∀(L:List (Nat×Nat)) (n i:Nat),(∀q∈L,q.1<6)->L.length<n->lL n (dk (sS f i (L.flatMap FG++List.replicate t 66)))=some (dk (L.map Jg))
 |[],n+1,i,_,_=>by rewrite[lL];rw[List.flatMap_nil];rw[List.nil_append ..];rewrite[zS hf ht];rfl
 |q :: L,n+1,i,hL,hn=>by have hq:=hL q bW;rw[List.flatMap_cons];rw[List.append_assoc ..];rw[yE ..];rewrite[lL,dk];rw[kv];rewrite[El (by lia) (cX _ (by decide)) hf];refine(?_:(lL n (dk (sS f _ (L.flatMap FG++List.replicate t 66)))).map _=_);rw[yi hf ht L n _ (λx hx=>hL x (bZ _ hx)) (by simpa using hn)];rfl
theorem qj:∀L:List (Nat×Nat),L.length<=(L.flatMap FG).length/\(L.flatMap FG).length<=2*L.length
 |[]=>⟨d4 _,d4 _⟩
 |q :: L=>by have h:=qj L;have h2:1<=(FG q).length/\(FG q).length<=2:=GL (q.1/3) (q.2%26);rw[List.flatMap_cons];rw[List.length_append];rw[lF];lia
theorem tE{l:List Nat}(h:∀x∈l,x<256):eH (byteArr (dk l))=dk l:=by unfold eH byteArr dk;rw[jR];rw[jR];apply List.map_congr_left;intro x hx;have:=h x hx;refine(?_:(((((x:Nat):Int).toNat.toUInt8).toNat:Nat):Int)=_);rw[Int.toNat_natCast ..];delta Nat.toUInt8;simp;lia
theorem wi{f:Nat->Nat}(hf:∀i,f i=0\/f i=128):∀(l:List Nat) (i:Nat),(∀x∈l,x<128)->∀x∈sS f i l,x<256
 |[],_,_,x,h=>by cases h
 |o :: r,i,h,x,hx=>by
  rcases ah.mp hx with e|e
  ·have:=h o bW;rcases hf i with q|q<;>lia
  ·exact wi hf r (i+1) (λy hy=>h y (bZ _ hy)) x e
theorem zP:((List.range 52).all λk=>(oc (k%2) (k/2)).all λx=>decide (x<128))=true:=by decide +kernel
theorem Hm{h a:Nat}(hh:h<2)(ha:a<26):∀x∈oc h a,x<128:=by have e:=bD.mp zP (h+2*a) (bS.mpr (by lia));replace e:=(show(h+2*a)%2=h by lia)▸e;replace e:=(show(h+2*a)/2=a by lia)▸e;intro x hx;simpa using bD.mp e x hx
theorem Fz:((List.range 52).all λk=>goods.contains (mkM (k%2) (k/2) 3)&&(!(mkM (k%2) (k/2) 3==0)&&(bif Nat.beq (k%2) 0 then ix (mkM (k%2) (k/2) 3) 3 else ix (mkM (k%2) (k/2) 3) 0)))=true:=by decide +kernel
theorem H9{h a:Nat}(hh:h<2)(ha:a<26):mkM h a 3∈goods/\mkM h a 3≠0/\(h=0->ix (mkM h a 3) 3=true)/\(h=1->ix (mkM h a 3) 0=true):=by
 have e:=bD.mp Fz (h+2*a) (bS.mpr (by lia));replace e:=(show(h+2*a)%2=h by lia)▸e;replace e:=(show(h+2*a)/2=a by lia)▸e;rewrite[eA,eA,ks]at e;refine km e ?_;clear e;intro e1 e2 e3;refine⟨e1,by simpa using e2,λq=>?_,λq=>?_⟩
 ·subst q;exact e3
 ·subst q;exact e3
noncomputable def cls(N:Nat->Nat)(i:Nat):Nat:=mkM (i/3) (N i%26) 3
theorem G3(N:Nat->Nat):wC (cls N):=by
 have h:∀i,i<6->_:=λi hi=>H9 (h:=i/3) (a:=N i%26) (by lia) (cX _ (by decide));have e:∀m∈dZ (cls N),∃i,i<6/\m=cls N i:=λm hm=>by
  simp only[dZ,ah,List.not_mem_nil,or_false]at hm;rcases hm with e|e|e|e|e|e
  ·exact⟨0,by decide,e⟩
  ·exact⟨1,by decide,e⟩
  ·exact⟨2,by decide,e⟩
  ·exact⟨3,by decide,e⟩
  ·exact⟨4,by decide,e⟩
  ·exact⟨5,by decide,e⟩
 refine⟨λm hm=>?_,λm hm=>?_,λm hm=>?_,λm hm=>?_⟩
 ·refine aP (e m hm) λi hi q1q=>?_;subst q1q;exact(h i hi).1
 ·refine aP (e m hm) λi hi q1q=>?_;subst q1q;exact(h i hi).2.1
 ·simp only[ah,List.not_mem_nil,or_false]at hm;rcases hm with e|e|e<;>subst e
  ·exact(h 0 (by decide)).2.2.1 rfl
  ·exact(h 1 (by decide)).2.2.1 rfl
  ·exact(h 2 (by decide)).2.2.1 rfl
 ·simp only[ah,List.not_mem_nil,or_false]at hm;rcases hm with e|e|e<;>subst e
  ·exact(h 3 (by decide)).2.2.2 rfl
  ·exact(h 4 (by decide)).2.2.2 rfl
  ·exact(h 5 (by decide)).2.2.2 rfl
theorem gh{Φ:fA}{n:Nat}{f:ax}{T:aC}{i:Nat}{pos:Pos}{xs:List PV}(h:i<n)(e:f i=some (.own xs)):((E.var i pos).sm Φ).ev (bI n f) T=some (.view xs,T):=by refine(?_:Option.map _ ((bI n f).getD i none)=_);rw[kR f h];rw[e];rfl
theorem F6:((List.range 208).all λk=>decide ((IP (k%2) (k/4%2) (k/2%2) (k/8)).length<=20))=true:=by decide +kernel
theorem GS{h b c a:Nat}(hh:h<2)(hb:b<2)(hc:c<2)(ha:a<26):(Ep h b c a).length<=20:=by have D:=Ip h hh c hc b hb a ha;have e:=bD.mp F6 (h+2*c+4*b+8*a) (bS.mpr D.1);replace e:=D.2.1▸e;replace e:=D.2.2.1▸e;replace e:=D.2.2.2.1▸e;replace e:=D.2.2.2.2▸e;refine(?_:(IP h b c a).toArray.size<=20);simpa using e
noncomputable def ld(N:Nat->Nat)(i:Nat):Str:=Ep (i/3) (N i/26%2) (N i/52%2) (N i%26)
theorem dn(N:Nat->Nat){i:Nat}(h:i<6):(ld N i).length<=20:=GS (by lia) (cX _ (by decide)) (cX _ (by decide)) (cX _ (by decide))
noncomputable abbrev jS:Str:=sx ","
noncomputable def Ek(x y z:Str):Str:=x++jS++(y++jS++z)
noncomputable def cY(N:Nat->Nat):Str:=Ek (ld N 0) (ld N 1) (ld N 2)++sx ";"++ Ek (ld N 3) (ld N 4) (ld N 5)
theorem oQ{x y z:Str}(hx:x.length<=20)(hy:y.length<=20)(hz:z.length<=20):(Ek x y z).length<=62:=by unfold Ek;rw[Str.length_append ..];rw[Str.length_append ..];rw[Str.length_append ..];rw[Str.length_append ..];have:jS.length=1:=rfl;lia
theorem uY{x y z:Str}{T:aC}(hx:x.length<=20)(hy:y.length<=20)(hz:z.length<=20):mH .join (.str jS) [.list [.str x,.str y,.str z]] T=some (PV.str (Ek x y z),T):=by
 refine(?_:aw (JoinOk jS [x,y,z]) (some (PV.str (Txt.join jS [x,y,z]),T))=_);have h:JoinOk jS [x,y,z]=true:=by unfold JoinOk;rw[StrLaws.joinTotal ..];have:jS.length=1:=rfl;simp only[bh,List.map_nil,List.sum_cons,List.sum_nil,lF,List.length_nil,this];rw[kJ ..];refine decide_eq_false ?_;refine(?_:¬(_ > 16777216));lia
 rw[h];refine(?_:some (PV.str (Builtin.Str.glued jS [x,y,z]),T)=_);rw[StrLaws.glued_eq_join ..];rfl
theorem yA{x y:Str}(hx:x.length<=1000)(hy:y.length<=1000):gW .Add (.str x) (.str y)=some (.str (x++y)):=by refine(?_:fit _ _=_);rw[bN (by show _<=16777216;lia)];rfl
noncomputable def sf:Nat->List Nat->List (Nat×Nat)
 |_,[]=>[]
 |i,o :: r=>(i,o) :: sf (i+1) r
theorem GA{z1}:sf z1 []=([]):=rfl
theorem wV{i o r}:sf i (o :: r)=((i,o) :: sf (i+1) r):=rfl
theorem sD:∀(l:List Nat) (i:Nat),ii (i:Int) (l.map λm=>iN m)=(sf i l).map zu
 |[],_=>rfl
 |o :: r,i=>by rw[bh];rw[oP];rw[wV];rw[bh];rw[Eq.symm (sD r (i+1))];rfl
theorem uy:∀(l:List Nat) (i:Nat),(sf i l).length=l.length
 |[],_=>rfl
 |o :: r,i=>by simp[GA,wV,uy r]
noncomputable def fR(r i:Nat):Nat:=bif i%3==r%3 then 128 else 0
theorem BL(r i:Nat):fR r i=0\/fR r i=128:=by
 unfold fR;cases i%3==r%3
 ·exact .inl rfl
 ·exact .inr rfl
theorem vb(r:Nat):∀(l:List Nat) (i:Nat),((sf i l).map λq=>iN (q.2+fR r q.1))=(sS (fR r) i l).map λm=>iN m
 |[],_=>rfl
 |o :: l,i=>by rw[wV];rw[bh];rw[xo];rw[bh];rw[vb r l (i+1)];rfl
theorem xX{f:ax}{T:aC}{r:Nat}{ocs:List Nat}(h5:f 5=some (.own (ocs.map λm=>iN m)))(h8:f 8=aN r)(hl:ocs.length<=100):
  (bQ.nth 4).ex Φ0 (bI 22 f) T=some ⟨.next,bI 22 (aW f 5 (some (.val (.list ((sS (fR r) 0 (ocs++List.replicate (r/3%2) 66)).map λm=>iN m))))),T⟩:=by
 have ht:r/3%2<2:=cX _ (by decide);have hm:gW .Mult (.list [iN 66]) (iN (r/3%2))=some (.list ((List.replicate (r/3%2) 66).map λm=>iN m)):=by
  match r/3%2,ht with
  |0,_=>rfl
  |1,_=>rfl
 have ha:gW .Add (.view (ocs.map λm=>iN m)) (.list ((List.replicate (r/3%2) 66).map λm=>iN m))=some (.list ((ocs++List.replicate (r/3%2) 66).map λm=>iN m)):=by refine(?_:fit _ _=_);rw[bN (by simp;show _<=16777216;lia)];rw[kv];rfl
 generalize hz:ocs++List.replicate (r/3%2) 66=zs at ha;have lz:zs.length<=102:=by rw[hz.symm];simp;lia
 have hs:sh .enumerate [.list (zs.map λm=>iN m)]=some ((sf 0 zs).map zu):=by refine(?_:aw (aA (zs.map λm=>iN m)) (fit (zs.map λm=>iN m).length (some (ii ((0:Nat):Int) (zs.map λm=>iN m))))=_);rewrite[aM (λ_=>rfl)];rw[bN (by simp;show _<=16777216;lia)];rw[sD ..];rfl
 have e:=tB (Φ:=Φ0) (n:=22) (e:=(bQ.nth 4).e) (f:=f) (T:=T) (L:=sf 0 zs) (b:=true) zu (λg=>g 8=aN r) (λ_=>true) (λq=>iN (q.2+fR r q.1)) rfl
  (ct (ps:=[.list (zs.map λm=>iN m)]) (aL (aZ (gh (by decide) h5) (aZ (p:=.list [iN 66]) rfl (aZ (aZ (bG (by decide) h8) rfl (gK r (b:=3) (by decide) (by decide))) rfl (fP (r/3) (b:=2) (by decide))) hm) ha) ac) hs) (by rw[uy ..];show _<=16777216;lia) (bP rfl h8)
  (λq hq g g8=>⟨aW (aW g 20 (aN q.1)) 21 (aN q.2),tQ rfl rfl,g8,rfl,λ_=>⟨by refine aZ (p:=iN q.2) (q:=.int (128*if (q.1%3==r%3)=true then(1:Int)else 0)) (bG (by decide) rfl) (aZ (p:=.int 128) (q:=.bool (q.1%3==r%3)) rfl (qS (aZ (bG (by decide) rfl) rfl (fP q.1 (b:=3) (by decide))) (aZ (bG (by decide) g8) rfl (fP r (b:=3) (by decide))) (cn _ _)) rfl) ?_;unfold fR;cases q.1%3==r%3<;>rfl,rfl⟩⟩)
 replace e:=(jg.mpr (λ_ _=>rfl))▸e;replace e:=(vb ..)▸e;exact pQ e (aM (λ_=>rfl) _)
noncomputable def nB(N:Nat->Nat):List (Nat×Nat):=[(0,N 0),(1,N 1),(2,N 2),(3,N 3),(4,N 4),(5,N 5)]
noncomputable def FK(N:Nat->Nat)(r:Nat):List Nat:=(nB N).flatMap FG++List.replicate (r/3%2) 66
noncomputable def AF(N:Nat->Nat)(r:Nat):Array UInt8:=byteArr (dk (sS (fR r) 0 (FK N r)))
noncomputable def kindN(r:Nat):Nat:=r/6%3
theorem uE(N:Nat->Nat):∀q∈nB N,q.1<6:=by
 intro q hq;simp only[nB,ah,List.not_mem_nil,or_false]at hq;rcases hq with e|e|e|e|e|e<;>rw[e]
 ·show 0<6;decide
 ·show 1<6;decide
 ·show 2<6;decide
 ·show 3<6;decide
 ·show 4<6;decide
 ·show 5<6;decide
theorem gH(xs:List Int):aA (xs.map .int)=true:=by
 induction xs with
 |nil=>rfl
 |cons x xs ih=>rw[bh];rw[bR];rw[ih];rfl
theorem lc(L:List Nat):bd (L.map λm=>iN m)=L.map λm=>iN m:=by
 induction L with
 |nil=>rfl
 |cons x xs ih=>rw[bh];rw[kY];rw[ih];rfl
theorem FN(N:Nat->Nat)(r:Nat):∀x∈FK N r,x<128:=by
 intro x hx;rcases jU.mp hx with h|h
 ·refine aP (List.mem_flatMap.mp h) λq hq h=>?_;have:=uE N q hq;exact Hm (by lia) (cX _ (by decide)) x h
 ·rw[(List.mem_replicate.mp h).2];decide
theorem DF(N:Nat->Nat)(r:Nat):6<=(FK N r).length/\(FK N r).length<=13:=by have h:=qj (nB N);have:(nB N).length=6:=rfl;have ht:r/3%2<2:=cX _ (by decide);unfold FK;rw[List.length_append];rw[List.length_replicate];lia
theorem AJ(l:List Nat):hY (l.map λm=>iN m)=some (dk l):=by
 have:=lM (dk l)
 rwa [dk,jR]at this
theorem AY{l:List Nat}(h:∀x∈l,x<256)(hl:l.length<=1000):eL .bytes [.list (l.map λm=>iN m)]=some (.bytes (byteArr (dk l))):=by
 refine(?_:(hY (l.map λm=>iN m)).bind _=_);rw[AJ ..];refine(?_:aw (Nat.ble (l.map λm=>iN m).length 1000&&(dk l).all λn=>decide (0<=n)&&decide (n<256)) _=_);rw[sB (by simpa using hl),show((dk l).all λn=>decide (0<=n)&&decide (n<256))=true from by rewrite[bD];intro n hn;refine aP (cH.mp hn) λx hx q1q=>?_;subst q1q;have:=h x hx;simp;lia]
 rfl
theorem EB(N:Nat->Nat)(r:Nat):(AF N r).size=(FK N r).length:=by unfold AF;rw[byteArr_size ..];rewrite[dk];rw[lH ..];rw[tO ..];rfl
theorem uH(N:Nat->Nat)(r:Nat):(AF N r).size<=1000/\lL ((AF N r).size+1) (eH (AF N r))=some (dk (dZ (cls N))):=by have hz:=DF N r;rw[EB ..];refine⟨by lia,?_⟩;unfold AF;rw[tE (wi (BL r) _ 0 (FN N r))];exact yi (BL r) (cX _ (by decide)) (nB N) _ 0 (uE N) (by have:(nB N).length=6:=rfl;lia)
theorem zg(xs:List Int)(hl:xs.length<=cap)(T:aC):∃(N:Nat->Nat) (us:List Nat) (r:Nat),us.length=4/\(∀u∈us,u<4)/\(∀w<4,w∈us) /\
  Φ2 .drawn [.arg (xs.map .int)] T=some (.tuple [cG (dZ (cls N)),.str (cY N),.bytes (AF N r),.list (us.map λm=>iN m),iN (kindN r)],T):=by
 refine aP (wm (f:=aW (λ_=>none) 0 (some (.val (.arg (xs.map .int))))) (T:=T) xs hl rfl) λN hN t0=>?_;generalize hf:aW (aW (λ_=>none) 0 (some (.val (.arg (xs.map .int))))) 2 (some (.val (.list [iN (N 0),iN (N 1),iN (N 2),iN (N 3),iN (N 4),iN (N 5),iN (N 6)])))=f at t0;have f2:f 2=some (.val (.list [iN (N 0),iN (N 1),iN (N 2),iN (N 3),iN (N 4),iN (N 5),iN (N 6)])):=by rw[hf.symm];rfl
 have t1:(bQ.nth 1).ex Φ0 (bI 22 f) T=some ⟨.next,bI 22 (aW (aW (aW (aW (aW (aW f 3 (some (.own []))) 4 (some (.own []))) 5 (some (.own []))) 6 (some (.own []))) 7 (some (.own [iN 0,iN 1,iN 2,iN 3]))) 8 (aN (N 6))),T⟩:=
  jA (ps:=[.list [],.list [],.list [],.list [],.list [iN 0,iN 1,iN 2,iN 3],iN (N 6)]) (aL rfl (aL rfl (aL rfl (aL rfl (aL rfl (aL (bg (q:=.int 6) (bG (by decide) f2) rfl rfl) ac)))))) rfl (by show 6<=16777216;decide) (by kernel_rfl)
 generalize hf1:aW (aW (aW (aW (aW (aW f 3 (some (.own []))) 4 (some (.own []))) 5 (some (.own []))) 6 (some (.own []))) 7 (some (.own [iN 0,iN 1,iN 2,iN 3]))) 8 (aN (N 6))=f1 at t1;have k2:f1 2=some (.val (.list [iN (N 0),iN (N 1),iN (N 2),iN (N 3),iN (N 4),iN (N 5),iN (N 6)])):=by rw[hf1.symm];exact f2
 obtain⟨g,e2,g3,g4,g5,g6,g7,g8⟩:=pF (els:=(S.nil).ex Φ0) (tg:=(bQ.nth 2).tg) rfl (T:=T) (nB N) [] [] [] f1 (uE N) (by rw[hf1.symm];rfl) (by rw[hf1.symm];rfl) (by rw[hf1.symm];rfl) (by show 0+6<1000;decide) (by show 0+6<1000;decide) (by show 0+2*6<1000;decide);have t2:(bQ.nth 2).ex Φ0 (bI 22 f1) T=some ⟨.next,bI 22 g,T⟩:=
  gG (xs:=(nB N).map zu) (ct (ps:=[.list [iN (N 0),iN (N 1),iN (N 2),iN (N 3),iN (N 4),iN (N 5)]]) (aL (jO (lo:=.none) (hi:=.int 6) (st:=.none) (bG (by decide) k2) rfl rfl rfl (by kernel_rfl)) ac) rfl) e2
 have h6:g 6=some (.own []):=by rw[g6];rw[hf1.symm];rfl
 have h7:g 7=some (.own [iN 0,iN 1,iN 2,iN 3]):=by rw[g7];rw[hf1.symm];rfl
 have h8:g 8=aN (N 6):=by rw[g8];rw[hf1.symm];rfl
 refine Io (wl (T:=T) h6 h7 h8) λj us t3 j6 us1 us2 us3 j8 jj=>?_;generalize N 6/4/3/2/1=r at j8;have j3:=(jj 3 (by decide)).trans g3;have j4:=(jj 4 (by decide)).trans g4;have j5:=(jj 5 (by decide)).trans g5;have t4:=xX (f:=j) (T:=T) (r:=r) (ocs:=(nB N).flatMap FG) j5 j8 (by have:=qj (nB N);have:(nB N).length=6:=rfl;lia);generalize hj1:aW j 5 (some (.val (.list ((sS (fR r) 0 ((nB N).flatMap FG++List.replicate (r/3%2) 66)).map λm=>iN m))))=j1 at t4;have m3:j1 3=some (.own ((dZ (cls N)).map λm=>iN m)):=by rw[hj1.symm];exact j3
 have m4:j1 4=some (.own [.str (ld N 0),.str (ld N 1),.str (ld N 2),.str (ld N 3),.str (ld N 4),.str (ld N 5)]):=by rw[hj1.symm];exact j4
 have m5:j1 5=some (.val (.list ((sS (fR r) 0 (FK N r)).map λm=>iN m))):=by rw[hj1.symm];rfl
 have m6:j1 6=some (.own (us.map λm=>iN m)):=by rw[hj1.symm];exact j6
 have m8:j1 8=aN r:=by rw[hj1.symm];exact j8
 have hz:=DF N r;have x0:=dn N (i:=0) (by decide);have x1:=dn N (i:=1) (by decide);have x2:=dn N (i:=2) (by decide);have x3:=dn N (i:=3) (by decide);have x4:=dn N (i:=4) (by decide);have x5:=dn N (i:=5) (by decide);have l1:=oQ x0 x1 x2;have l2:=oQ x3 x4 x5;have t5:(bQ.nth 5).ex Φ0 (bI 22 j1) T=some ⟨.ret (.tuple [.view ((dZ (cls N)).map λm=>iN m),.str (cY N),.bytes (AF N r),.view (us.map λm=>iN m),iN (kindN r)]),bI 22 j1,T⟩:=by refine wL (jy (aL (gh (by decide) m3) (aL (aZ (p:=.str (Ek (ld N 0) (ld N 1) (ld N 2)++sx ";")) (q:=.str (Ek (ld N 3) (ld N 4) (ld N 5))) (aZ (p:=.str (Ek (ld N 0) (ld N 1) (ld N 2))) (q:=.str (sx ";")) (ci (p:=.str jS) (ps:=[.list [.str (ld N 0),.str (ld N 1),.str (ld N 2)]]) rfl (aL (jO (lo:=.none) (hi:=.int 3) (st:=.none) (gh (by decide) m4) rfl rfl rfl (by kernel_rfl)) ac) (uY x0 x1 x2)) rfl (yA (by lia) (by decide))) (ci (p:=.str jS) (ps:=[.list [.str (ld N 3),.str (ld N 4),.str (ld N 5)]]) rfl (aL (jO (lo:=.int 3) (hi:=.none) (st:=.none) (gh (by decide) m4) rfl rfl rfl (by kernel_rfl)) ac) (uY x3 x4 x5)) (yA (by rw[Str.length_append ..];have:(sx ";").length=1:=rfl;lia) (by lia))) (aL (iX (ps:=[.list ((sS (fR r) 0 (FK N r)).map λm=>iN m)]) (aL (bG (by decide) m5) ac) (AY (wi (BL r) _ 0 (FN N r)) (by rw[tO ..];lia))) (aL (gh (by decide) m6) (aL (aZ (aZ (bG (by decide) m8) rfl (gK r (b:=6) (by decide) (by decide))) rfl (fP (r/6) (b:=3) (by decide))) ac))))) (by show 5<=16777216;decide))
 refine⟨N,us,r,us1,us2,us3,?_⟩;have e:bQ.ex Φ0 (bI 22 (aW (λ_=>none) 0 (some (.val (.arg (xs.map .int)))))) T=_:=aE t0 (aE t1 (aE t2 (aE t3 (aE t4 (i5 t5)))));have eb:aq (List.replicate 22 none) (eY.map λi=>(i,⟨0,0,0,0⟩)) [.arg (xs.map .int)]=some (bI 22 (aW (λ_=>none) 0 (some (.val (.arg (xs.map .int)))))):=by refine(?_:aw (aA (xs.map .int)) _=_);rw[gH ..];rfl
 refine(?_:fQ Φ0 bQ qc eY [.arg (xs.map .int)] T=_);show(aq (List.replicate 22 none) (eY.map λi=>(i,⟨0,0,0,0⟩)) [.arg (xs.map .int)]).bind (λσ=>(bQ.ex Φ0 σ T).bind λo=>match o.fl with
  |.ret p=>some (dD p,o.T)
  |.next=>some (.none,o.T)
  |.brk=>none)=_
 rw[eb];refine(?_:(bQ.ex Φ0 _ T).bind _=_);rw[e];refine(?_:some (PV.tuple [.list (bd ((dZ (cls N)).map λm=>iN m)),_,_,.list (bd (us.map λm=>iN m)),_],T)=_);rw[lc ..];rw[lc ..];rfl
theorem CS{p b len:Nat}(h:len<=b):Builtin.Str.strSliceIndices (some (p:Int)) (some (b:Int)) 1 len=Builtin.Str.strSliceIndices (some (p:Int)) (some (len:Int)) 1 len:=by have h2:¬((b:Int)<0):=Int.not_lt.mpr (ij b);have h3:¬((len:Int)<0):=Int.not_lt.mpr (ij len);have e2:min (b:Int) (len:Int)=min (len:Int) (len:Int):=(Int.min_eq_right (Int.ofNat_le.mpr h)).trans (Int.min_eq_right (Int.le_refl _)).symm;simp only[Builtin.Str.strSliceIndices,h2,h3,if_false,e2,show((1:Int) > 0)=True from by decide,if_true]
theorem Bk(x:Str){p k:Nat}(hp:p<=x.length):gq x (some (p:Int)) (some ((p+k:Nat):Int))=⟨((x.cps.toList.drop p).take k).toArray⟩:=by
 have hl:x.cps.toList.length=x.length:=rfl;obtain⟨e1,e2⟩:(Builtin.Str.strSliceIndices (some (p:Int)) (some ((p+k:Nat):Int)) 1 x.length).filterMap (x.cps[·]?)=(x.cps.toList.drop p).take k/\(Builtin.Str.strSliceIndices (some (p:Int)) (some ((p+k:Nat):Int)) 1 x.length).length=((x.cps.toList.drop p).take k).length:=by
  by_cases hk:p+k<=x.length
  ·refine⟨?_,?_⟩
   ·rw[StrLaws.sliced_plain x (Nat.le_add_right p k) hk];rw[Nat.add_sub_cancel_left ..];rfl
   ·rw[StrLaws.strSliceIndices_plain (Nat.le_add_right p k) hk];simp only[lH,List.length_range,List.length_take,List.length_drop,hl];rw[Nat.add_sub_cancel_left ..];rw[Nat.min_eq_left (Nat.le_sub_of_add_le (Nat.add_comm p k▸hk))];rfl
  ·rw[CS (Nat.le_of_not_le hk)];have et:(x.cps.toList.drop p).take (x.length-p)=(x.cps.toList.drop p).take k:=by rw[List.take_of_length_le (by rw[List.length_drop];rw[hl];exact d4 _)];rw[List.take_of_length_le (by rw[List.length_drop];rw[hl];exact Nat.sub_le_of_le_add (Nat.add_comm p k▸Nat.le_of_not_le hk))];rfl
   refine⟨?_,?_⟩
   ·rw[StrLaws.sliced_plain x hp (d4 _)];rw[et];rfl
   ·rw[StrLaws.strSliceIndices_plain hp (d4 _)];rw[et.symm];simp only[lH,List.length_range,List.length_take,List.length_drop,hl];exact(Nat.min_self _).symm
 unfold gq
 split
 ·rename_i h
  have h:=eq_of_beq h;replace h:=e2▸h;replace h:=hl.symm▸h;have:(x.cps.toList.drop p).take k=x.cps.toList:=((List.take_sublist _ _).trans (List.drop_sublist _ _)).eq_of_length h;rw[this];rfl
 ·rw[e1];rfl
noncomputable def oN(l:List Nat)(k:Nat):Bool:=(ce dN ⟨(l.take k).toArray⟩).isSome
noncomputable def cE(l:List Nat):Nat:=([3,2,1].filter (oN l)).headD 0
noncomputable def qM(l:List Nat):Int:=bif Nat.beq (cE l) 0 then 256+((l.headD 0:Nat):Int)else(ce dN ⟨(l.take (cE l)).toArray⟩).getD 0
noncomputable def ma:List Nat->Nat->List Int
 |[],_=>[]
 |x :: r,0=>qM (x :: r) :: ma r (max 1 (cE (x :: r))-1)
 |_ :: r,k+1=>ma r k
theorem yO{x r}:ma (x :: r) 0=(qM (x :: r) :: ma r (max 1 (cE (x :: r))-1)):=rfl
theorem wO(l:List Nat):cE l=0\/((cE l=1\/cE l=2\/cE l=3)/\oN l (cE l)=true):=by unfold cE;cases h3:oN l 3<;>cases h2:oN l 2<;>cases h1:oN l 1<;>simp[List.filter,h3,h2,h1]
noncomputable def E.subA:E->E
 |.sub a _ _=>a
 |e=>e
noncomputable def E.binA:E->E
 |.bin _ a _ _=>a
 |e=>e
noncomputable abbrev ES:S:=(cM.nth 1).body
section
variable{T:aC}{g:ax}{x:Str}{p:Nat}
theorem vG{Φ:fA}{a l u s:E}{sp pos:Pos}{k:Nat}{lo hi:PV}{σ:aF}(h1:(a.sm Φ).ev σ T=some (.str x,T))(h2:(l.sm Φ).ev σ T=some (iN p,T))(h3:(u.sm Φ).ev σ T=some (iN (p+k),T))(h4:(s.sm Φ).ev σ T=some (.none,T))(hp:p<=x.length)(hx:x.length<=1000):
  ((E.slc a l u s sp pos).sm Φ).ev σ T=some (.str ⟨((x.cps.toList.drop p).take k).toArray⟩,T):=by
 refine jO h1 h2 h3 h4 ?_;refine(?_:aw (true&&Nat.ble (gq x (some (p:Int)) (some ((p+k:Nat):Int))).length 100000) (some (PV.str (gq x (some (p:Int)) (some ((p+k:Nat):Int)))))=_);rw[Bk x hp,sB (by have hl:x.cps.toList.length=x.length:=rfl;have:(⟨((x.cps.toList.drop p).take k).toArray⟩:Str).length=((x.cps.toList.drop p).take k).length:=rfl;rw[this];rw[List.length_take];rw[List.length_drop];rw[hl];exact de (Nat.min_le_right ..) (de (Nat.sub_le ..) (de hx (by decide))))];rfl
theorem tR(a b:Nat):gW .Add (iN a) (iN b)=some (iN (a+b)):=rfl
theorem CP(g0:g 0=some (.val (.str x)))(g6:g 6=aN p)(hp:p<=x.length)(hx:x.length<=1000):((ES.nth 0).body.nth 0).ex Φ1 (bI 11 g) T=some ⟨.next,bI 11 (aW g 7 (aN (cE (x.cps.toList.drop p)))),T⟩:=by
 have e:=tB (Φ:=Φ1) (n:=11) (e:=(((ES.nth 0).body.nth 0).e.subA.binA)) (f:=g) (T:=T) (L:=[3,2,1]) (b:=true) (λk=>iN k) (λg=>g 6=aN p/\g 0=some (.val (.str x))) (oN (x.cps.toList.drop p)) (λk=>iN k) rfl rfl (by decide) ⟨bP rfl g6,bP rfl g0⟩
  (λk hk g ⟨g6,g0⟩=>⟨aW g 9 (aN k),gp rfl,⟨g6,g0⟩,by have es:=vG (Φ:=Φ1) (T:=T) (x:=x) (p:=p) (k:=k) (σ:=bI 11 (aW g 9 (aN k))) (a:=.var 0 ⟨0,0,0,0⟩) (l:=.var 6 ⟨0,0,0,0⟩) (u:=.bin .Add (.var 6 ⟨0,0,0,0⟩) (.var 9 ⟨0,0,0,0⟩) ⟨0,0,0,0⟩) (s:=.miss) (sp:=⟨0,0,0,0⟩) (pos:=⟨0,0,0,0⟩) (lo:=.none) (hi:=.none) (bG (by decide) g0) (bG (by decide) g6) (aZ (bG (by decide) g6) (bG (by decide) rfl) (tR p k)) rfl hp hx;refine(?_:((Option.bind _ _).bind _)=_);erw [es];rfl,λ_=>⟨bG (by decide) rfl,rfl⟩⟩)
 refine pQ (bg (p:=.list ((([3,2,1].filter (oN (x.cps.toList.drop p))).map λk=>iN k)++[.int 0])) (q:=.int 0) (aZ e (q:=.list [.int 0]) rfl ?_) rfl ?_) rfl
 ·refine(?_:fit _ _=_);rw[bN (by have:=List.length_filter_le (oN (x.cps.toList.drop p)) [3,2,1];simp at this ⊢;refine(?_:_<=16777216);lia)];rfl
 ·unfold cE;cases [3,2,1].filter (oN (x.cps.toList.drop p))<;>rfl
end
theorem A0{Φ:fA}{σ:aF}{T:aC}{a:E}{sp pos:Pos}{p r:PV}(h:(a.sm Φ).ev σ T=some (p,T))(h2:wb p=some r):((E.tokAt a sp pos).sm Φ).ev σ T=some (r,T):=by refine(?_:((a.sm Φ).ev σ T).bind _=_);rw[h];refine(?_:(wb p).map _=_);rw[h2];rfl
theorem EN{Φ:fA}{n:Nat}{f:ax}{T:aC}{i:Nat}{pos:Pos}{p:PV}{t:Bool}(h:i<n)(e:f i=some (.val p))(ht:eS p=some t):((E.var i pos).sm Φ).evT (bI n f) T=some (t,T):=by refine(?_:(((E.var i pos).sm Φ).ev (bI n f) T).bind _=_);rw[bG h e];refine(?_:(eS p).map _=_);rw[ht];rfl
section
variable{T:aC}{g:ax}{x:Str}{p b:Nat}{L:List PV}
theorem r9(x:Str):x.cps.toList.length=x.length:=rfl
theorem Dz(hp:p<x.length)(hx:x.length<=1000):kn (.str x) (iN p)=some (s1 ((x.cps.toList.drop p).headD 0)):=by
 refine(?_:aw (decide ((0:Int)<=(p:Int))&&decide ((p:Int)<1000)) ((x.cps[(p:Int).toNat]?).map λc=>PV.str ⟨#[c]⟩)=_);have hl:=r9 x;have h:p<x.cps.toList.length:=by lia
 rw[decide_eq_true (ij p)];rw[decide_eq_true (by lia:(p:Int)<1000)];rw[Int.toNat_natCast ..];rw[Eq.symm Array.getElem?_toList];rw[rh h];rw[List.drop_eq_getElem_cons h];rfl
theorem DY(g0:g 0=some (.val (.str x)))(g1:g 1=some (.own L))(g6:g 6=aN p)(g7:g 7=aN (cE (x.cps.toList.drop p)))(hp:p<x.length)(hx:x.length<=1000)(hL:L.length<=1000):
  ((ES.nth 0).body.nth 1).ex Φ1 (bI 11 g) T=some ⟨.next,bI 11 (aW g 1 (some (.own (L++[.int (qM (x.cps.toList.drop p))])))),T⟩:=by
 refine mU (by decide) g1 (w3 (EN (p:=iN (cE (x.cps.toList.drop p))) (by decide) g7 (rz _)) ?_) rfl (by show _<=16777216;lia);rcases wO (x.cps.toList.drop p)with h0|⟨h1,h2⟩
 ·rw[h0];refine aZ (p:=.int 256) (q:=iN ((x.cps.toList.drop p).headD 0)) rfl (iX (aL (bg (bG (by decide) g0) (bG (by decide) g6) (Dz hp hx)) ac) rfl) ?_;unfold qM;rw[h0];rfl
 ·have hb:(cE (x.cps.toList.drop p)==0)=false:=by simp;lia
  rw[hb];refine A0 (vG (k:=cE (x.cps.toList.drop p)) (lo:=.none) (hi:=.none) (bG (by decide) g0) (bG (by decide) g6) (aZ (bG (by decide) g6) (bG (by decide) g7) (tR _ _)) rfl (by lia) hx) ?_;unfold qM;have hb2:Nat.beq (cE (x.cps.toList.drop p)) 0=false:=by
   cases q:Nat.beq (cE (x.cps.toList.drop p)) 0 with
   |false=>rfl
   |true=>have:=il q;lia
  rw[hb2];unfold oN at h2;cases q:ce dN ⟨((x.cps.toList.drop p).take (cE (x.cps.toList.drop p))).toArray⟩with
  |none=>replace h2:=q▸h2;exact fT h2
  |some v=>refine(?_:(ce dN _).map PV.int=_);rw[q];rfl
theorem D7(n:Nat):eL .max [.int 1,iN n]=some (iN (max 1 n)):=by
 refine(?_:some (PV.int (if (1:Int)<(n:Int)then(n:Int)else 1))=_);by_cases h:(1:Int)<(n:Int)
 ·rw[if_pos h];rw[show max 1 n=n by lia];rfl
 ·rw[if_neg h];rw[show max 1 n=1 by lia];rfl
theorem DX(g0:g 0=some (.val (.str x)))(g1:g 1=some (.own L))(g2:g 2=aN b)(hb:b<=p)(hp:p<x.length)(hx:x.length<=1000)(hL:L.length<=1000):
  ∃g',ES.ex Φ1 (bI 11 (aW g 6 (aN p))) T=some ⟨.next,bI 11 g',T⟩/\g' 1=some (.own (L++[.int (qM (x.cps.toList.drop p))]))/\g' 2=aN (p+max 1 (cE (x.cps.toList.drop p)))/\g' 0=g 0/\g' 3=g 3/\g' 4=g 4/\g' 5=g 5:=by
 have t0:=CP (T:=T) (g:=aW g 6 (aN p)) (x:=x) (p:=p) g0 rfl (by lia) hx;have t1:=DY (T:=T) (g:=aW (aW g 6 (aN p)) 7 (aN (cE (x.cps.toList.drop p)))) (x:=x) (p:=p) (L:=L) g0 g1 rfl rfl hp hx hL;have t2:=pQ (Φ:=Φ1) (n:=11) (f:=aW (aW (aW g 6 (aN p)) 7 (aN (cE (x.cps.toList.drop p)))) 1 (some (.own (L++[.int (qM (x.cps.toList.drop p))])))) (T:=T) (T1:=T) (i:=2) (a:=((ES.nth 0).body.nth 2).e) (p:=iN (p+max 1 (cE (x.cps.toList.drop p)))) (np:=⟨0,0,0,0⟩) (pos:=⟨0,0,0,0⟩)
  (aZ (bG (by decide) rfl) (iX (aL rfl (aL (bG (by decide) rfl) ac)) (D7 _)) (tR _ _)) rfl
 refine⟨aW (aW (aW (aW g 6 (aN p)) 7 (aN (cE (x.cps.toList.drop p)))) 1 (some (.own (L++[.int (qM (x.cps.toList.drop p))])))) 2 (aN (p+max 1 (cE (x.cps.toList.drop p)))),aE (b:=.nil) (dK (t:=true) (bM (p:=iN p) (q:=iN b) (bG (by decide) rfl) (bG (by decide) g2) ?_) (aE t0 (aE t1 (aE (b:=.nil) (by exact t2) rfl)))) rfl,rfl,rfl,rfl,rfl,rfl,rfl⟩;refine(?_:some (decide ((b:Int)<=(p:Int)))=_);rw[decide_eq_true (by lia)];rfl
theorem A8(g2:g 2=aN b)(hb:p<b):ES.ex Φ1 (bI 11 (aW g 6 (aN p))) T=some ⟨.next,bI 11 (aW g 6 (aN p)),T⟩:=by refine aE (b:=.nil) (dK (t:=false) (bM (p:=iN p) (q:=iN b) (bG (by decide) rfl) (bG (by decide) g2) ?_) rfl) rfl;refine(?_:some (decide ((b:Int)<=(p:Int)))=_);rw[decide_eq_false (by lia)];rfl
theorem pI{els:Ex}{tg:Tg}{q:Pos}(ht:tg=.one 6 q)(hx:x.length<=500):∀(l:List Nat) (p sk:Nat) (g:ax) (S:List Int),x.cps.toList.drop p=l->p+l.length=x.length->g 0=some (.val (.str x))->g 1=some (.own (S.map .int))->g 2=aN (p+sk)->S.length<=p ->
  ∃g',cU tg (ES.ex Φ1) els (dA (p:Int) l.length) (bI 11 g) T=els (bI 11 g') T/\g' 1=some (.own ((S++ma l sk).map .int))/\g' 3=g 3/\g' 4=g 4/\g' 5=g 5
 |[],p,sk,g,S,_,_,_,g1,_,_=>⟨g,rfl,by rw[show ma [] sk=[]from rfl];rw[List.append_nil ..];exact g1,rfl,rfl,rfl⟩
 |c :: r,p,0,g,S,hd,hl,g0,g1,g2,hS=>by
  have hr:x.cps.toList.drop (p+1)=r:=by rw[Eq.symm List.drop_drop];rw[hd];rfl
  simp only[lF]at hl;obtain⟨g1',e,k1,k2,k0,k3,k4,k5⟩:=DX (T:=T) (g:=g) (x:=x) (p:=p) (b:=p+0) (L:=S.map .int) g0 g1 g2 (by lia) (by lia) (by lia) (by simp;lia);rw[hd]at k1 k2;have hm:1<=max 1 (cE (c :: r)):=by lia
  obtain⟨g',e2,m1,m3,m4,m5⟩:=pI ht hx r (p+1) (max 1 (cE (c :: r))-1) g1' (S++[qM (c :: r)]) hr (by lia) (k0.trans g0) (by rw[k1];rw[kv];rfl) (by rw[k2];rw[show p+max 1 (cE (c :: r))=p+1+(max 1 (cE (c :: r))-1) by lia];rfl) (by simp;lia);refine⟨g',?_,?_,m3.trans k3,m4.trans k4,m5.trans k5⟩
  ·subst ht;rw[lF];rw[jo];rw[gw];rw[gp rfl];refine(?_:(ES.ex Φ1 _ T).bind _=_);rw[e];exact e2
  ·rw[m1];rw[yO];rw[List.append_assoc ..];rfl
 |c :: r,p,k+1,g,S,hd,hl,g0,g1,g2,hS=>by
  have hr:x.cps.toList.drop (p+1)=r:=by rw[Eq.symm List.drop_drop];rw[hd];rfl
  simp only[lF]at hl;have e:=A8 (T:=T) (g:=g) (p:=p) (b:=p+(k+1)) g2 (by lia);obtain⟨g',e2,m1,m3,m4,m5⟩:=pI ht hx r (p+1) k (aW g 6 (aN p)) S hr (by lia) g0 g1 (by show g 2=_;rw[g2];rw[show p+(k+1)=p+1+k by lia];rfl) (by lia);refine⟨g',?_,?_,m3,m4,m5⟩
  ·subst ht;rw[lF];rw[jo];rw[gw];rw[gp rfl];refine(?_:(ES.ex Φ1 _ T).bind _=_);rw[e];exact e2
  ·exact m1
end
noncomputable def zd:List Nat->List Nat->Bool
 |[],[]=>true
 |a :: r,b :: t=>bif Nat.beq a b then zd r t else false
 |[],_ :: _=>false
 |_ :: _,[]=>false
theorem yJ:∀a b:List Nat,zd a b=decide (a=b)
 |[],[]=>rfl
 |a :: r,b :: t=>by
  rw[show zd (a :: r) (b :: t)=bif Nat.beq a b then zd r t else false from rfl];rw[yJ r t];cases h:Nat.beq a b with
  |true=>have:=il h;subst this;simp
  |false=>
   have:a≠b:=λe=>by subst e;replace h:=(Nat.beq_refl ..)▸h;exact tF h
   simp[this]
 |[],_ :: _=>rfl
 |_ :: _,[]=>rfl
noncomputable def nG:List (Str×Int)->List Nat->Option Int
 |[],_=>none
 |(k,v) :: r,x=>bif zd k.cps.toList x then some v else nG r x
theorem BB{k v r x}:nG ((k,v) :: r) x=(bif zd k.cps.toList x then some v else nG r x):=rfl
theorem nA(l:List Nat):∀t:List (Str×Int),ce t ⟨l.toArray⟩=nG t l
 |[]=>rfl
 |(k,v) :: r=>by
  rw[vo];rw[BB];rw[nA l r];rw[yJ ..];have:(k==(⟨l.toArray⟩:Str))=decide (k.cps.toList=l):=by
   rewrite[Bool.eq_iff_iff,beq_iff_eq];rw[decide_eq_true_eq];constructor
   ·intro e;rw[e];rfl
   ·intro e;subst e;rfl
  rw[this];rfl
noncomputable def oB(l:List Nat)(k:Nat):Bool:=(nG dN (l.take k)).isSome
noncomputable def sM(l:List Nat):Nat:=bif oB l 3 then 3 else bif oB l 2 then 2 else bif oB l 1 then 1 else 0
noncomputable def EQ(l:List Nat):Int:=match sM l with
 |0=>((256+l.headD 0:Nat):Int)
 |n+1=>(nG dN (l.take (n+1))).getD 0
noncomputable def oK:List Nat->Nat->List Int
 |[],_=>[]
 |x :: r,0=>EQ (x :: r) :: oK r (sM (x :: r)-1)
 |_ :: r,k+1=>oK r k
theorem F0{x r}:oK (x :: r) 0=(EQ (x :: r) :: oK r (sM (x :: r)-1)):=rfl
theorem vI(l:List Nat):cE l=sM l:=by
 have e:oN l=oB l:=funext λk=>by unfold oN oB;rw[nA ..];rfl
 unfold cE sM;rw[e];cases h3:oB l 3<;>cases h2:oB l 2<;>cases h1:oB l 1<;>simp[List.filter,h3,h2,h1]
theorem EF(l:List Nat):qM l=EQ l:=by
 unfold qM EQ;rw[vI ..];cases h:sM l with
 |zero=>show 256+((l.headD 0:Nat):Int)=_;simp
 |succ n=>rw[nA ..];rfl
theorem JF:∀n:Nat,max 1 n-1=n-1
 |0=>rfl
 |n+1=>by rw[Nat.max_eq_right (Nat.succ_le_succ (Nat.zero_le n))];rfl
theorem sy:∀(l:List Nat) (k:Nat),ma l k=oK l k
 |[],_=>rfl
 |x :: r,0=>by rw[yO];rw[F0];rw[EF ..];rw[vI ..];rewrite[sy r];rw[JF ..];rfl
 |_ :: r,k+1=>sy r k
noncomputable abbrev sZ(k:Nat):List Nat:=IP (k%2) (k/4%2) (k/2%2) (k/8)
noncomputable def bY(k:Nat):List Int:=oK (sZ k) 0
noncomputable def rg(j:Nat):List Nat:=(List.range 52).map λi=>52*j+i
theorem Bt{k:Nat}:k∈rg (k/52):=cH.mpr ⟨k%52,bS.mpr (cX _ (by decide)),Nat.div_add_mod k 52⟩
noncomputable abbrev TC(c:Nat)(s:Int)(j:Nat):Prop:=ln (λ(k:Nat)=>λ(x:Nat) (rest:List Nat)=>oK (sZ k++c :: x :: rest) 0) (rg j)=(rg j).map λk=>λx rest=>bY k++s :: oK (x :: rest) 0
theorem Ju:TC 44 12 0:=by kernel_rfl
theorem Jq:TC 44 12 1:=by kernel_rfl
theorem Jl:TC 44 12 2:=by kernel_rfl
theorem Jc:TC 44 12 3:=by kernel_rfl
theorem I8{k:Nat}(h:k<208):TC 44 12 (k/52):=IU (Nat.div_lt_of_lt_mul h) Ju Jq Jl Jc
theorem Jp:TC 59 13 0:=by kernel_rfl
theorem Jb:TC 59 13 1:=by kernel_rfl
theorem Jn:TC 59 13 2:=by kernel_rfl
theorem JZ:TC 59 13 3:=by kernel_rfl
theorem Ic{k:Nat}(h:k<208):TC 59 13 (k/52):=IU (Nat.div_lt_of_lt_mul h) Jp Jb Jn JZ
theorem EW:((List.range 208).all λk=> !(sZ k).isEmpty)=true:=by decide +kernel
noncomputable def S.els:S->S
 |.ite _ _ b _=>b
 |s=>s
noncomputable def E.cmpA:E->E
 |.cmp _ a _ _=>a
 |e=>e
noncomputable abbrev AH:S:=(cM.nth 3).body
noncomputable abbrev IJ:S:=AH.nth 0
noncomputable def iI:List Int:=[18,19,31,51,368,369,370,371,336,337,338,339]
noncomputable def AG(s:Int)(q:Nat×Nat):Nat×Nat:=
 if 255<s then(q.1+q.2*4 ^ (s.toNat%32-16),1)else if s=31 then(q.1,2)else if s=51 then(2*q.1,q.2)else q
theorem Ey:ln (λ(k:Nat)=>λ(g:ax) (v:Nat) (T:aC)=>AH.ex Φ1 (bI 11 (aW (aW (aW g 4 (aN v)) 5 (aN (k%2+1))) 8 (some (.val (.int (iI.getD (k/2) 0)))))) T) (List.range 24)=
  (List.range 24).map λk=>λg v T=>some ⟨.next,bI 11 (aW (aW (aW g 4 (aN (AG (iI.getD (k/2) 0) (v,k%2+1)).1)) 5 (aN (AG (iI.getD (k/2) 0) (v,k%2+1)).2)) 8 (some (.val (.int (iI.getD (k/2) 0))))),T⟩:=by kernel_rfl
theorem IE:ln (λ(s:Int)=>λ(g:ax) (T:aC)=>((IJ.e.sm Φ1).evT (bI 11 (aW g 8 (some (.val (.int s))))) T,(((IJ.els.nth 0).e.sm Φ1).evT (bI 11 (aW g 8 (some (.val (.int s))))) T,((((IJ.els.nth 0).els.nth 0).e.sm Φ1).evT (bI 11 (aW g 8 (some (.val (.int s))))) T,(((((IJ.els.nth 0).els.nth 0).els.nth 0).e.sm Φ1).evT (bI 11 (aW g 8 (some (.val (.int s))))) T))))) [0,12,13]=
  ([0,12,13]:List Int).map λs=>λg T=>(some (false,T),some (false,T),some (false,T),some (true,T)):=by kernel_rfl
noncomputable def j7:List Int:=[0,12,13,255,256,-1]++iI
theorem Gf:ln (λ(s:Int)=>λ(g:ax) (T:aC)=>(((cM.nth 2).e.cmpA.ifs).sm Φ1).evIfs (bI 11 (aW g 10 (some (.val (.int s))))) T) j7=j7.map λs=>λg T=>some (false,T):=by kernel_rfl
theorem uk:((List.range 208).all λk=>(bY k).all λs=>iI.contains s)=true:=by decide +kernel
theorem CZ:((List.range 208).all λk=>(bY k).foldl (λq s=>AG s q) (0,1)==(mkM (k%2) (k/8) 3,1))=true:=by decide +kernel
theorem vJ{f:ax}{i:Nat}{x:Option AV}(h:f i=x):aW f i x=f:=by
 funext j;unfold aW
 cases e:Nat.beq j i with
 |false=>rfl
 |true=>have:=il e;subst this;exact h.symm
theorem zM:(iI.all λs=>(List.range 12).any λi=>iI.getD i 0==s)=true:=by decide +kernel
section
variable{T:aC}{g:ax}
theorem FE{s:Int}(hs:s∈iI){v t:Nat}(ht:t=1\/t=2)(g4:g 4=aN v)(g5:g 5=aN t):
  ∃g',AH.ex Φ1 (bI 11 (aW g 8 (some (.val (.int s))))) T=some ⟨.next,bI 11 g',T⟩/\g' 4=aN (AG s (v,t)).1/\g' 5=aN (AG s (v,t)).2/\g' 3=g 3:=by
 refine aP (ls.mp (bD.mp zM s hs)) λi hi e=>?_;have hi:=bS.mp hi;have e:=eq_of_beq e;obtain⟨u,hu,et⟩:∃u,u<2/\t=u+1:=ht.elim (λh=>⟨0,by decide,h⟩) λh=>⟨1,by decide,h⟩;have h:=congrFun (congrFun (congrFun (di Ey (x:=2*i+u) (bS.mpr (by lia))) g) v) T;replace h:=(show(2*i+u)/2=i by lia)▸h;replace h:=(show(2*i+u)%2+1=t by lia)▸h;replace h:=e▸h;replace h:=vJ g4▸h;replace h:=vJ g5▸h;exact⟨_,h,rfl,rfl,rfl⟩
theorem HO(s:Int)(q:Nat×Nat)(h:q.2=1\/q.2=2):(AG s q).2=1\/(AG s q).2=2:=by
 unfold AG
 split
 ·exact .inl rfl
 ·split
  ·exact .inr rfl
  ·split<;>exact h
theorem yR{els:Ex}{tg:Tg}{q:Pos}(ht:tg=.one 8 q){rest:List PV}:∀(S:List Int) (v t:Nat) (g:ax),(∀s∈S,s∈iI)->(t=1\/t=2)->g 4=aN v->g 5=aN t ->
  ∃g',cU tg (AH.ex Φ1) els (S.map .int++rest) (bI 11 g) T=cU tg (AH.ex Φ1) els rest (bI 11 g') T/\g' 4=aN (S.foldl (λq s=>AG s q) (v,t)).1/\g' 5=aN (S.foldl (λq s=>AG s q) (v,t)).2/\g' 3=g 3
 |[],v,t,g,_,_,g4,g5=>⟨g,rfl,g4,g5,rfl⟩
 |s :: S,v,t,g,hS,h,g4,g5=>by refine iU (FE (T:=T) (hS s bW) h g4 g5) λg1 e k4 k5 k3=>?_;obtain⟨g2,e2,m4,m5,m3⟩:=yR ht (rest:=rest) S (AG s (v,t)).1 (AG s (v,t)).2 g1 (λx hx=>hS x (bZ _ hx)) (HO s (v,t) h) k4 k5;refine⟨g2,?_,m4,m5,m3.trans k3⟩;subst ht;rw[bh];rw[List.cons_append];rw[gw];rw[gp rfl];refine(?_:(AH.ex Φ1 _ T).bind _=_);rw[e];exact e2
theorem GZ{els:Ex}{tg:Tg}{q:Pos}(ht:tg=.one 8 q){rest:List PV}{s:Int}(hs:s∈([0,12,13]:List Int)){A:List PV}{v:Nat}(g3:g 3=some (.own A))(g4:g 4=aN v)(hA:A.length<=1000):
  ∃g',cU tg (AH.ex Φ1) els (.int s :: rest) (bI 11 g) T=cU tg (AH.ex Φ1) els rest (bI 11 g') T/\g' 3=some (.own (A++[iN v]))/\g' 4=aN 0/\g' 5=g 5:=by
 have h:=congrFun (congrFun (di IE hs) g) T;have h1:=congrArg Prod.fst h;have h2:=congrArg (λx=>x.2.1) h;have h3:=congrArg (λx=>x.2.2.1) h;have h4:=congrArg (λx=>x.2.2.2) h;have t0:=mU (Φ:=Φ1) (n:=11) (f:=aW g 8 (some (.val (.int s)))) (T:=T) (T1:=T) (i:=3) (a:=.var 4 ⟨0,0,0,0⟩) (p:=iN v) (xp:=⟨0,0,0,0⟩) (ap:=⟨0,0,0,0⟩) (ip:=⟨0,0,0,0⟩) (pos:=⟨0,0,0,0⟩) (by decide) g3 (bG (by decide) g4) rfl (by show _<=16777216;lia);have t1:=pQ (Φ:=Φ1) (n:=11) (f:=aW (aW g 8 (some (.val (.int s)))) 3 (some (.own (A++[iN v])))) (T:=T) (T1:=T) (i:=4) (a:=.cst (.int 0) 0 ⟨0,0,0,0⟩) (p:=iN 0) (np:=⟨0,0,0,0⟩) (pos:=⟨0,0,0,0⟩) rfl rfl;have e:AH.ex Φ1 (bI 11 (aW g 8 (some (.val (.int s))))) T=some ⟨.next,bI 11 (aW (aW (aW g 8 (some (.val (.int s)))) 3 (some (.own (A++[iN v])))) 4 (aN 0)),T⟩:=
  aE (b:=.nil) (dK h1 (aE (b:=.nil) (dK h2 (aE (b:=.nil) (dK h3 (aE (b:=.nil) (dK h4 (aE (by exact t0) (aE (b:=.nil) (by exact t1) rfl))) rfl)) rfl)) rfl)) rfl
 refine⟨aW (aW (aW g 8 (some (.val (.int s)))) 3 (some (.own (A++[iN v])))) 4 (aN 0),?_,rfl,rfl,rfl⟩
 ·subst ht;rw[gw];rw[gp rfl];refine(?_:(AH.ex Φ1 _ T).bind _=_);rw[e];rfl
theorem fz{els:Ex}{tg:Tg}{q:Pos}(ht:tg=.one 8 q){rest:List PV}{k:Nat}(hk:k<208){s:Int}(hs:s∈([0,12,13]:List Int)){A:List PV}(g3:g 3=some (.own A))(g4:g 4=aN 0)(g5:g 5=aN 1)(hA:A.length<=1000):
  ∃g',cU tg (AH.ex Φ1) els ((bY k).map .int ++ .int s :: rest) (bI 11 g) T=cU tg (AH.ex Φ1) els rest (bI 11 g') T/\g' 3=some (.own (A++[iN (mkM (k%2) (k/8) 3)]))/\g' 4=aN 0/\g' 5=aN 1:=by
 have hf:=eq_of_beq (bD.mp CZ k (bS.mpr hk));refine iU (yR (T:=T) (els:=els) ht (rest:=.int s :: rest) (bY k) 0 1 g (λs hs=>ks.mp (bD.mp (bD.mp uk k (bS.mpr hk)) s hs)) (.inl rfl) g4 g5) λg1 e1 k4 k5 k3=>?_;rw[hf]at k4 k5;refine iU (GZ (T:=T) (els:=els) ht (rest:=rest) hs (k3.trans g3) k4 hA) λg2 e2 m3 m4 m5=>?_;exact⟨g2,e1.trans e2,m3,m4,m5.trans k5⟩
end
noncomputable def kq(N:Nat->Nat)(i:Nat):Nat:=i/3+2*(N i/52%2)+4*(N i/26%2)+8*(N i%26)
theorem lE(N:Nat->Nat){i:Nat}(hi:i<6):kq N i<208/\kq N i%2=i/3/\kq N i/8=N i%26/\kq N i/2%2=N i/52%2/\kq N i/4%2=N i/26%2:=by refine z9 (Ip (i/3) (Nat.div_lt_of_lt_mul hi) (N i/52%2) (cX _ (dh 1)) (N i/26%2) (cX _ (dh 1)) (N i%26) (cX _ (dh 25))) λa b c d e=>?_;exact⟨a,b,c,d,e⟩
theorem fu(N:Nat->Nat){i:Nat}(hi:i<6):(ld N i).cps.toList=sZ (kq N i):=by refine z9 (lE N hi) λ_ e1 e2 e3 e4=>?_;unfold ld Ep sZ;rw[e1];rw[e2];rw[e3];rw[e4];rfl
theorem xD(N:Nat->Nat):(cY N).cps.toList=sZ (kq N 0)++44 :: (sZ (kq N 1)++44 :: (sZ (kq N 2)++59 :: (sZ (kq N 3)++44 :: (sZ (kq N 4)++44 :: sZ (kq N 5))))):=by rw[Eq.symm (fu N (by decide:0<6))];rw[Eq.symm (fu N (by decide:1<6))];rw[Eq.symm (fu N (by decide:2<6))];rw[Eq.symm (fu N (by decide:3<6))];rw[Eq.symm (fu N (by decide:4<6))];rw[Eq.symm (fu N (by decide:5<6))];have h1:jS.cps.toList=[44]:=rfl;have h2:(sx ";").cps.toList=[59]:=rfl;unfold cY Ek;simp only[Str.cps_append,Array.toList_append,h1,h2,List.append_assoc,List.cons_append,List.nil_append]
theorem Bi{k:Nat}(hk:k<208):∃x r,sZ k=x :: r:=by
 have h:=bD.mp EW k (bS.mpr hk);cases e:sZ k with
 |nil=>replace h:=e▸h;exact fT h
 |cons x r=>exact⟨x,r,rfl⟩
theorem li{k j:Nat}(hk:k<208)(hj:j<208)(rest:List Nat):oK (sZ k++44 :: (sZ j++rest)) 0=bY k++12 :: oK (sZ j++rest) 0/\oK (sZ k++59 :: (sZ j++rest)) 0=bY k++13 :: oK (sZ j++rest) 0:=by refine eV (Bi hj) λx r e=>?_;rw[e];rw[List.cons_append];exact⟨congrFun (congrFun (di (I8 hk) Bt) x) (r++rest),congrFun (congrFun (di (Ic hk) Bt) x) (r++rest)⟩
noncomputable def mT(N:Nat->Nat):List Int:=bY (kq N 0)++12 :: (bY (kq N 1)++12 :: (bY (kq N 2)++13 :: (bY (kq N 3)++12 :: (bY (kq N 4)++12 :: bY (kq N 5)))))
theorem zV(N:Nat->Nat):ma (cY N).cps.toList 0=mT N:=by have k0:=(lE N (by decide:0<6)).1;have k1:=(lE N (by decide:1<6)).1;have k2:=(lE N (by decide:2<6)).1;have k3:=(lE N (by decide:3<6)).1;have k4:=(lE N (by decide:4<6)).1;have k5:=(lE N (by decide:5<6)).1;have e5:=(li k4 k5 []).1;replace e5:=(List.append_nil ..)▸e5;rw[sy ..];rw[xD ..];rw[(li k0 k1 _).1];rw[(li k1 k2 _).1];rw[(li k2 k3 _).2];rw[(li k3 k4 _).1];rw[e5];rfl
theorem qX{Φ:fA}{σ:aF}{T:aC}{op:Operator}{a b:E}{pos:Pos}{p q:PV}{xs:List PV}(h1:(a.sm Φ).ev σ T=some (p,T))(h2:(b.sm Φ).ev σ T=some (q,T))(h3:gW op p q=some (.list xs))(hc:aA xs=true)(hl:xs.length<=cap):((E.bin op a b pos).sm Φ).evSrc σ T=some ((xs,true),T):=by refine(?_:(((E.bin op a b pos).sm Φ).ev σ T).bind _=_);rw[aZ h1 h2 h3];refine(?_:aw (aA xs) (fit xs.length _)=_);rw[hc];rw[bN hl];rfl
theorem vV{xs ys:List PV}(h:xs.length+ys.length<=1000):gW .Add (.view xs) (.list ys)=some (.list (xs++ys)):=by refine(?_:fit _ _=_);rw[bN (by show _<=16777216;lia)];rfl
theorem mx:∀(l:List Nat) (k:Nat),(ma l k).length<=l.length
 |[],_=>d4 _
 |x :: r,0=>Nat.succ_le_succ (mx r _)
 |_ :: r,k+1=>Nat.le_succ_of_le (mx r k)
theorem y5(N:Nat->Nat):(cY N).length<=125:=by have l1:=oQ (dn N (i:=0) (by decide)) (dn N (i:=1) (by decide)) (dn N (i:=2) (by decide));have l2:=oQ (dn N (i:=3) (by decide)) (dn N (i:=4) (by decide)) (dn N (i:=5) (by decide));unfold cY;rw[Str.length_append ..];rw[Str.length_append ..];have:(sx ";").length=1:=rfl;lia
theorem Cb(N:Nat->Nat):∀s∈mT N,s∈j7:=by
 have h:∀i,i<6->∀s∈bY (kq N i),s∈j7:=λi hi s hs=>
  List.mem_append_right _ (ks.mp (bD.mp (bD.mp uk _ (bS.mpr (lE N hi).1)) s hs))
 have h12:(12:Int)∈j7:=by decide
 have h13:(13:Int)∈j7:=by decide
 intro s hs;unfold mT at hs;simp only[jU,ah]at hs;rcases hs with hs|hs|hs|hs|hs|hs|hs|hs|hs|hs|hs
 ·exact h 0 (by decide) s hs
 ·rw[hs];exact h12
 ·exact h 1 (by decide) s hs
 ·rw[hs];exact h12
 ·exact h 2 (by decide) s hs
 ·rw[hs];exact h13
 ·exact h 3 (by decide) s hs
 ·rw[hs];exact h12
 ·exact h 4 (by decide) s hs
 ·rw[hs];exact h12
 ·exact h 5 (by decide) s hs
theorem Ap(N:Nat->Nat)(T:aC):Φ2 .read [.str (cY N)] T=some (cG (dZ (cls N)),T):=by
 have hx:=y5 N;have hc:=r9 (cY N);have htk:=zV N;have hln:(mT N).length<=125:=by rw[htk.symm];exact de (mx _ _) (by lia)
 generalize hf0:aW (λ_=>none) 0 (some (.val (.str (cY N))))=f0;have f00:f0 0=some (.val (.str (cY N))):=by rw[hf0.symm];rfl
 have t0:(cM.nth 0).ex Φ1 (bI 11 f0) T=some ⟨.next,bI 11 (aW (aW (aW (aW (aW f0 1 (some (.own []))) 2 (aN 0)) 3 (some (.own []))) 4 (aN 0)) 5 (aN 1)),T⟩:=by kernel_rfl
 generalize hf1:aW (aW (aW (aW (aW f0 1 (some (.own []))) 2 (aN 0)) 3 (some (.own []))) 4 (aN 0)) 5 (aN 1)=f1 at t0;refine wP (pI (T:=T) (x:=cY N) (els:=(S.nil).ex Φ1) (tg:=(cM.nth 1).tg) rfl (by lia) (cY N).cps.toList 0 0 f1 [] rfl (by lia) (by rw[hf1.symm];exact f00) (by rw[hf1.symm];rfl) (by rw[hf1.symm];rfl) (by decide)) λg e1 g1 g3 g4 g5=>?_;replace g1:=htk▸g1;replace g1:=(List.nil_append ..)▸g1;have t1:(cM.nth 1).ex Φ1 (bI 11 f1) T=some ⟨.next,bI 11 g,T⟩:=by
  refine gG (xs:=dA ((0:Nat):Int) (cY N).cps.toList.length) (ct (ps:=[iN (cY N).length]) (aL (iX (aL (bG (by decide) (show f1 0=some (.val (.str (cY N))) by rw[hf1.symm];exact f00)) ac) ?_) ac) ?_) e1
  ·refine(?_:(fit (cY N).length (some ((cY N).length:Int))).map PV.int=_);rw[bN (by show _<=16777216;lia)];rfl
  ·refine(?_:aw (decide ((0:Int)<=((cY N).length:Int))&&decide (((cY N).length:Int)<1000000)) (some (dA 0 (((cY N).length:Int)).toNat))=_);rw (occs:=.all) [decide_eq_true (ij _),decide_eq_true (by lia:((cY N).length:Int)<1000000),Int.toNat_natCast,hc];rfl
 have h3:g 3=some (.own []):=by rw[g3];rw[hf1.symm];rfl
 have h4:g 4=aN 0:=by rw[g4];rw[hf1.symm];rfl
 have h5:g 5=aN 1:=by rw[g5];rw[hf1.symm];rfl
 have ec:=tB (Φ:=Φ1) (n:=11) (e:=(cM.nth 2).e.cmpA) (f:=g) (T:=T) (L:=mT N++[0,255,256,-1]) (b:=true) PV.int (λ_=>True) (λ_=>false) PV.int rfl
  (qX (gh (by decide) g1) (q:=.list (([0,255,256,-1]:List Int).map .int)) rfl (xs:=(mT N++[0,255,256,-1]).map .int) (by rw (occs:=.all) [kv];exact vV (by simp;lia)) (gH _) (by simp;show _<=16777216;lia)) (by simp;show _<=16777216;lia) trivial
  (λs hs g' _=>⟨aW g' 10 (some (.val (.int s))),gp rfl,trivial,by
   have hs':s∈j7:=by
    rcases jU.mp hs with h|h
    ·exact Cb N s h
    ·have:∀s∈([0,255,256,-1]:List Int),s∈j7:=by decide
     exact this s h
   exact congrFun (congrFun (di Gf hs') g') T,λq=>fT q⟩)
 rw (occs:=.all) [List.filter_eq_nil_iff.mpr (λ_ _=>by simp)]at ec;have t2:(cM.nth 2).ex Φ1 (bI 11 g) T=some ⟨.next,bI 11 g,T⟩:=dK (t:=false) (bM ec (q:=.list []) rfl rfl) rfl;have ok:∀i,i<6->mkM (kq N i%2) (kq N i/8) 3=cls N i:=λi hi=>by refine z9 (lE N hi) λ_ a b _ _=>?_;rw[a];rw[b];rfl
 have hk:∀i,i<6->kq N i<208:=λi hi=>(lE N hi).1;have c12:(12:Int)∈([0,12,13]:List Int):=by decide
 have c13:(13:Int)∈([0,12,13]:List Int):=by decide
 have c0:(0:Int)∈([0,12,13]:List Int):=by decide
 refine iU (fz (T:=T) (els:=(S.nil).ex Φ1) (tg:=(cM.nth 3).tg) rfl (rest:=(bY (kq N 1)++12 :: (bY (kq N 2)++13 :: (bY (kq N 3)++12 :: (bY (kq N 4)++12 :: (bY (kq N 5)++0 :: []))))).map .int) (hk 0 (by decide)) c12 h3 h4 h5 (by decide)) λa0 ea0 b0 p0 q0=>?_;refine iU (fz (T:=T) (els:=(S.nil).ex Φ1) (tg:=(cM.nth 3).tg) rfl (rest:=(bY (kq N 2)++13 :: (bY (kq N 3)++12 :: (bY (kq N 4)++12 :: (bY (kq N 5)++0 :: [])))).map .int) (hk 1 (by decide)) c12 b0 p0 q0 (dh _)) λa1 ea1 b1 p1 q1=>?_;refine iU (fz (T:=T) (els:=(S.nil).ex Φ1) (tg:=(cM.nth 3).tg) rfl (rest:=(bY (kq N 3)++12 :: (bY (kq N 4)++12 :: (bY (kq N 5)++0 :: []))).map .int) (hk 2 (by decide)) c13 b1 p1 q1 (eE (dh _))) λa2 ea2 b2 p2 q2=>?_;refine iU (fz (T:=T) (els:=(S.nil).ex Φ1) (tg:=(cM.nth 3).tg) rfl (rest:=(bY (kq N 4)++12 :: (bY (kq N 5)++0 :: [])).map .int) (hk 3 (by decide)) c12 b2 p2 q2 (by simp)) λa3 ea3 b3 p3 q3=>?_;refine iU (fz (T:=T) (els:=(S.nil).ex Φ1) (tg:=(cM.nth 3).tg) rfl (rest:=(bY (kq N 5)++0 :: []).map .int) (hk 4 (by decide)) c12 b3 p3 q3 (by simp)) λa4 ea4 b4 p4 q4=>?_;refine iU (fz (T:=T) (els:=(S.nil).ex Φ1) (tg:=(cM.nth 3).tg) rfl (rest:=[]) (hk 5 (by decide)) c0 b4 p4 q4 (by simp)) λa5 ea5 b5 p5 q5=>?_;replace b5:=ok 0 (by decide)▸b5;replace b5:=ok 1 (by decide)▸b5;replace b5:=ok 2 (by decide)▸b5;replace b5:=ok 3 (by decide)▸b5;replace b5:=ok 4 (by decide)▸b5;replace b5:=ok 5 (by decide)▸b5;have em:((mT N++[0]).map PV.int)=(bY (kq N 0)).map .int ++ .int 12 :: (bY (kq N 1)++12 :: (bY (kq N 2)++13 :: (bY (kq N 3)++12 :: (bY (kq N 4)++12 :: (bY (kq N 5)++0 :: []))))).map .int:=by unfold mT;simp only[List.append_assoc,List.cons_append,kv,bh]
 have t3:(cM.nth 3).ex Φ1 (bI 11 g) T=some ⟨.next,bI 11 a5,T⟩:=by refine gG (xs:=(mT N++[0]).map .int) (qX (gh (by decide) g1) (q:=.list [.int 0]) rfl (by rw (occs:=.all) [kv];exact vV (by simp;lia)) (gH _) (by simp;show _<=16777216;lia)) ?_;rw[em];simp only[kv,bh,List.map_nil]at ea0 ea1 ea2 ea3 ea4 ea5 ⊢;exact ea0.trans (ea1.trans (ea2.trans (ea3.trans (ea4.trans (ea5.trans rfl)))))
 have t4:(cM.nth 4).ex Φ1 (bI 11 a5) T=some ⟨.ret (.view ((dZ (cls N)).map λm=>iN m)),bI 11 a5,T⟩:=wL (gh (by decide) b5);have e:cM.ex Φ1 (bI 11 f0) T=_:=aE t0 (aE t1 (aE t2 (aE t3 (i5 t4))));show(aq (List.replicate 11 none) (ir.map λi=>(i,⟨0,0,0,0⟩)) [.str (cY N)]).bind (λσ=>(cM.ex Φ1 σ T).bind λo=>match o.fl with
  |.ret p=>some (dD p,o.T)
  |.next=>some (.none,o.T)
  |.brk=>none)=_
 rw[show aq (List.replicate 11 none) (ir.map λi=>(i,⟨0,0,0,0⟩)) [.str (cY N)]=some (bI 11 f0) by rw[hf0.symm];rfl];refine(?_:(cM.ex Φ1 _ T).bind _=_);rw[e];refine(?_:some (PV.list (bd ((dZ (cls N)).map λm=>iN m)),T)=_);rw[lc ..];rfl
theorem pr{Φ:fA}{σ σ':aF}{T T1:aC}{ts:List (Nat×Pos)}{k:Nat}{tp pos:Pos}{e:E}{ps:List PV}(h:(e.sm Φ).ev σ T=some (.tuple ps,T1))(h2:aq σ ts ps=some σ'):(S.unpack ts k tp e pos).ex Φ σ T=some ⟨.next,σ',T1⟩:=by refine(?_:((e.sm Φ).ev σ T).bind _=_);rw[h];refine(?_:(aq σ ts ps).map _=_);rw[h2];rfl
theorem Aw{k:Nat}(h:k<3):kn (.tuple [.tuple [.int 8,.str (sx "ITERABLE_COROUTINE ASYNC_GENERATOR 0x400 0x800")],.tuple [.int 29,.str (sx "0x20000000 0x40000000 0x80000000 0x100000000")],.tuple [.int 0,.str (sx "OPTIMIZED NEWLOCALS VARARGS VARKEYWORDS")]]) (iN k)=some (.tuple [iN (iK k),.str (oE k)]):=by
 match k,h with
 |0,_=>rfl
 |1,_=>rfl
 |2,_=>rfl
theorem Az(xs:List Int)(hl:xs.length<=cap):xr (xs.map .int):=by
 refine Ht (zg xs hl []) λN us r us1 us2 us3 hd=>?_;have hk:kindN r<3:=cX _ (by decide);generalize kindN r=k at hd hk;refine cL (uH N r) λhb hv=>?_;generalize hf:aW (λ_=>none) 0 (some (.val (.arg (xs.map .int))))=f;have f0:f 0=some (.val (.arg (xs.map .int))):=by rw[hf.symm];rfl
 have t0:(i6.nth 0).ex Φ2 (az f) []=some ⟨.next,az (aW (aW (aW (aW (aW f 1 (some (.val (cG (dZ (cls N)))))) 2 (some (.val (.str (cY N))))) 3 (some (.val (.bytes (AF N r))))) 4 (some (.val (.list (us.map λm=>iN m))))) 5 (aN k)),[]⟩:=by refine pr (fU (ps:=[.arg (xs.map .int)]) (aL (aa (by decide) f0) ac) (by show(aA (xs.map .int)&&true)=true;rw[gH ..];rfl) hd) ?_;refine(?_:aw (clean (cG (dZ (cls N)))) (aw true (aw true (aw (aA (us.map λm=>iN m)) (aw true (some ((((((az f).set 1 _).set 2 _).set 3 _).set 4 _).set 5 _))))))=_);rewrite[aM (λ_=>rfl)];rw[dI ..];rw[dI ..];rw[dI ..];rw[dI ..];rw[dI ..];rfl
 generalize hf1:aW (aW (aW (aW (aW f 1 (some (.val (cG (dZ (cls N)))))) 2 (some (.val (.str (cY N))))) 3 (some (.val (.bytes (AF N r))))) 4 (some (.val (.list (us.map λm=>iN m))))) 5 (aN k)=f1 at t0;have f15:f1 5=aN k:=by rw[hf1.symm];rfl
 have t1:(i6.nth 1).ex Φ2 (az f1) []=some ⟨.next,az (aW (aW f1 6 (aN (iK k))) 7 (some (.val (.str (oE k))))),[]⟩:=by refine pr (bg rfl (aa (by decide) f15) (Aw hk)) ?_;refine(?_:aw true (aw true (some (((az f1).set 6 _).set 7 _)))=_);rw[dI ..];rw[dI ..];rfl
 have e1:i6.ex Φ2 (az f) []=some ⟨.next,az (aW (aW f1 6 (aN (iK k))) 7 (some (.val (.str (oE k))))),[]⟩:=aE t0 (aE (b:=.nil) t1 rfl);generalize hf2:aW (aW f1 6 (aN (iK k))) 7 (some (.val (.str (oE k))))=f2 at e1;have m1:f2 1=some (.val (cG (dZ (cls N)))):=by rw[hf2.symm];rw[hf1.symm];rfl
 have m2:f2 2=some (.val (.str (cY N))):=by rw[hf2.symm];rw[hf1.symm];rfl
 have m3:f2 3=some (.val (.bytes (AF N r))):=by rw[hf2.symm];rw[hf1.symm];rfl
 have m4:f2 4=some (.val (.list (us.map λm=>iN m))):=by rw[hf2.symm];rw[hf1.symm];rfl
 have m6:f2 6=aN (iK k):=by rw[hf2.symm];rfl
 have m7:f2 7=some (.val (.str (oE k))):=by rw[hf2.symm];rfl
 refine eV (DP (wd:=wM k) (c:=cls N) (us:=us) (text:=cY N) (f:=aW (aW (aW f2 9 (some (.val (cG (dZ (cls N)))))) 10 (some (.val (cu (wM k))))) 11 (some (.val .tab))) (wz hk) (G3 N) us2 (by lia) us3 m1 m2 m4 rfl rfl rfl (En hk m7) (Ap N [])) λσ2 T2 e3=>?_;refine⟨az f2,AF N r,dk (dZ (cls N)),(List.range 16).map λv=>.str (wM k v),σ2,T2,?_,?_,hb,hv,Cw hk m6,(wz hk).cl,?_⟩
 ·rw[show(List.replicate 51 none).set 0 (some (.val (.arg (xs.map .int))))=az f by rw[hf.symm];rfl];exact e1
 ·rw[mP f2 (by decide)];exact m3
 ·rw[dI ..];rw[dI ..];rw[dI ..];rw[show(dk (dZ (cls N))).map PV.int=(dZ (cls N)).map λm=>iN m from rfl];exact e3
noncomputable def jd(tb:String->Option Builtin)(prog:Program)(w:World):Nat->SharedT->Thread->Option SharedT
 |0,_,_=>none
 |n+1,s,t=>match t.atExitBegin with
  |some []=>some s
  |some (_ :: _)=>none
  |none=>match stepT (denote tb) prog w s t with
   |some (s',t')=>jd tb prog w n s' t'
   |none=>none
theorem rB{tb:String->Option Builtin}{p:Program}{w:World}:∀{n:Nat} {s s':SharedT} {t:Thread},jd tb p w n s t=some s'->importEnds tb p w n s.abs t=some s'.abs
 |0,_,_,_,h=>nS h
 |n+1,s,s',t,h=>by
  unfold jd at h;unfold importEnds;cases he:t.atExitBegin with
  |some l=>replace h:=he▸h;cases l<;>cases h;rfl
  |none=>
   replace h:=he▸h;cases hs:stepT (denote tb) p w s t with
   |none=>replace h:=hs▸h;exact nS h
   |some r=>obtain⟨s₂,t₂⟩:=r;replace h:=hs▸h;dsimp only;rw[stepT_spec hs];exact rB h
noncomputable def uK(tb:String->Option Builtin)(p:Program)(w:World)(n₀:Nat)(ann:Option Value):Nat->SharedT->Thread->Option SharedT
 |0,_,_=>none
 |n+1,s,t=>match through t with
  |true=>some s
  |false=>match stepOk n₀ ann t with
   |false=>none
   |true=>match stepT (denote tb) p w s t with
    |some (s',t')=>uK tb p w n₀ ann n s' t'
    |none=>none
theorem zQ{tb:String->Option Builtin}{p:Program}{w:World}{n₀:Nat}{ann:Option Value}:∀{n:Nat} {s s':SharedT} {t:Thread},uK tb p w n₀ ann n s t=some s'->topRun tb p w n₀ ann n s.abs t=some s'.abs
 |0,_,_,_,h=>nS h
 |n+1,s,s',t,h=>by
  unfold uK at h;unfold topRun;cases he:through t with
  |true=>replace h:=he▸h;replace h:=iS h;subst h;rfl
  |false=>
   replace h:=he▸h;cases hk:stepOk n₀ ann t with
   |false=>replace h:=hk▸h;exact nS h
   |true=>
    replace h:=hk▸h;cases hs:stepT (denote tb) p w s t with
    |none=>replace h:=hs▸h;exact nS h
    |some r=>obtain⟨s₂,t₂⟩:=r;replace h:=hs▸h;dsimp only;rw[stepT_spec hs];exact zQ h
noncomputable def oW:List Obj->Nat->BT->Option BT
 |[],_,t=>some t
 |o :: r,n,t=>match ((t.ins n o).get n).isSome with
  |true=>oW r (n+1) (t.ins n o)
  |false=>none
theorem nZ{life:Life}:∀{L:List Obj} {n:Nat} {t t':BT},oW L n t=some t'->absHeap t' (n+L.length) life=L.foldl Heap.push (absHeap t n life)
 |[],n,t,t',h=>by replace h:=iS h;subst h;rfl
 |o :: r,n,t,t',h=>by
  replace h:(match ((t.ins n o).get n).isSome with|true=>oW r (n+1) (t.ins n o)|false=>none)=some t':=h;cases q:((t.ins n o).get n).isSome with
  |false=>replace h:=q▸h;exact nS h
  |true=>replace h:=q▸h;have e:=nZ (life:=life) h;rw[List.foldl_cons];rw[Eq.symm (absHeap_ins q)];rw[e.symm];rw[lF];rw[show n+(r.length+1)=n+1+r.length by lia];rfl
noncomputable def Jt(s:Shared):Option SharedT:=(oW s.heap.objs.toList 0 .nil).map λt=>⟨t,s.heap.objs.toList.length,s.heap.life,s.gens,s.drawn,s.toks,s.os⟩
theorem pg{life:Life}:∀(L:List Obj) (h:Heap),h.life=life->L.foldl Heap.push h=⟨h.objs++L.toArray,life⟩
 |[],h,e=>by cases h;cases e;simp
 |o :: r,h,e=>by
  rw[List.foldl_cons];rw[pg r (h.push o) e];refine(?_:(⟨h.objs.push o++r.toArray,life⟩:Heap)=_)
  congr 1
  apply Array.ext';simp
theorem IQ{s:Shared}{t:SharedT}(h:Jt s=some t):t.abs=s:=by refine mE h λt' e qq=>?_;subst qq;have e2:=nZ (life:=s.heap.life) e;replace e2:=(Nat.zero_add ..)▸e2;obtain⟨⟨objs,life⟩,gens,drawn,toks,os⟩:=s;refine(?_:Shared.mk (absHeap t' _ _) _ _ _ _=_);rw[e2];rw[pg _ _ rfl];refine(?_:Shared.mk ⟨#[]++objs.toList.toArray,life⟩ _ _ _ _=_);simp
noncomputable abbrev vS(x:String)(t:Nat):Value:=.str (sx x) t
noncomputable abbrev vP(t:Nat):Value:=.str (sx "/claim/cut.py") t
noncomputable abbrev iZ(i:Int):Value:=.int i 0
noncomputable abbrev cJ(l:List Value):Obj:=⟨.type "tuple",none,.seq l.toArray 0,#[]⟩
noncomputable abbrev eQ(c:Value)(l:List Value):Obj:=⟨c,none,.fields l.toArray,#[]⟩
noncomputable abbrev vR(a:Nat):Value:=.ref a
noncomputable abbrev dE(P:Params)(x:String)(t:Nat)(v:Value):DictEntry:=⟨PyData.keyHash P (sx x),.str (sx x) t,v⟩
noncomputable abbrev dB(P:Params)(x:String)(t:Nat):DictEntry:=dE P x t (.builtin x)
noncomputable abbrev dT(P:Params)(x:String)(t:Nat):DictEntry:=dE P x t (.type x)
noncomputable abbrev cO(x y:String)(t:Nat)(l n f g:Int)(v:Nat)(b:Bool)(z:Int)(c d e:Value)(u:Nat):Obj:=eQ (.type "code") [vS x t,vS y (t+1),vP (t+2),iZ l,iZ n,iZ 0,iZ f,iZ g,vR v,.bool b,iZ z,vR (v+1),.none,c,d,e,iZ (.ofNat u),iZ l,vP (u+1)]
noncomputable abbrev fO(x:FuncData):Obj:=⟨.type "function",none,.func x,#[]⟩
noncomputable abbrev gO(x:FuncData):Obj:=⟨.none,none,.func x,#[]⟩
noncomputable abbrev dO(l:List DictEntry)(n:Nat):Obj:=⟨.type "dict",none,.dict l.toArray n,#[]⟩
noncomputable def FQ(i j:Nat):Stmt:=match aK i with
 |.ClassDef _ _ _ body ..=>(body[j]?).getD (.Pass ⟨0,0,0,0⟩)
 |_=>.Pass ⟨0,0,0,0⟩
noncomputable def br(s:Stmt)(qual:Str):FuncData:={ name:=B4 s,qualname:=qual,params:=xP s,body:=.stmts (cP s),scope:=aQ s,globals:=0,closure:=[],defaults:=.none,kwdefaults:=.none }
noncomputable def evs:List Obj->List Obj
 |[]=>[]
 |[x]=>[x]
 |x :: _ :: r=>x :: evs r
noncomputable def JT:List Obj->List Obj
 |[]=>[]
 |[_]=>[]
 |_ :: y :: r=>y :: JT r
noncomputable def DO:Nat->List Obj->BT
 |0,_=>.nil
 |_+1,[]=>.nil
 |n+1,x :: r=>.node x (DO n (evs r)) (DO n (JT r))
noncomputable abbrev lf:Life:={}
noncomputable abbrev dr:Drawn:={}
noncomputable def bB:List Stmt:=behindTheImports pw
noncomputable def env0:Env:={ scope:=pw.main.scope,locals:=mainNs,globals:=mainNs,cells:=[],code:=.ref 30,frame:=some 31 }
noncomputable abbrev cB:Code:=.body bB env0
noncomputable abbrev ou:Option Value:=some (.ref 6)
noncomputable def o1(P:Params):Obj:=dO [dE P "builtins" 162 (vR 4),dE P "__main__" 163 (vR 5),dE P "_sre" 244 (vR 12)] 3
noncomputable def R3(P:Params):List DictEntry:=[
 dE P "__doc__" 166 .none,
 dE P "__package__" 167 .none,
 dE P "__loader__" 168 (.builtin "__main__.__loader__#opaque"),
 dE P "__spec__" 169 .none,
 dE P "__annotations__" 170 (vR 6),
 dE P "__builtins__" 171 (vR 4),
 dE P "__file__" 173 (vP 172),
 dE P "__cached__" 174 .none,
 dE P "_sre" 275 (vR 12),
 dE P "_wall" 288 (vR 38),
 dE P "COMPILER_FLAG_NAMES" 321 (vR 39),
 dE P "pretty_flags" 331 (vR 46),
 dE P "_Unknown" 358 (vR 63),
 dE P "UNKNOWN" 359 (vR 69),
 dE P "_get_name_info" 369 (vR 76),
 dE P "_parse_varint" 378 (vR 83),
 dE P "ENDMARKER" 382 (.int 0 381),
 dE P "LPAR" 384 (.int 7 383),
 dE P "RPAR" 386 (.int 8 385),
 dE P "LSQB" 388 (.int 9 387),
 dE P "RSQB" 390 (.int 10 389),
 dE P "COLON" 392 (.int 11 391),
 dE P "COMMA" 394 (.int 12 393),
 dE P "SEMI" 396 (.int 13 395),
 dE P "PLUS" 398 (.int 14 397),
 dE P "MINUS" 400 (.int 15 399),
 dE P "STAR" 402 (.int 16 401),
 dE P "SLASH" 404 (.int 17 403),
 dE P "VBAR" 406 (.int 18 405),
 dE P "AMPER" 408 (.int 19 407),
 dE P "LESS" 410 (.int 20 409),
 dE P "GREATER" 412 (.int 21 411),
 dE P "EQUAL" 414 (.int 22 413),
 dE P "DOT" 416 (.int 23 415),
 dE P "PERCENT" 418 (.int 24 417),
 dE P "LBRACE" 420 (.int 25 419),
 dE P "RBRACE" 422 (.int 26 421),
 dE P "EQEQUAL" 424 (.int 27 423),
 dE P "NOTEQUAL" 426 (.int 28 425),
 dE P "LESSEQUAL" 428 (.int 29 427),
 dE P "GREATEREQUAL" 430 (.int 30 429),
 dE P "TILDE" 432 (.int 31 431),
 dE P "CIRCUMFLEX" 434 (.int 32 433),
 dE P "LEFTSHIFT" 436 (.int 33 435),
 dE P "RIGHTSHIFT" 438 (.int 34 437),
 dE P "DOUBLESTAR" 440 (.int 35 439),
 dE P "PLUSEQUAL" 442 (.int 36 441),
 dE P "MINEQUAL" 444 (.int 37 443),
 dE P "STAREQUAL" 446 (.int 38 445),
 dE P "SLASHEQUAL" 448 (.int 39 447),
 dE P "PERCENTEQUAL" 450 (.int 40 449),
 dE P "AMPEREQUAL" 452 (.int 41 451),
 dE P "VBAREQUAL" 454 (.int 42 453),
 dE P "CIRCUMFLEXEQUAL" 456 (.int 43 455),
 dE P "LEFTSHIFTEQUAL" 458 (.int 44 457),
 dE P "RIGHTSHIFTEQUAL" 460 (.int 45 459),
 dE P "DOUBLESTAREQUAL" 462 (.int 46 461),
 dE P "DOUBLESLASH" 464 (.int 47 463),
 dE P "DOUBLESLASHEQUAL" 466 (.int 48 465),
 dE P "AT" 468 (.int 49 467),
 dE P "ATEQUAL" 470 (.int 50 469),
 dE P "RARROW" 472 (.int 51 471),
 dE P "ELLIPSIS" 474 (.int 52 473),
 dE P "COLONEQUAL" 476 (.int 53 475),
 dE P "EXCLAMATION" 478 (.int 54 477),
 dE P "NT_OFFSET" 480 (.int 256 479),
 dE P "EXACT_TOKEN_TYPES" 577 (vR 84),
 dE P "ISTERMINAL" 584 (vR 93),
 dE P "ISNONTERMINAL" 591 (vR 100),
 dE P "ISEOF" 598 (vR 107),
 dE P "_name_disallowed_re" 626 (vR 112),
 dE P "_value_disallowed_re" 660 (vR 117),
 dE P "Headers" 817 (vR 240),
 dE P "_law_drawn" 825 (vR 249),
 dE P "_law_read" 831 (vR 254),
 dE P "_law_numbers" 841 (vR 261),
 dE P "_law_words" 847 (vR 266),
 dE P "_law_masks" 853 (vR 271),
 dE P "_law_resolved" 859 (vR 276),
 dE P "law" 865 (vR 281)]
noncomputable def DW(P:Params)(x:String)(t n:Nat):Obj:=⟨.type "dict",none,.dict (dE P "__name__" 165 (vS x t) :: (R3 P).take n).toArray (n+1),#[]⟩
noncomputable def o3(P:Params):Obj:=DW P "__main__" 164 9
noncomputable def J2:Obj:=eQ .none []
noncomputable def n0:Nat:=32
noncomputable def k0:Nat:=282
noncomputable def p0:Pos:=⟨0,0,0,0⟩
noncomputable def JK(P:Params):Obj:=DW P "cpy313.dis" 289 10
noncomputable def HZ:List Value:=[iZ 2,iZ 0,vR 37,iZ 7,iZ 0,vR 45,iZ 19,iZ 0,vR 52,iZ 24,iZ 0,vR 75,iZ 30,iZ 0,vR 82,iZ 90,iZ 0,vR 92,iZ 92,iZ 0,vR 99,iZ 94,iZ 0,vR 106,iZ 99,iZ 0,vR 123,iZ 175,iZ 0,vR 248,iZ 193,iZ 0,vR 253,iZ 213,iZ 0,vR 260,iZ 221,iZ 0,vR 265,iZ 224,iZ 0,vR 270,iZ 227,iZ 0,vR 275,iZ 244,iZ 0,vR 280]
noncomputable def FZ:Obj:=eQ .none (HZ.take 3)
noncomputable def n1:Nat:=39
noncomputable def k1:Nat:=291
noncomputable def p1:Pos:=⟨5,0,5,8⟩
noncomputable def m1:Nat:=39
noncomputable def g1:List Stmt:=(bB.drop 0).take 2
noncomputable def Ix(P:Params):Obj:=DW P "cpy313.dis" 289 11
noncomputable def GJ(P:Params):Obj:=dO [⟨1,.int 1 291,vS "OPTIMIZED" 292⟩,⟨2,.int 2 293,vS "NEWLOCALS" 294⟩,⟨4,.int 4 295,vS "VARARGS" 296⟩,⟨8,.int 8 297,vS "VARKEYWORDS" 298⟩,⟨16,.int 16 299,vS "NESTED" 300⟩,⟨32,.int 32 301,vS "GENERATOR" 302⟩,⟨64,.int 64 303,vS "NOFREE" 304⟩,⟨128,.int 128 305,vS "COROUTINE" 306⟩,⟨256,.int 256 307,vS "ITERABLE_COROUTINE" 308⟩,⟨512,.int 512 309,vS "ASYNC_GENERATOR" 310⟩] 10
noncomputable def n2:Nat:=40
noncomputable def k2:Nat:=322
noncomputable def p2:Pos:=⟨6,0,6,19⟩
noncomputable def m2:Nat:=141
noncomputable def g2:List Stmt:=(bB.drop 2).take 1
noncomputable def Ib(P:Params):Obj:=DW P "cpy313.dis" 289 16
noncomputable def Aj:Obj:=eQ .none (HZ.take 15)
noncomputable def n3:Nat:=84
noncomputable def k3:Nat:=379
noncomputable def p3:Pos:=⟨30,0,37,14⟩
noncomputable def m3:Nat:=371
noncomputable def g3:List Stmt:=(bB.drop 3).take 5
noncomputable def JN(P:Params):Obj:=DW P "cpy313.token" 379 66
noncomputable def n4:Nat:=84
noncomputable def k4:Nat:=481
noncomputable def p4:Pos:=⟨88,0,88,9⟩
noncomputable def m4:Nat:=460
noncomputable def g4:List Stmt:=(bB.drop 8).take 51
noncomputable def Ig(P:Params):Obj:=DW P "cpy313.token" 379 67
noncomputable def EC(P:Params):Obj:=dO [dE P "!" 481 (.int 54 477),dE P "!=" 483 (.int 28 425),dE P "%" 485 (.int 24 417),dE P "%=" 487 (.int 40 449),dE P "&" 489 (.int 19 407),dE P "&=" 491 (.int 41 451),dE P "(" 493 (.int 7 383),dE P ")" 495 (.int 8 385),dE P "*" 497 (.int 16 401),dE P "**" 499 (.int 35 439),dE P "**=" 501 (.int 46 461),dE P "*=" 503 (.int 38 445),dE P "+" 505 (.int 14 397),dE P "+=" 507 (.int 36 441),dE P "," 509 (.int 12 393),dE P "-" 511 (.int 15 399),dE P "-=" 513 (.int 37 443),dE P "->" 515 (.int 51 471),dE P "." 517 (.int 23 415),dE P "..." 519 (.int 52 473),dE P "/" 521 (.int 17 403),dE P "//" 523 (.int 47 463),dE P "//=" 525 (.int 48 465),dE P "/=" 527 (.int 39 447),dE P ":" 529 (.int 11 391),dE P ":=" 531 (.int 53 475),dE P ";" 533 (.int 13 395),dE P "<" 535 (.int 20 409),dE P "<<" 537 (.int 33 435),dE P "<<=" 539 (.int 44 457),dE P "<=" 541 (.int 29 427),dE P "=" 543 (.int 22 413),dE P "==" 545 (.int 27 423),dE P ">" 547 (.int 21 411),dE P ">=" 549 (.int 30 429),dE P ">>" 550 (.int 34 437),dE P ">>=" 551 (.int 45 459),dE P "@" 552 (.int 49 467),dE P "@=" 553 (.int 50 469),dE P "[" 554 (.int 9 387),dE P "]" 555 (.int 10 389),dE P "^" 556 (.int 32 433),dE P "^=" 557 (.int 43 455),dE P "{" 558 (.int 25 419),dE P "|" 559 (.int 18 405),dE P "|=" 560 (.int 42 453),dE P "}" 561 (.int 26 421),dE P "~" 562 (.int 31 431)] 48
noncomputable def n5:Nat:=87
noncomputable def k5:Nat:=578
noncomputable def p5:Pos:=⟨89,0,89,17⟩
noncomputable def m5:Nat:=979
noncomputable def g5:List Stmt:=(bB.drop 59).take 1
noncomputable def Il(P:Params):Obj:=DW P "cpy313.wsgiref.headers" 599 72
noncomputable def HQ:Obj:=eQ .none (HZ.take 24)
noncomputable def CT(P:Params):Obj:=cJ [iZ 14,iZ 10,iZ 4,iZ 1,iZ 1,iZ 22,iZ 0,iZ 31,iZ 16,iZ 127,iZ 0,iZ 13,iZ 7,iZ 22,iZ 0,iZ 31,iZ 16,iZ 127,iZ 0,iZ 1]
noncomputable def Fu(P:Params):Obj:=eQ (.type "re.Pattern") [vS "[\\x00-\\x1F\\x7F]" 602,.int 32 625,iZ 0,.none,.none,vR 111,iZ 0]
noncomputable def AU(P:Params):Obj:=cJ [iZ 14,iZ 14,iZ 4,iZ 1,iZ 1,iZ 9,iZ 4294966783,iZ 0,iZ 0,iZ 2147483648,iZ 0,iZ 0,iZ 0,iZ 0,iZ 0,iZ 13,iZ 11,iZ 9,iZ 4294966783,iZ 0,iZ 0,iZ 2147483648,iZ 0,iZ 0,iZ 0,iZ 0,iZ 0,iZ 1]
noncomputable def Gz(P:Params):Obj:=eQ (.type "re.Pattern") [vS "[\\x00-\\x08\\x0A-\\x1F\\x7F]" 628,.int 32 659,iZ 0,.none,.none,vR 116,iZ 0]
noncomputable def n6:Nat:=118
noncomputable def k6:Nat:=661
noncomputable def p6:Pos:=⟨98,0,98,20⟩
noncomputable def m6:Nat:=243
noncomputable def g6:List Stmt:=(bB.drop 60).take 6
noncomputable def Im(P:Params):Obj:=DW P "cpy313.wsgiref.headers" 599 73
noncomputable def Hj:Obj:=eQ .none (HZ.take 27)
noncomputable def G0(P:Params):Obj:=cJ [.none]
noncomputable def Gx(P:Params):Obj:=cJ [.none]
noncomputable def n7:Nat:=245
noncomputable def k7:Nat:=818
noncomputable def p7:Pos:=⟨99,0,173,16⟩
noncomputable def m7:Nat:=729
noncomputable def g7:List Stmt:=(bB.drop 66).take 1
noncomputable def JE(P:Params):Obj:=DW P "law_ta0088_02" 818 80
noncomputable def Hq:Obj:=eQ .none HZ
noncomputable def n8:Nat:=282
noncomputable def k8:Nat:=866
noncomputable def p8:Pos:=⟨244,0,278,15⟩
noncomputable def m8:Nat:=198
noncomputable def g8:List Stmt:=(bB.drop 67).take 8
noncomputable def L8(P:Params):List Obj:=[
 dO [dE P "__name__" 1 (vS "builtins" 160),dE P "__doc__" 2 (.builtin "builtins.__doc__:str#opaque"),dE P "__package__" 3 (.builtin "builtins.__package__:str#opaque"),dE P "__loader__" 4 (.builtin "builtins.__loader__:shared#opaque"),dE P "__spec__" 5 (.builtin "builtins.__spec__#opaque"),dB P "__build_class__" 6,dB P "__import__" 7,dB P "abs" 8,dB P "all" 9,dB P "any" 10,dB P "ascii" 11,dB P "bin" 12,dB P "breakpoint" 13,dB P "callable" 14,dB P "chr" 15,dB P "compile" 16,dB P "delattr" 17,dB P "dir" 18,dB P "divmod" 19,dB P "eval" 20,dB P "exec" 21,dB P "format" 22,dB P "getattr" 23,dB P "globals" 24,dB P "hasattr" 25,dB P "hash" 26,dB P "hex" 27,dB P "id" 28,dB P "input" 29,dB P "isinstance" 30,dB P "issubclass" 31,dB P "iter" 32,dB P "aiter" 33,dB P "len" 34,dB P "locals" 35,dB P "max" 36,dB P "min" 37,dB P "next" 38,dB P "anext" 39,dB P "oct" 40,dB P "ord" 41,dB P "pow" 42,dB P "print" 43,dB P "repr" 44,dB P "round" 45,dB P "setattr" 46,dB P "sorted" 47,dB P "sum" 48,dB P "vars" 49,dE P "None" 50 .none,dE P "Ellipsis" 51 .ellipsis,dE P "NotImplemented" 52 .notImplemented,dE P "False" 53 (.bool false),dE P "True" 54 (.bool true),dT P "bool" 55,dT P "memoryview" 56,dT P "bytearray" 57,dT P "bytes" 58,dT P "classmethod" 59,dT P "complex" 60,dT P "dict" 61,dT P "enumerate" 62,dT P "filter" 63,dT P "float" 64,dT P "frozenset" 65,dT P "property" 66,dT P "int" 67,dT P "list" 68,dT P "map" 69,dT P "object" 70,dT P "range" 71,dT P "reversed" 72,dT P "set" 73,dT P "slice" 74,dT P "staticmethod" 75,dT P "str" 76,dT P "super" 77,dT P "tuple" 78,dT P "type" 79,dT P "zip" 80,dE P "__debug__" 81 (.bool true),dT P "BaseException" 82,dT P "BaseExceptionGroup" 83,dT P "Exception" 84,dT P "GeneratorExit" 85,dT P "KeyboardInterrupt" 86,dT P "SystemExit" 87,dT P "ArithmeticError" 88,dT P "AssertionError" 89,dT P "AttributeError" 90,dT P "BufferError" 91,dT P "EOFError" 92,dT P "ImportError" 93,dT P "LookupError" 94,dT P "MemoryError" 95,dT P "NameError" 96,dT P "OSError" 97,dT P "ReferenceError" 98,dT P "RuntimeError" 99,dT P "StopAsyncIteration" 100,dT P "StopIteration" 101,dT P "SyntaxError" 102,dT P "SystemError" 103,dT P "TypeError" 104,dT P "ValueError" 105,dT P "Warning" 106,dT P "FloatingPointError" 107,dT P "OverflowError" 108,dT P "ZeroDivisionError" 109,dT P "BytesWarning" 110,dT P "DeprecationWarning" 111,dT P "EncodingWarning" 112,dT P "FutureWarning" 113,dT P "ImportWarning" 114,dT P "PendingDeprecationWarning" 115,dT P "ResourceWarning" 116,dT P "RuntimeWarning" 117,dT P "SyntaxWarning" 118,dT P "UnicodeWarning" 119,dT P "UserWarning" 120,dT P "BlockingIOError" 121,dT P "ChildProcessError" 122,dT P "ConnectionError" 123,dT P "FileExistsError" 124,dT P "FileNotFoundError" 125,dT P "InterruptedError" 126,dT P "IsADirectoryError" 127,dT P "NotADirectoryError" 128,dT P "PermissionError" 129,dT P "ProcessLookupError" 130,dT P "TimeoutError" 131,dT P "IndentationError" 132,dT P "_IncompleteInputError" 133,dT P "IndexError" 134,dT P "KeyError" 135,dT P "ModuleNotFoundError" 136,dT P "NotImplementedError" 137,dT P "PythonFinalizationError" 138,dT P "RecursionError" 139,dT P "UnboundLocalError" 140,dT P "UnicodeError" 141,dT P "BrokenPipeError" 142,dT P "ConnectionAbortedError" 143,dT P "ConnectionRefusedError" 144,dT P "ConnectionResetError" 145,dT P "TabError" 146,dT P "UnicodeDecodeError" 147,dT P "UnicodeEncodeError" 148,dT P "UnicodeTranslateError" 149,dT P "ExceptionGroup" 150,dE P "EnvironmentError" 151 (.type "OSError"),dE P "IOError" 152 (.type "OSError"),dB P "open" 153,dE P "quit" 154 (.builtin "builtins.quit#opaque"),dE P "exit" 155 (.builtin "builtins.exit#opaque"),dE P "copyright" 156 (.builtin "builtins.copyright#opaque"),dE P "credits" 157 (.builtin "builtins.credits#opaque"),dE P "license" 158 (.builtin "builtins.license#opaque"),dE P "help" 159 (.builtin "builtins.help#opaque")] 159,
 o1 P,
 ⟨.none,none,.dict [dE P "impor\x74.loaded._sre" 183 (.bool true),dE P "class._frozen_importlib.BuiltinImporter" 185 (vR 14),dE P "watched.impor\x74" 206 (vR 18),dE P "class._frozen_importlib.ModuleSpec" 216 (vR 22),dE P "sys.modules.booked-epoch" 245 (iZ 3),dE P "impor\x74.later-laid._sre" 270 (.bool true),dE P "watched.library" 272 (vR 27),dE P "watched.library-objects" 0 (.str ⟨#[12]⟩ 0),dE P "watched.library-deep._sre" 273 (.str ⟨#[4,0,0,11,4,0,0,11,4,0,0,3,4,0,0,11,8,4,100,105,99,116,2]⟩ 0)].toArray 9,#[]⟩,
 JE P,
 ⟨.type "module",some 0,.plain,#[]⟩,
 ⟨.type "module",some 3,.plain,#[]⟩,
 dO [] 0,
 cJ [],
 eQ .none [],
 cO "<module>" "<module>" 176 1 0 0 0 7 false 175 .none .none .none 179,
 ⟨.type "frame",none,.plain,#[some (vR 9),some (vR 3),some (vR 3),none,some (vS "__main__" 164),none,some (vR 0)]⟩,
 dO [dE P "__name__" 247 (vS "_sre" 246),dE P "__doc__" 248 .none,dE P "__package__" 250 (vS "" 249),dE P "__loader__" 251 (.builtin "off-the-table:_sre.__loader__:shared#opaque"),dE P "__spec__" 252 (.builtin "off-the-table:_sre.__spec__:shared#opaque"),dE P "compile" 253 (.builtin "_sre.compile"),dE P "template" 254 (.builtin "off-the-table:_sre.template:shared#opaque"),dE P "getcodesize" 255 (.builtin "off-the-table:_sre.getcodesize:shared#opaque"),dE P "ascii_iscased" 256 (.builtin "off-the-table:_sre.ascii_iscased:shared#opaque"),dE P "unicode_iscased" 257 (.builtin "off-the-table:_sre.unicode_iscased:shared#opaque"),dE P "ascii_tolower" 258 (.builtin "off-the-table:_sre.ascii_tolower:shared#opaque"),dE P "unicode_tolower" 259 (.builtin "off-the-table:_sre.unicode_tolower:shared#opaque"),dE P "MAGIC" 261 (.int 20230612 260),dE P "CODESIZE" 263 (.int 4 262),dE P "MAXREPEAT" 265 (.int 4294967295 264),dE P "MAXGROUPS" 267 (.int 1073741823 266),dE P "copyright" 269 (vS " SRE 2.2.2 Copyright (c) 1997-2002 by Secret Labs AB " 268)] 17,
 ⟨.type "module",some 11,.plain,#[]⟩,
 dO [dE P "__module__" 189 (vS "_frozen_importlib" 186),dE P "__firstlineno__" 190 (.int 971 187),dE P "__doc__" 191 (.builtin "_frozen_importlib.BuiltinImporter.__doc__:str#opaque"),dE P "_ORIGIN" 192 (vS "built-in" 188),dE P "find_spec" 193 (.builtin "_frozen_importlib.BuiltinImporter.find_spec#opaque"),dE P "create_module" 194 (.builtin "_frozen_importlib.BuiltinImporter.create_module#opaque"),dE P "exec_module" 195 (.builtin "_frozen_importlib.BuiltinImporter.exec_module#opaque"),dE P "get_code" 196 (.builtin "_frozen_importlib.BuiltinImporter.get_code#opaque"),dE P "get_source" 197 (.builtin "_frozen_importlib.BuiltinImporter.get_source#opaque"),dE P "is_package" 198 (.builtin "_frozen_importlib.BuiltinImporter.is_package#opaque"),dE P "load_module" 199 (.builtin "_frozen_importlib.BuiltinImporter.load_module#opaque"),dE P "__static_attributes__" 200 (vR 15),dE P "__dict__" 202 (vR 16),dE P "__weakref__" 204 (vR 17)] 14,
 ⟨.type "type",none,.cls ⟨sx "BuiltinImporter",[.type "object"],[vR 14,.type "object"],13,sx "BuiltinImporter",true,[],[],false,none,false⟩,#[]⟩,
 cJ [],
 eQ (.type "getset_descriptor") [vS "__dict__" 201,vR 14,.builtin "function.__dict__",.builtin "function.__dict__#set"],
 eQ (.type "getset_descriptor") [vS "__weakref__" 203,vR 14,.builtin "ExceptionGroup.__weakref__",.none],
 ⟨.none,none,.seq [iZ 13,(.str ⟨#[6,189,10,95,95,109,111,100,117,108,101,95,95,6,186,17,95,102,114,111,122,101,110,95,105,109,112,111,114,116,108,105,98,6,190,15,95,95,102,105,114,115,116,108,105,110,101,110,111,95,95,4,187,0,971,6,191,7,95,95,100,111,99,95,95,9,52,95,102,114,111,122,101,110,95,105,109,112,111,114,116,108,105,98,46,66,117,105,108,116,105,110,73,109,112,111,114,116,101,114,46,95,95,100,111,99,95,95,58,115,116,114,35,111,112,97,113,117,101,6,192,7,95,79,82,73,71,73,78,6,188,8,98,117,105,108,116,45,105,110,6,193,9,102,105,110,100,95,115,112,101,99,9,50,95,102,114,111,122,101,110,95,105,109,112,111,114,116,108,105,98,46,66,117,105,108,116,105,110,73,109,112,111,114,116,101,114,46,102,105,110,100,95,115,112,101,99,35,111,112,97,113,117,101,6,194,13,99,114,101,97,116,101,95,109,111,100,117,108,101,9,54,95,102,114,111,122,101,110,95,105,109,112,111,114,116,108,105,98,46,66,117,105,108,116,105,110,73,109,112,111,114,116,101,114,46,99,114,101,97,116,101,95,109,111,100,117,108,101,35,111,112,97,113,117,101,6,195,11,101,120,101,99,95,109,111,100,117,108,101,9,52,95,102,114,111,122,101,110,95,105,109,112,111,114,116,108,105,98,46,66,117,105,108,116,105,110,73,109,112,111,114,116,101,114,46,101,120,101,99,95,109,111,100,117,108,101,35,111,112,97,113,117,101,6,196,8,103,101,116,95,99,111,100,101,9,49,95,102,114,111,122,101,110,95,105,109,112,111,114,116,108,105,98,46,66,117,105,108,116,105,110,73,109,112,111,114,116,101,114,46,103,101,116,95,99,111,100,101,35,111,112,97,113,117,101,6,197,10,103,101,116,95,115,111,117,114,99,101,9,51,95,102,114,111,122,101,110,95,105,109,112,111,114,116,108,105,98,46,66,117,105,108,116,105,110,73,109,112,111,114,116,101,114,46,103,101,116,95,115,111,117,114,99,101,35,111,112,97,113,117,101,6,198,10,105,115,95,112,97,99,107,97,103,101,9,51,95,102,114,111,122,101,110,95,105,109,112,111,114,116,108,105,98,46,66,117,105,108,116,105,110,73,109,112,111,114,116,101,114,46,105,115,95,112,97,99,107,97,103,101,35,111,112,97,113,117,101,6,199,11,108,111,97,100,95,109,111,100,117,108,101,9,52,95,102,114,111,122,101,110,95,105,109,112,111,114,116,108,105,98,46,66,117,105,108,116,105,110,73,109,112,111,114,116,101,114,46,108,111,97,100,95,109,111,100,117,108,101,35,111,112,97,113,117,101,6,200,21,95,95,115,116,97,116,105,99,95,97,116,116,114,105,98,117,116,101,115,95,95,4,0,0,15,6,202,8,95,95,100,105,99,116,95,95,4,0,0,16,6,204,11,95,95,119,101,97,107,114,101,102,95,95,4,0,0,17]⟩ 0),.bool true,.bool true,vS "" 205,iZ 21,(.str ⟨#[6,227,10,95,95,109,111,100,117,108,101,95,95,6,217,17,95,102,114,111,122,101,110,95,105,109,112,111,114,116,108,105,98,6,228,15,95,95,102,105,114,115,116,108,105,110,101,110,111,95,95,4,218,0,562,6,229,7,95,95,100,111,99,95,95,9,47,95,102,114,111,122,101,110,95,105,109,112,111,114,116,108,105,98,46,77,111,100,117,108,101,83,112,101,99,46,95,95,100,111,99,95,95,58,115,116,114,35,111,112,97,113,117,101,6,230,8,95,95,105,110,105,116,95,95,9,44,95,102,114,111,122,101,110,95,105,109,112,111,114,116,108,105,98,46,77,111,100,117,108,101,83,112,101,99,46,95,95,105,110,105,116,95,95,35,111,112,97,113,117,101,6,231,8,95,95,114,101,112,114,95,95,9,44,95,102,114,111,122,101,110,95,105,109,112,111,114,116,108,105,98,46,77,111,100,117,108,101,83,112,101,99,46,95,95,114,101,112,114,95,95,35,111,112,97,113,117,101,6,232,6,95,95,101,113,95,95,9,42,95,102,114,111,122,101,110,95,105,109,112,111,114,116,108,105,98,46,77,111,100,117,108,101,83,112,101,99,46,95,95,101,113,95,95,35,111,112,97,113,117,101,6,233,6,99,97,99,104,101,100,9,42,95,102,114,111,122,101,110,95,105,109,112,111,114,116,108,105,98,46,77,111,100,117,108,101,83,112,101,99,46,99,97,99,104,101,100,35,111,112,97,113,117,101,6,234,6,112,97,114,101,110,116,9,42,95,102,114,111,122,101,110,95,105,109,112,111,114,116,108,105,98,46,77,111,100,117,108,101,83,112,101,99,46,112,97,114,101,110,116,35,111,112,97,113,117,101,6,235,12,104,97,115,95,108,111,99,97,116,105,111,110,9,48,95,102,114,111,122,101,110,95,105,109,112,111,114,116,108,105,98,46,77,111,100,117,108,101,83,112,101,99,46,104,97,115,95,108,111,99,97,116,105,111,110,35,111,112,97,113,117,101,6,236,21,95,95,115,116,97,116,105,99,95,97,116,116,114,105,98,117,116,101,115,95,95,4,0,0,23,6,238,8,95,95,100,105,99,116,95,95,4,0,0,24,6,240,11,95,95,119,101,97,107,114,101,102,95,95,4,0,0,25,6,241,8,95,95,104,97,115,104,95,95,0]⟩ 0),.bool true,.bool true,vS "" 242].toArray 1,#[]⟩,
 ⟨.type "list",none,.seq [].toArray 0,#[]⟩,
 dO [dE P "name" 208 (vS "_sre" 207),dE P "loader" 209 (vR 14),dE P "origin" 210 (vS "built-in" 184),dE P "loader_state" 211 .none,dE P "submodule_search_locations" 212 .none,dE P "_uninitialized_submodules" 213 (vR 19),dE P "_set_fileattr" 214 (.bool false),dE P "_cached" 215 .none,dE P "_initializing" 243 (.bool false)] 9,
 dO [dE P "__module__" 227 (vS "_frozen_importlib" 217),dE P "__firstlineno__" 228 (.int 562 218),dE P "__doc__" 229 (.builtin "_frozen_importlib.ModuleSpec.__doc__:str#opaque"),dE P "__init__" 230 (.builtin "_frozen_importlib.ModuleSpec.__init__#opaque"),dE P "__repr__" 231 (.builtin "_frozen_importlib.ModuleSpec.__repr__#opaque"),dE P "__eq__" 232 (.builtin "_frozen_importlib.ModuleSpec.__eq__#opaque"),dE P "cached" 233 (.builtin "_frozen_importlib.ModuleSpec.cached#opaque"),dE P "parent" 234 (.builtin "_frozen_importlib.ModuleSpec.parent#opaque"),dE P "has_location" 235 (.builtin "_frozen_importlib.ModuleSpec.has_location#opaque"),dE P "__static_attributes__" 236 (vR 23),dE P "__dict__" 238 (vR 24),dE P "__weakref__" 240 (vR 25),dE P "__hash__" 241 .none] 13,
 ⟨.type "type",none,.cls ⟨sx "ModuleSpec",[.type "object"],[vR 22,.type "object"],21,sx "ModuleSpec",true,[],[],false,none,false⟩,#[]⟩,
 cJ [vS "_cached" 219,vS "_set_fileattr" 220,vS "_uninitialized_submodules" 221,vS "loader" 222,vS "loader_state" 223,vS "name" 224,vS "origin" 225,vS "submodule_search_locations" 226],
 eQ (.type "getset_descriptor") [vS "__dict__" 237,vR 22,.builtin "function.__dict__",.builtin "function.__dict__#set"],
 eQ (.type "getset_descriptor") [vS "__weakref__" 239,vR 22,.builtin "ExceptionGroup.__weakref__",.none],
 ⟨vR 22,some 20,.plain,#[]⟩,
 ⟨.none,none,.seq [iZ 11,(.str ⟨#[6,247,8,95,95,110,97,109,101,95,95,6,246,4,95,115,114,101,6,248,7,95,95,100,111,99,95,95,0,6,250,11,95,95,112,97,99,107,97,103,101,95,95,6,249,0,6,251,10,95,95,108,111,97,100,101,114,95,95,4,0,0,14,6,252,8,95,95,115,112,101,99,95,95,4,0,0,26,6,253,7,99,111,109,112,105,108,101,9,12,95,115,114,101,46,99,111,109,112,105,108,101,6,254,8,116,101,109,112,108,97,116,101,9,13,95,115,114,101,46,116,101,109,112,108,97,116,101,6,255,11,103,101,116,99,111,100,101,115,105,122,101,9,16,95,115,114,101,46,103,101,116,99,111,100,101,115,105,122,101,6,256,13,97,115,99,105,105,95,105,115,99,97,115,101,100,9,18,95,115,114,101,46,97,115,99,105,105,95,105,115,99,97,115,101,100,6,257,15,117,110,105,99,111,100,101,95,105,115,99,97,115,101,100,9,20,95,115,114,101,46,117,110,105,99,111,100,101,95,105,115,99,97,115,101,100,6,258,13,97,115,99,105,105,95,116,111,108,111,119,101,114,9,18,95,115,114,101,46,97,115,99,105,105,95,116,111,108,111,119,101,114,6,259,15,117,110,105,99,111,100,101,95,116,111,108,111,119,101,114,9,20,95,115,114,101,46,117,110,105,99,111,100,101,95,116,111,108,111,119,101,114,6,261,5,77,65,71,73,67,4,260,0,20230612,6,263,8,67,79,68,69,83,73,90,69,4,262,0,4,6,265,9,77,65,88,82,69,80,69,65,84,4,264,0,4294967295,6,267,9,77,65,88,71,82,79,85,80,83,4,266,0,1073741823,6,269,9,99,111,112,121,114,105,103,104,116,6,268,53,32,83,82,69,32,50,46,50,46,50,32,67,111,112,121,114,105,103,104,116,32,40,99,41,32,49,57,57,55,45,50,48,48,50,32,98,121,32,83,101,99,114,101,116,32,76,97,98,115,32,65,66,32]⟩ 0),.bool true,.bool false,vS "_sre" 271].toArray 0,#[]⟩,
 cJ [],
 Hq,
 cO "<module>" "<module>" 277 1 0 0 0 28 false 276 .none .none .none 280,
 ⟨.type "frame",none,.plain,#[some (vR 30),some (vR 3),some (vR 3),none,some (vS "__main__" 164),none,some (vR 0)]⟩,
 cJ [],
 eQ .none [],
 cJ [vS "k" 285],
 cJ [],
 gO (br (aK 1) (sx "_wall")),
 cO "_wall" "_wall" 282 2 1 0 3 32 true 276 (vR 34) (vR 35) (vR 36) 286,
 fO (am (aK 1) (sx "_wall") (sx "__main__") 164 37 .none),
 GJ P,
 cJ [],
 eQ .none [],
 cJ [vS "flags" 325,vS "names" 326,vS "i" 327,vS "flag" 328],
 cJ [],
 gO (br (aK 4) (sx "pretty_flags")),
 cO "pretty_flags" "pretty_flags" 322 7 1 0 3 40 true 276 (vR 42) (vR 43) (vR 44) 329,
 fO (am (aK 4) (sx "pretty_flags") (sx "cpy313.dis") 289 45 .none),
 cJ [],
 eQ (.type "builtin_function_or_method") [.builtin "type.__prepare__",.type "type"],
 dO [dE P "__module__" 339 (vS "cpy313.dis" 289),dE P "__qualname__" 341 (vS "_Unknown" 340),dE P "__firstlineno__" 343 (.int 19 342),dE P "__repr__" 350 (vR 60),dE P "__static_attributes__" 351 (vR 61)] 5,
 cJ [],
 eQ .none [iZ 21,iZ 4,vR 59],
 cO "_Unknown" "_Unknown" 334 19 0 0 0 50 false 276 .none .none .none 337,
 ⟨.type "frame",none,.plain,#[some (vR 52),some (vR 3),some (vR 49),none,some (vS "cpy313.dis" 289),none,some (vR 0)]⟩,
 cJ [],
 eQ .none [],
 cJ [vS "self" 347],
 cJ [],
 gO (br (FQ 5 0) (sx "_Unknown.__repr__")),
 cO "__repr__" "_Unknown.__repr__" 344 21 1 0 3 54 true 276 (vR 56) (vR 57) (vR 58) 348,
 fO (am (FQ 5 0) (sx "_Unknown.__repr__") (sx "cpy313.dis") 289 59 .none),
 cJ [],
 dO [dE P "__module__" 339 (vS "cpy313.dis" 289),dE P "__firstlineno__" 343 (.int 19 342),dE P "__repr__" 350 (vR 60),dE P "__static_attributes__" 351 (vR 61),dE P "__dict__" 353 (vR 64),dE P "__weakref__" 355 (vR 65),dE P "__doc__" 356 .none] 4,
 ⟨.type "type",none,.cls ⟨sx "_Unknown",[.type "object"],[vR 63,.type "object"],62,sx "_Unknown",true,[],[],false,none,false⟩,#[none,none,some (vS "_Unknown" 332),some (vS "_Unknown" 340),some (.builtin "object.__new__"),some (.bool true)]⟩,
 eQ (.type "getset_descriptor") [vS "__dict__" 352,vR 63,.builtin "function.__dict__",.builtin "function.__dict__#set"],
 eQ (.type "getset_descriptor") [vS "__weakref__" 354,vR 63,.builtin "ExceptionGroup.__weakref__",.none],
 eQ (.type "super") [vR 63,vR 63,vR 63],
 eQ (.type "builtin_function_or_method") [.builtin "object.__init_subclass__",vR 63],
 dO [] 0,
 ⟨vR 63,some 68,.plain,#[]⟩,
 cJ [],
 eQ .none [],
 cJ [vS "name_index" 363,vS "get_name" 364,vS "extrainfo" 365,vS "argval" 366],
 cJ [],
 gO (br (aK 7) (sx "_get_name_info")),
 cO "_get_name_info" "_get_name_info" 360 24 2 0 11 70 true 276 (vR 72) (vR 73) (vR 74) 367,
 fO (am (aK 7) (sx "_get_name_info") (sx "cpy313.dis") 289 75 .none),
 cJ [],
 eQ .none [],
 cJ [vS "iterator" 373,vS "b" 374,vS "val" 375],
 cJ [],
 gO (br (aK 8) (sx "_parse_varint")),
 cO "_parse_varint" "_parse_varint" 370 30 1 0 3 77 true 276 (vR 79) (vR 80) (vR 81) 376,
 fO (am (aK 8) (sx "_parse_varint") (sx "cpy313.dis") 289 82 .none),
 EC P,
 dO [dE P "->" 515 (.int 51 471),dE P "." 517 (.int 23 415),dE P "..." 519 (.int 52 473),dE P "/" 521 (.int 17 403),dE P "//" 523 (.int 47 463),dE P "//=" 525 (.int 48 465),dE P "/=" 527 (.int 39 447),dE P ":" 529 (.int 11 391),dE P ":=" 531 (.int 53 475),dE P ";" 533 (.int 13 395),dE P "<" 535 (.int 20 409),dE P "<<" 537 (.int 33 435),dE P "<<=" 539 (.int 44 457),dE P "<=" 541 (.int 29 427),dE P "=" 543 (.int 22 413),dE P "==" 545 (.int 27 423),dE P ">" 547 (.int 21 411)] 17,
 dO [dE P ">=" 549 (.int 30 429),dE P ">>" 550 (.int 34 437),dE P ">>=" 551 (.int 45 459),dE P "@" 552 (.int 49 467),dE P "@=" 553 (.int 50 469),dE P "[" 554 (.int 9 387),dE P "]" 555 (.int 10 389),dE P "^" 556 (.int 32 433),dE P "^=" 557 (.int 43 455),dE P "{" 558 (.int 25 419),dE P "|" 559 (.int 18 405),dE P "|=" 560 (.int 42 453),dE P "}" 561 (.int 26 421),dE P "~" 562 (.int 31 431)] 14,
 cJ [],
 eQ .none [],
 cJ [vS "x" 581],
 cJ [],
 gO (br (aK 61) (sx "ISTERMINAL")),
 cO "ISTERMINAL" "ISTERMINAL" 578 90 1 0 3 87 true 276 (vR 89) (vR 90) (vR 91) 582,
 fO (am (aK 61) (sx "ISTERMINAL") (sx "cpy313.token") 379 92 .none),
 cJ [],
 eQ .none [],
 cJ [vS "x" 588],
 cJ [],
 gO (br (aK 62) (sx "ISNONTERMINAL")),
 cO "ISNONTERMINAL" "ISNONTERMINAL" 585 92 1 0 3 94 true 276 (vR 96) (vR 97) (vR 98) 589,
 fO (am (aK 62) (sx "ISNONTERMINAL") (sx "cpy313.token") 379 99 .none),
 cJ [],
 eQ .none [],
 cJ [vS "x" 595],
 cJ [],
 gO (br (aK 63) (sx "ISEOF")),
 cO "ISEOF" "ISEOF" 592 94 1 0 3 101 true 276 (vR 103) (vR 104) (vR 105) 596,
 fO (am (aK 63) (sx "ISEOF") (sx "cpy313.token") 379 106 .none),
 ⟨.type "list",none,.seq [.int 14 604,.int 10 605,.int 4 606,.int 1 607,.int 1 608,.int 22 609,.int 0 610,.int 31 611,.int 16 612,.int 127 613,.int 0 614,.int 13 615,.int 7 616,.int 22 617,.int 0 618,.int 31 619,.int 16 620,.int 127 621,.int 0 622,.int 1 623].toArray 0,#[]⟩,
 dO [] 0,
 cJ [.none],
 CT P,
 Fu P,
 ⟨.type "list",none,.seq [.int 14 630,.int 14 631,.int 4 632,.int 1 633,.int 1 634,.int 9 635,.int 4294966783 636,.int 0 637,.int 0 638,.int 2147483648 639,.int 0 640,.int 0 641,.int 0 642,.int 0 643,.int 0 644,.int 13 645,.int 11 646,.int 9 647,.int 4294966783 648,.int 0 649,.int 0 650,.int 2147483648 651,.int 0 652,.int 0 653,.int 0 654,.int 0 655,.int 0 656,.int 1 657].toArray 0,#[]⟩,
 dO [] 0,
 cJ [.none],
 AU P,
 Gz P,
 cJ [],
 eQ (.type "builtin_function_or_method") [.builtin "type.__prepare__",.type "type"],
 dO [dE P "__module__" 668 (vS "cpy313.wsgiref.headers" 599),dE P "__qualname__" 670 (vS "Headers" 669),dE P "__firstlineno__" 672 (.int 99 671),dE P "__init__" 682 (vR 132),dE P "_convert_string_type" 692 (vR 139),dE P "__len__" 699 (vR 146),dE P "__setitem__" 708 (vR 153),dE P "__delitem__" 714 (vR 158),dE P "__getitem__" 722 (vR 165),dE P "__contains__" 730 (vR 172),dE P "get_all" 738 (vR 179),dE P "get" 749 (vR 187),dE P "keys" 755 (vR 192),dE P "values" 761 (vR 197),dE P "items" 768 (vR 204),dE P "__repr__" 775 (vR 211),dE P "__str__" 781 (vR 216),dE P "__bytes__" 788 (vR 223),dE P "setdefault" 798 (vR 230),dE P "add_header" 808 (vR 237),dE P "__static_attributes__" 810 (vR 238)] 21,
 cJ [],
 eQ .none [iZ 101,iZ 4,vR 131,iZ 111,iZ 4,vR 138,iZ 119,iZ 4,vR 145,iZ 122,iZ 4,vR 152,iZ 126,iZ 4,vR 157,iZ 130,iZ 4,vR 164,iZ 133,iZ 4,vR 171,iZ 136,iZ 4,vR 178,iZ 139,iZ 4,vR 186,iZ 146,iZ 4,vR 191,iZ 149,iZ 4,vR 196,iZ 152,iZ 4,vR 203,iZ 155,iZ 4,vR 210,iZ 158,iZ 4,vR 215,iZ 161,iZ 4,vR 222,iZ 164,iZ 4,vR 229,iZ 172,iZ 4,vR 236],
 cO "Headers" "Headers" 663 99 0 0 0 121 false 276 .none .none .none 666,
 ⟨.type "frame",none,.plain,#[some (vR 123),some (vR 3),some (vR 120),none,some (vS "cpy313.wsgiref.headers" 599),none,some (vR 0)]⟩,
 G0 P,
 cJ [],
 eQ .none [],
 cJ [vS "self" 676,vS "headers" 677,vS "k" 678,vS "v" 679],
 cJ [],
 gO (br (aG 0) (sx "Headers.__init__")),
 cO "__init__" "Headers.__init__" 673 101 2 0 3 126 true 276 (vR 128) (vR 129) (vR 130) 680,
 fO (am (aG 0) (sx "Headers.__init__") (sx "cpy313.wsgiref.headers") 599 131 (vR 125)),
 cJ [],
 eQ .none [],
 cJ [vS "self" 686,vS "value" 687,vS "name" 688,vS "regex" 689],
 cJ [],
 gO (br (aG 1) (sx "Headers._convert_string_type")),
 cO "_convert_string_type" "Headers._convert_string_type" 683 111 2 1 3 133 true 276 (vR 135) (vR 136) (vR 137) 690,
 fO (am (aG 1) (sx "Headers._convert_string_type") (sx "cpy313.wsgiref.headers") 599 138 .none),
 cJ [],
 eQ .none [],
 cJ [vS "self" 696],
 cJ [],
 gO (br (aG 2) (sx "Headers.__len__")),
 cO "__len__" "Headers.__len__" 693 119 1 0 3 140 true 276 (vR 142) (vR 143) (vR 144) 697,
 fO (am (aG 2) (sx "Headers.__len__") (sx "cpy313.wsgiref.headers") 599 145 .none),
 cJ [],
 eQ .none [],
 cJ [vS "self" 703,vS "name" 704,vS "val" 705],
 cJ [],
 gO (br (aG 3) (sx "Headers.__setitem__")),
 cO "__setitem__" "Headers.__setitem__" 700 122 3 0 3 147 true 276 (vR 149) (vR 150) (vR 151) 706,
 fO (am (aG 3) (sx "Headers.__setitem__") (sx "cpy313.wsgiref.headers") 599 152 .none),
 cJ [],
 eQ .none [],
 gO (br (aG 4) (sx "Headers.__delitem__")),
 cO "__delitem__" "Headers.__delitem__" 709 126 2 0 3 154 true 276 .none .none (vR 156) 712,
 fO (am (aG 4) (sx "Headers.__delitem__") (sx "cpy313.wsgiref.headers") 599 157 .none),
 cJ [],
 eQ .none [],
 cJ [vS "self" 718,vS "name" 719],
 cJ [],
 gO (br (aG 5) (sx "Headers.__getitem__")),
 cO "__getitem__" "Headers.__getitem__" 715 130 2 0 3 159 true 276 (vR 161) (vR 162) (vR 163) 720,
 fO (am (aG 5) (sx "Headers.__getitem__") (sx "cpy313.wsgiref.headers") 599 164 .none),
 cJ [],
 eQ .none [],
 cJ [vS "self" 726,vS "name" 727],
 cJ [],
 gO (br (aG 6) (sx "Headers.__contains__")),
 cO "__contains__" "Headers.__contains__" 723 133 2 0 3 166 true 276 (vR 168) (vR 169) (vR 170) 728,
 fO (am (aG 6) (sx "Headers.__contains__") (sx "cpy313.wsgiref.headers") 599 171 .none),
 cJ [],
 eQ .none [],
 cJ [vS "self" 734,vS "name" 735],
 cJ [],
 gO (br (aG 7) (sx "Headers.get_all")),
 cO "get_all" "Headers.get_all" 731 136 2 0 3 173 true 276 (vR 175) (vR 176) (vR 177) 736,
 fO (am (aG 7) (sx "Headers.get_all") (sx "cpy313.wsgiref.headers") 599 178 .none),
 Gx P,
 cJ [],
 eQ .none [],
 cJ [vS "self" 742,vS "name" 743,vS "default" 744,vS "k" 745,vS "v" 746],
 cJ [],
 gO (br (aG 8) (sx "Headers.get")),
 cO "get" "Headers.get" 739 139 3 0 3 181 true 276 (vR 183) (vR 184) (vR 185) 747,
 fO (am (aG 8) (sx "Headers.get") (sx "cpy313.wsgiref.headers") 599 186 (vR 180)),
 cJ [],
 eQ .none [],
 gO (br (aG 9) (sx "Headers.keys")),
 cO "keys" "Headers.keys" 750 146 1 0 3 188 true 276 .none .none (vR 190) 753,
 fO (am (aG 9) (sx "Headers.keys") (sx "cpy313.wsgiref.headers") 599 191 .none),
 cJ [],
 eQ .none [],
 gO (br (aG 10) (sx "Headers.values")),
 cO "values" "Headers.values" 756 149 1 0 3 193 true 276 .none .none (vR 195) 759,
 fO (am (aG 10) (sx "Headers.values") (sx "cpy313.wsgiref.headers") 599 196 .none),
 cJ [],
 eQ .none [],
 cJ [vS "self" 765],
 cJ [],
 gO (br (aG 11) (sx "Headers.items")),
 cO "items" "Headers.items" 762 152 1 0 3 198 true 276 (vR 200) (vR 201) (vR 202) 766,
 fO (am (aG 11) (sx "Headers.items") (sx "cpy313.wsgiref.headers") 599 203 .none),
 cJ [],
 eQ .none [],
 cJ [vS "self" 772],
 cJ [],
 gO (br (aG 12) (sx "Headers.__repr__")),
 cO "__repr__" "Headers.__repr__" 769 155 1 0 3 205 true 276 (vR 207) (vR 208) (vR 209) 773,
 fO (am (aG 12) (sx "Headers.__repr__") (sx "cpy313.wsgiref.headers") 599 210 .none),
 cJ [],
 eQ .none [],
 gO (br (aG 13) (sx "Headers.__str__")),
 cO "__str__" "Headers.__str__" 776 158 1 0 3 212 true 276 .none .none (vR 214) 779,
 fO (am (aG 13) (sx "Headers.__str__") (sx "cpy313.wsgiref.headers") 599 215 .none),
 cJ [],
 eQ .none [],
 cJ [vS "self" 785],
 cJ [],
 gO (br (aG 14) (sx "Headers.__bytes__")),
 cO "__bytes__" "Headers.__bytes__" 782 161 1 0 3 217 true 276 (vR 219) (vR 220) (vR 221) 786,
 fO (am (aG 14) (sx "Headers.__bytes__") (sx "cpy313.wsgiref.headers") 599 222 .none),
 cJ [],
 eQ .none [],
 cJ [vS "self" 792,vS "name" 793,vS "value" 794,vS "result" 795],
 cJ [],
 gO (br (aG 15) (sx "Headers.setdefault")),
 cO "setdefault" "Headers.setdefault" 789 164 3 0 3 224 true 276 (vR 226) (vR 227) (vR 228) 796,
 fO (am (aG 15) (sx "Headers.setdefault") (sx "cpy313.wsgiref.headers") 599 229 .none),
 cJ [],
 eQ .none [],
 cJ [vS "self" 802,vS "_name" 803,vS "_value" 804,vS "_params" 805],
 cJ [],
 gO (br (aG 16) (sx "Headers.add_header")),
 cO "add_header" "Headers.add_header" 799 172 3 0 11 231 true 276 (vR 233) (vR 234) (vR 235) 806,
 fO (am (aG 16) (sx "Headers.add_header") (sx "cpy313.wsgiref.headers") 599 236 .none),
 cJ [vS "_headers" 809],
 dO [dE P "__module__" 668 (vS "cpy313.wsgiref.headers" 599),dE P "__firstlineno__" 672 (.int 99 671),dE P "__init__" 682 (vR 132),dE P "_convert_string_type" 692 (vR 139),dE P "__len__" 699 (vR 146),dE P "__setitem__" 708 (vR 153),dE P "__delitem__" 714 (vR 158),dE P "__getitem__" 722 (vR 165),dE P "__contains__" 730 (vR 172),dE P "get_all" 738 (vR 179),dE P "get" 749 (vR 187),dE P "keys" 755 (vR 192),dE P "values" 761 (vR 197),dE P "items" 768 (vR 204),dE P "__repr__" 775 (vR 211),dE P "__str__" 781 (vR 216),dE P "__bytes__" 788 (vR 223),dE P "setdefault" 798 (vR 230),dE P "add_header" 808 (vR 237),dE P "__static_attributes__" 810 (vR 238),dE P "__dict__" 812 (vR 241),dE P "__weakref__" 814 (vR 242),dE P "__doc__" 815 .none] 4,
 ⟨.type "type",none,.cls ⟨sx "Headers",[.type "object"],[vR 240,.type "object"],239,sx "Headers",true,[],[],false,none,false⟩,#[none,none,some (vS "Headers" 661),some (vS "Headers" 669),some (.builtin "object.__new__"),some (.bool true)]⟩,
 eQ (.type "getset_descriptor") [vS "__dict__" 811,vR 240,.builtin "function.__dict__",.builtin "function.__dict__#set"],
 eQ (.type "getset_descriptor") [vS "__weakref__" 813,vR 240,.builtin "ExceptionGroup.__weakref__",.none],
 eQ (.type "super") [vR 240,vR 240,vR 240],
 eQ (.type "builtin_function_or_method") [.builtin "object.__init_subclass__",vR 240],
 cJ [],
 eQ .none [],
 gO (br (aK 69) (sx "_law_drawn")),
 cO "_law_drawn" "_law_drawn" 820 175 1 0 3 245 true 276 .none .none (vR 247) 823,
 fO (am (aK 69) (sx "_law_drawn") (sx "law_ta0088_02") 818 248 .none),
 cJ [],
 eQ .none [],
 gO (br (aK 70) (sx "_law_read")),
 cO "_law_read" "_law_read" 826 193 1 0 3 250 true 276 .none .none (vR 252) 829,
 fO (am (aK 70) (sx "_law_read") (sx "law_ta0088_02") 818 253 .none),
 cJ [],
 eQ .none [],
 cJ [vS "octets" 835,vS "row" 836,vS "told" 837,vS "place" 838],
 cJ [],
 gO (br (aK 71) (sx "_law_numbers")),
 cO "_law_numbers" "_law_numbers" 832 213 1 0 3 255 true 276 (vR 257) (vR 258) (vR 259) 839,
 fO (am (aK 71) (sx "_law_numbers") (sx "law_ta0088_02") 818 260 .none),
 cJ [],
 eQ .none [],
 gO (br (aK 72) (sx "_law_words")),
 cO "_law_words" "_law_words" 842 221 1 0 3 262 true 276 .none .none (vR 264) 845,
 fO (am (aK 72) (sx "_law_words") (sx "law_ta0088_02") 818 265 .none),
 cJ [],
 eQ .none [],
 gO (br (aK 73) (sx "_law_masks")),
 cO "_law_masks" "_law_masks" 848 224 1 0 3 267 true 276 .none .none (vR 269) 851,
 fO (am (aK 73) (sx "_law_masks") (sx "law_ta0088_02") 818 270 .none),
 cJ [],
 eQ .none [],
 gO (br (aK 74) (sx "_law_resolved")),
 cO "_law_resolved" "_law_resolved" 854 227 3 0 3 272 true 276 .none .none (vR 274) 857,
 fO (am (aK 74) (sx "_law_resolved") (sx "law_ta0088_02") 818 275 .none),
 cJ [],
 eQ .none [],
 gO (br (aK 75) (sx "law")),
 cO "law" "law" 860 244 1 0 3 277 true 276 .none .none (vR 279) 863,
 fO (am (aK 75) (sx "law") (sx "law_ta0088_02") 818 280 .none)]
noncomputable def H0(P:Params):Heap:=⟨((L8 P).take 28 |>.set 3 (o3 P)).toArray,lf⟩
noncomputable def L0(P:Params):List Obj:=((L8 P).take 32 |>.set 3 (o3 P) |>.set 29 J2)
noncomputable def T0(P:Params):BT:=DO 10 (L0 P)
noncomputable def L1(P:Params):List Obj:=((L8 P).take 39 |>.set 3 (JK P) |>.set 29 FZ)
noncomputable def T1(P:Params):BT:=DO 10 (L1 P)
noncomputable def L2(P:Params):List Obj:=((L8 P).take 40 |>.set 3 (Ix P) |>.set 29 FZ)
noncomputable def T2(P:Params):BT:=DO 10 (L2 P)
noncomputable def L3(P:Params):List Obj:=((L8 P).take 84 |>.set 3 (Ib P) |>.set 29 Aj)
noncomputable def T3(P:Params):BT:=DO 10 (L3 P)
noncomputable def L4(P:Params):List Obj:=((L8 P).take 84 |>.set 3 (JN P) |>.set 29 Aj)
noncomputable def T4(P:Params):BT:=DO 10 (L4 P)
noncomputable def L5(P:Params):List Obj:=((L8 P).take 87 |>.set 3 (Ig P) |>.set 29 Aj)
noncomputable def T5(P:Params):BT:=DO 10 (L5 P)
noncomputable def L6(P:Params):List Obj:=((L8 P).take 118 |>.set 3 (Il P) |>.set 29 HQ)
noncomputable def T6(P:Params):BT:=DO 10 (L6 P)
noncomputable def L7(P:Params):List Obj:=((L8 P).take 245 |>.set 3 (Im P) |>.set 29 Hj)
noncomputable def T7(P:Params):BT:=DO 10 (L7 P)
noncomputable def T8(P:Params):BT:=DO 10 (L8 P)
noncomputable abbrev sT(T:BT)(n k:Nat)(os:OsState):SharedT:=⟨T,n,lf,#[],dr,k,os⟩
noncomputable def qL:Program:={ pw with main:={ pw.main with body:=[aK 0,aK 75] } }
noncomputable def qF:List Str:=[sx "_wall",sx "COMPILER_FLAG_NAMES",sx "pretty_flags",sx "_Unknown",sx "UNKNOWN",sx "_get_name_info",sx "_parse_varint",sx "ENDMARKER",sx "LPAR",sx "RPAR",sx "LSQB",sx "RSQB",sx "COLON",sx "COMMA",sx "SEMI",sx "PLUS",sx "MINUS",sx "STAR",sx "SLASH",sx "VBAR",sx "AMPER",sx "LESS",sx "GREATER",sx "EQUAL",sx "DOT",sx "PERCENT",sx "LBRACE",sx "RBRACE",sx "EQEQUAL",sx "NOTEQUAL",sx "LESSEQUAL",sx "GREATEREQUAL",sx "TILDE",sx "CIRCUMFLEX",sx "LEFTSHIFT",sx "RIGHTSHIFT",sx "DOUBLESTAR",sx "PLUSEQUAL",sx "MINEQUAL",sx "STAREQUAL",sx "SLASHEQUAL",sx "PERCENTEQUAL",sx "AMPEREQUAL",sx "VBAREQUAL",sx "CIRCUMFLEXEQUAL",sx "LEFTSHIFTEQUAL",sx "RIGHTSHIFTEQUAL",sx "DOUBLESTAREQUAL",sx "DOUBLESLASH",sx "DOUBLESLASHEQUAL",sx "AT",sx "ATEQUAL",sx "RARROW",sx "ELLIPSIS",sx "COLONEQUAL",sx "EXCLAMATION",sx "NT_OFFSET",sx "EXACT_TOKEN_TYPES",sx "ISTERMINAL",sx "ISNONTERMINAL",sx "ISEOF",sx "_name_disallowed_re",sx "_value_disallowed_re",sx "Headers",sx "_law_drawn",sx "_law_read",sx "_law_numbers",sx "_law_words",sx "_law_masks",sx "_law_resolved"]
noncomputable def H1(P:Params):Heap:=absHeap (T8 P) n8 lf
noncomputable abbrev sE(w:World)(os:OsState):Shared:=⟨H1 w.params,#[],dr,k8,os⟩
noncomputable abbrev JO:Shared->Bool:=λ_=>true
theorem te(w:World):staticsOk (importedModules pw.main.body) (H0 w.params) (H1 w.params)=true:=by kernel_rfl
theorem w4(w:World):namesBound pw (H1 w.params)=true:=by kernel_rfl
theorem y9(w:World):laidKept (H0 w.params) (H1 w.params)=true:=by kernel_rfl
theorem zv(w:World)(os:OsState):openSeen qL qF (importedModules pw.main.body) JO false (sE w os)=openGood qL qF:=by kernel_rfl
noncomputable def lD(h h':Heap):Prop:=∀b o,h.get? b=some o->h'.get? b=some o
noncomputable def CL(h:Heap)(c:Addr)(q:Str):Bool:=match h.get? c with
 |some o=>match o.data with
  |.fields vs=>match (vs[1]?:Option Value)with
   |some (Value.str x _)=>x==q
   |_=>false
  |_=>false
 |none=>false
theorem wp{h:Heap}{c:Addr}{q:Str}(e:CL h c q=true):h.CodeRec (.ref c) q:=by
 have k:∀r,h.get? c=r->(match r with
  |some o=>match o.data with
   |.fields vs=>match (vs[1]?:Option Value)with
    |some (Value.str x _)=>x==q
    |_=>false
   |_=>false
  |none=>false)=true->h.CodeRec (.ref c) q:=λr hr e=>by
  cases r with
  |none=>exact fT e
  |some o=>
   have e:(match o.data with
    |.fields vs=>match (vs[1]?:Option Value)with
     |some (Value.str x _)=>x==q
     |_=>false
    |_=>false)=true:=e
   cases hd:o.data<;>replace e:=hd▸e<;>try exact fT e
   rename_i vs
   have e:(match (vs[1]?:Option Value)with|some (Value.str x _)=>x==q|_=>false)=true:=e;cases hv:(vs[1]?:Option Value)with
   |none=>replace e:=hv▸e;exact fT e
   |some v=>
    replace e:=hv▸e;cases v<;>try exact fT e
    exact⟨c,o,vs,_,rfl,hr,hd,by rw[hv];rw[eq_of_beq e];rfl⟩
 exact k _ rfl e
theorem cQ{P:Params}{a:Nat}{o:Obj}(h:a<282)(e:(T8 P).get a=some o)(hl:alive o=some o):(H1 P).get? a=some o:=(abs_get (n:=n8) (life:=lf) h e).trans hl
section
variable(P:Params)
noncomputable def IZ:List (Nat×Str):=[(45,sx "pretty_flags"),(248,sx "_law_drawn"),(253,sx "_law_read"),(260,sx "_law_numbers"),(265,sx "_law_words"),(270,sx "_law_masks"),(275,sx "_law_resolved"),(92,sx "ISTERMINAL"),(99,sx "ISNONTERMINAL"),(106,sx "ISEOF"),(82,sx "_parse_varint"),(75,sx "_get_name_info"),(280,sx "law"),(131,sx "Headers.__init__"),(138,sx "Headers._convert_string_type"),(157,sx "Headers.__delitem__"),(186,sx "Headers.get"),(191,sx "Headers.keys"),(203,sx "Headers.items"),(229,sx "Headers.setdefault")]
theorem E3:IZ.all (λx=>CL (H1 P) x.1 x.2)=true:=by kernel_rfl
theorem cF(i:Nat)(h:i<IZ.length):(H1 P).CodeRec (.ref IZ[i].1) IZ[i].2:=wp (bD.mp (E3 P) _ (List.getElem_mem h))
theorem G4(f:UF):(H1 P).get? f.addr=some (cr f.st f.nm f.md f.tk (f.addr-1)):=by cases f<;>exact cQ (by decide) (by kernel_rfl) rfl
noncomputable def EJ:List (Str×Value):=[(sx "pretty_flags",.ref 46),(sx "_law_drawn",.ref 249),(sx "_law_read",.ref 254),(sx "_law_numbers",.ref 261),(sx "_law_words",.ref 266),(sx "_law_masks",.ref 271),(sx "_law_resolved",.ref 276),(sx "ISTERMINAL",.ref 93),(sx "ISNONTERMINAL",.ref 100),(sx "ISEOF",.ref 107),(sx "_parse_varint",.ref 83),(sx "EXACT_TOKEN_TYPES",.ref 84),(sx "COMPILER_FLAG_NAMES",.ref 39),(sx "_name_disallowed_re",.ref 112),(sx "_value_disallowed_re",.ref 117),(sx "_get_name_info",.ref 76),(sx "Headers",.ref 240),(sx "law",.ref 281)]
noncomputable def Bg:List (Str×Value):=[(sx "len",.builtin "len"),(sx "sum",.builtin "sum"),(sx "hex",.builtin "hex"),(sx "chr",.builtin "chr"),(sx "ord",.builtin "ord"),(sx "max",.builtin "max"),(sx "bytes",.type "bytes"),(sx "range",.type "range"),(sx "enumerate",.type "enumerate"),(sx "zip",.type "zip"),(sx "next",.builtin "next"),(sx "iter",.builtin "iter"),(sx "StopIteration",.type "StopIteration"),(sx "list",.type "list"),(sx "type",.type "type"),(sx "str",.type "str")]
theorem w6:EJ.map (λx=>(H1 P).nsMap mainGlobals x.1)=EJ.map λx=>some x.2:=by kernel_rfl
theorem EP:((H1 P).nsMap mainGlobals "NT_OFFSET",(H1 P).nsMap mainGlobals "ENDMARKER")=(some (.int 256 479),some (.int 0 381)):=by kernel_rfl
theorem vp:Bg.map (λx=>((H1 P).nsMap mainGlobals x.1,(H1 P).nsMap builtinsNs x.1))=Bg.map λx=>(none,some x.2):=by kernel_rfl
theorem D0:((H1 P).isNs mainGlobals&&((H1 P).isNs builtinsNs&&((H1 P).isNs cStatics&&((H1 P).isNs 239&&((H1 P).nsMap cStatics "sys.recursionlimit").isNone))))=true:=by kernel_rfl
end
noncomputable def iH(o:Obj):List DictEntry:=match o.data with
 |.dict es _=>es.toList
 |_=>[]
noncomputable def F5(e:DictEntry)(p:Str×Int):Bool:=match e.key with
 |Value.str k _=>(match e.val with
  |Value.int v _=>k==p.1&&v==p.2
  |_=>false)
 |_=>false
noncomputable def HH:List DictEntry->List (Str×Int)->Bool
 |[],[]=>true
 |e :: l,p :: t=>F5 e p&&HH l t
 |_,_=>false
theorem Fa{e l p t}:HH (e :: l) (p :: t)=(F5 e p&&HH l t):=rfl
theorem rf{e:DictEntry}{p:Str×Int}(h:F5 e p=true):∃t t',e.key=.str p.1 t/\e.val=.int p.2 t':=by
 obtain⟨hs,x,y⟩:=e;cases x<;>try exact fT h
 cases y<;>try exact fT h
 exact⟨_,_,by rw[eq_of_beq (aB h).1];rfl,by rw[eq_of_beq (aB h).2];rfl⟩
theorem u7(x:Str):∀{l:List DictEntry} {t:List (Str×Int)},HH l t=true->((l.find? λe=>Value.isStrOf x e.key).map (·.val)).isSome=(ce t x).isSome/\∀i,ce t x=some i->∃k,(l.find? λe=>Value.isStrOf x e.key).map (·.val)=some (.int i k)
 |[],[],_=>⟨rfl,λi h=>nS h⟩
 |e :: l,(a,b) :: t,h=>by
  replace h:=Fa▸h;rewrite[eA]at h;refine lV (rf h.1) λt1 t2 hk hv=>?_;have ih:=u7 x h.2;rw[List.find?_cons];rw[vo];have e1:Value.isStrOf x e.key=(a==x):=by rw[hk];rfl
  rw[e1];cases q:a==x with
  |true=>refine⟨rfl,λi hi=>?_⟩;have:b=i:=Option.some.inj hi;exact⟨t2,by rw[this.symm];rw[hv.symm];rfl⟩
  |false=>exact ih
 |[],_ :: _,h=>fT h
 |_ :: _,[],h=>fT h
noncomputable def G7(e:DictEntry)(p:Int×Str):Bool:=match e.key with
 |Value.int k _=>(match e.val with
  |Value.str v _=>k==p.1&&(v==p.2&&e.hash==hashInt k)
  |_=>false)
 |_=>false
noncomputable def zc:List DictEntry->List (Int×Str)->Bool
 |[],[]=>true
 |e :: l,p :: t=>G7 e p&&zc l t
 |_,_=>false
theorem CQ{e l p t}:zc (e :: l) (p :: t)=(G7 e p&&zc l t):=rfl
theorem rU{e:DictEntry}{p:Int×Str}(h:G7 e p=true):∃t t',e.key=.int p.1 t/\e.val=.str p.2 t'/\e.hash=hashInt p.1:=by
 obtain⟨hs,x,y⟩:=e;cases x<;>try exact fT h
 cases y<;>try exact fT h
 have h:=a3 h;exact⟨_,_,by rw[eq_of_beq h.1];rfl,by rw[eq_of_beq h.2.1];rfl,by rw[Eq.symm (eq_of_beq h.1)];exact eq_of_beq h.2.2⟩
theorem sQ(x:Int):∀{l:List DictEntry} {t:List (Int×Str)},zc l t=true->(gJ t x=none->(l.find? λe=>Value.isInt x e.key).map (·.val)=none)/\∀i,gJ t x=some i->∃k,(l.find? λe=>Value.isInt x e.key).map (·.val)=some (.str i k)
 |[],[],_=>⟨λ_=>rfl,λi h=>nS h⟩
 |e :: l,(a,b) :: t,h=>by
  replace h:=CQ▸h;rewrite[eA]at h;refine lr (rU h.1) λt1 t2 hk hv _=>?_;have ih:=sQ x h.2;rw[List.find?_cons];rw[Bj];have e1:Value.isInt x e.key=(a==x):=by rw[hk];rfl
  rw[e1];cases q:a==x with
  |true=>refine⟨λhn=>(sN hn),λi hi=>?_⟩;have:b=i:=Option.some.inj hi;exact⟨t2,by rw[this.symm];rw[hv.symm];rfl⟩
  |false=>exact ih
 |[],_ :: _,h=>fT h
 |_ :: _,[],h=>fT h
theorem vf:∀{l:List DictEntry} {t:List (Int×Str)},zc l t=true->∀e∈l,∃k t,e.key=.int k t/\e.hash=hashInt k
 |[],[],_,e,h=>by cases h
 |e :: l,p :: t,h,e',he=>by
  replace h:=CQ▸h;rewrite[eA]at h;rcases ah.mp he with q|q
  ·refine lr (rU h.1) λt1 _ hk _ hh=>?_;exact⟨p.1,t1,q▸hk,q▸hh⟩
  ·exact vf h.2 e' q
 |[],_ :: _,h,_,_=>fT h
 |_ :: _,[],h,_,_=>fT h
theorem xi:∀{l:List DictEntry} {t:List (Str×Int)},HH l t=true->∀e∈l,∃k t,e.key=.str k t
 |[],[],_,e,h=>by cases h
 |e :: l,p :: t,h,e',he=>by
  replace h:=Fa▸h;rewrite[eA]at h;rcases ah.mp he with q|q
  ·refine lV (rf h.1) λt1 _ hk _=>?_;exact⟨p.1,t1,q▸hk⟩
  ·exact xi h.2 e' q
 |[],_ :: _,h,_,_=>fT h
 |_ :: _,[],h,_,_=>fT h
noncomputable def Dg(P:Params):Value->Int
 |.str x _=>PyData.keyHash P x
 |_=>0
section
variable(P:Params)
theorem Fd:HH (iH (EC P)) dN=true:=by kernel_rfl
theorem Fy:(iH (EC P)).map (·.hash)=(iH (EC P)).map λe=>Dg P e.key:=by kernel_rfl
theorem FP:zc (iH (GJ P)) jK=true:=by kernel_rfl
theorem IA:(H1 P).get? 84=some (EC P):=cQ (by decide) (by kernel_rfl) rfl
theorem Hl:(H1 P).get? 39=some (GJ P):=cQ (by decide) (by kernel_rfl) rfl
end
theorem E6(w:World){h:Heap}(k:lD (H1 w.params) h):∃f,h.MapOf (PySem.strKind pw w) 84 f/\∀x,(f x).isSome=(ce dN x).isSome/\∀i,ce dN x=some i->∃t,f x=some (.int i t):=by
 refine⟨λx=>findBy Value.isStrOf (iH (EC w.params)).toArray x,⟨EC w.params,(iH (EC w.params)).toArray,48,k _ _ (IA _),⟨rfl,rfl,rfl⟩,rfl,λe he=>?_,λ_=>rfl⟩,λx=>?_⟩
 ·have he:e∈iH (EC w.params):=by simpa using he
  refine eV (xi (Fd w.params) e he) λx t hk=>?_;have hh:=(iu.mp (Fy w.params)) e he;refine⟨x,?_,?_⟩
  ·refine(?_:Value.isStrOf x e.key=true);rw[hk];show(x==x)=true;simp
  ·refine(?_:e.hash=hashStr w x);rw[hh];rw[hk];rfl
 ·have:=u7 x (Fd w.params);simpa[findBy]using this
theorem DC(w:World){h:Heap}(k:lD (H1 w.params) h):∃f,h.MapOf (PySem.intKind pw w) 39 f/\∀i,(gJ jK i=none->f i=none)/\∀x,gJ jK i=some x->∃t,f i=some (.str x t):=by
 refine⟨λx=>findBy Value.isInt (iH (GJ w.params)).toArray x,⟨GJ w.params,(iH (GJ w.params)).toArray,10,k _ _ (Hl _),⟨rfl,rfl,rfl⟩,rfl,λe he=>?_,λ_=>rfl⟩,λx=>?_⟩
 ·have he:e∈iH (GJ w.params):=by simpa using he
  refine lV (vf (FP w.params) e he) λx t hk hh=>?_;refine⟨x,?_,hh⟩;refine(?_:Value.isInt x e.key=true);rw[hk];show(x==x)=true;simp
 ·have:=sQ x (FP w.params);refine⟨λhn=>?_,λi hi=>?_⟩
  ·have:=this.1 hn;simpa[findBy]using this
  ·refine af (this.2 i hi) λt e=>?_;exact⟨t,by simpa[findBy]using e⟩
noncomputable def Hw:List (Str×Option Value):=[(sx "__getattribute__",none),(sx "__getattr__",none),(sx "__setattr__",none),(sx "_headers",none),(sx "__init__",some (.ref 132)),(sx "_convert_string_type",some (.ref 139)),(sx "__delitem__",some (.ref 158)),(sx "get",some (.ref 187)),(sx "keys",some (.ref 192)),(sx "items",some (.ref 204)),(sx "setdefault",some (.ref 230))]
section
variable(P:Params)
theorem xJ:Hw.map (λx=>(H1 P).nsMap 239 x.1)=Hw.map λx=>x.2:=by kernel_rfl
theorem gF(i:Nat)(h:i<EJ.length):(H1 P).nsMap mainGlobals EJ[i].1=some EJ[i].2:=(iu.mp (w6 P)) _ (List.getElem_mem h)
theorem bF(i:Nat)(h:i<Bg.length):((H1 P).nsMap mainGlobals Bg[i].1,(H1 P).nsMap builtinsNs Bg[i].1)=(none,some Bg[i].2):=(iu.mp (vp P)) _ (List.getElem_mem h)
theorem hF(i:Nat)(h:i<Hw.length):(H1 P).nsMap 239 Hw[i].1=Hw[i].2:=(iu.mp (xJ P)) _ (List.getElem_mem h)
theorem Ah:(H1 P).get? 83=some (cr (aK 8) (sx "_parse_varint") pW 289 82):=cQ (by decide) (by kernel_rfl) rfl
theorem GG:(H1 P).get? 261=some (cr (aK 71) (sx "_law_numbers") uB 818 260):=cQ (by decide) (by kernel_rfl) rfl
theorem Gl:(H1 P).get? 281=some (cr (aK 75) (sx "law") uB 818 280):=cQ (by decide) (by kernel_rfl) rfl
theorem Gc:(H1 P).get? 76=some (cr (aK 7) (sx "_get_name_info") pW 289 75):=cQ (by decide) (by kernel_rfl) rfl
theorem Dk:(H1 P).get? 132=some (cr (aG 0) (sx "Headers.__init__") bv 599 131 (.ref 125)):=cQ (by decide) (by kernel_rfl) rfl
theorem DV:(H1 P).get? 139=some (cr (aG 1) (sx "Headers._convert_string_type") bv 599 138):=cQ (by decide) (by kernel_rfl) rfl
theorem Gy:(H1 P).get? 187=some (cr (aG 8) (sx "Headers.get") bv 599 186 (.ref 180)):=cQ (by decide) (by kernel_rfl) rfl
theorem Dv:(H1 P).get? 192=some (cr (aG 9) (sx "Headers.keys") bv 599 191):=cQ (by decide) (by kernel_rfl) rfl
theorem B0:(H1 P).get? 204=some (cr (aG 11) (sx "Headers.items") bv 599 203):=cQ (by decide) (by kernel_rfl) rfl
theorem Fh:(H1 P).get? 230=some (cr (aG 15) (sx "Headers.setdefault") bv 599 229):=cQ (by decide) (by kernel_rfl) rfl
theorem G5:(H1 P).get? 158=some (cr (aG 4) (sx "Headers.__delitem__") bv 599 157):=cQ (by decide) (by kernel_rfl) rfl
theorem Hk:(H1 P).get? 125=some (G0 P):=cQ (by decide) (by kernel_rfl) rfl
theorem Hv:(H1 P).get? 180=some (Gx P):=cQ (by decide) (by kernel_rfl) rfl
theorem Fw:(H1 P).get? 240=some (excClassObj (sx "Headers") (sx "Headers") 240 239 [.type "object"] [.type "object"] true [] [] false none none none none (some (.str (sx "Headers") 661)) (some (.str (sx "Headers") 669)) (some (.bool true)) "object.__new__"):=cQ (by decide) (by kernel_rfl) rfl
theorem Eo:(H1 P).get? sysModules=some (o1 P):=cQ (by decide) (by kernel_rfl) rfl
theorem Gq:(H1 P).get? 112=some (Fu P):=cQ (by decide) (by kernel_rfl) rfl
theorem GU:(H1 P).get? 111=some (CT P):=cQ (by decide) (by kernel_rfl) rfl
theorem Gg:(H1 P).get? 117=some (Gz P):=cQ (by decide) (by kernel_rfl) rfl
theorem GT:(H1 P).get? 116=some (AU P):=cQ (by decide) (by kernel_rfl) rfl
noncomputable def tW(o:Obj):Array Value:=match o.data with
 |.seq v _=>v
 |_=>#[]
theorem JW:((tW (CT P)).map Builtin.Re.reRawOf).map (·.toNat)=oZ:=by kernel_rfl
theorem J1:((tW (AU P)).map Builtin.Re.reRawOf).map (·.toNat)=kf:=by kernel_rfl
end
section
variable{w:World}{h:Heap}
theorem im(P:Params):(H1 P).isNs mainGlobals=true/\(H1 P).isNs builtinsNs=true/\(H1 P).isNs cStatics=true/\(H1 P).isNs 239=true/\(H1 P).nsMap cStatics "sys.recursionlimit"=none:=by have e:=D0 P;simp only[cC,Option.isNone_iff_eq_none]at e;exact e
noncomputable def xC(w:World)(h:Heap)(k:lD (H1 w.params) h):aX where
 prog:=pw
 w:=w
 hb:=h
 mg:=(H1 w.params).nsMap mainGlobals
 mb:=(H1 w.params).nsMap builtinsNs
 gns:=(Heap.Ns.of_isNs (im w.params).1).keeps k
 bns:=(Heap.Ns.of_isNs (im w.params).2.1).keeps k
 lim:=⟨_,(Heap.Ns.of_isNs (im w.params).2.2.1).keeps k,(im w.params).2.2.2.2⟩
theorem ja(k:lD (H1 w.params) h)(i:Nat)(hi:i<EJ.length):(xC w h k).at EJ[i].1=some EJ[i].2:=by refine(?_:((H1 w.params).nsMap mainGlobals EJ[i].1).or _=_);rw[gF w.params i hi];rfl
theorem kj(k:lD (H1 w.params) h)(i:Nat)(hi:i<Bg.length):(xC w h k).at Bg[i].1=some Bg[i].2:=by have e:=bF w.params i hi;refine(?_:((H1 w.params).nsMap mainGlobals Bg[i].1).or ((H1 w.params).nsMap builtinsNs Bg[i].1)=_);rw[(Prod.mk.inj e).1];rw[(Prod.mk.inj e).2];rfl
theorem C5(k:lD (H1 w.params) h):FO (xC w h k) ((H1 w.params).nsMap 239) where
 X:={
  D:={
   bf:=λf=>by
    cases f
    ·exact kj k 0 (by decide)
    ·exact kj k 1 (by decide)
    ·exact kj k 2 (by decide)
    ·exact kj k 3 (by decide)
    ·exact kj k 4 (by decide)
    ·exact kj k 5 (by decide)
    ·exact kj k 6 (by decide)
    ·exact kj k 7 (by decide)
    ·exact kj k 8 (by decide)
    ·exact kj k 9 (by decide)
   gint:=λg=>by
    have e:=EP w.params;cases g
    ·refine⟨479,?_⟩;refine(?_:((H1 w.params).nsMap mainGlobals "NT_OFFSET").or _=_);rw[(Prod.mk.inj e).1];rfl
    ·refine⟨381,?_⟩;refine(?_:((H1 w.params).nsMap mainGlobals "ENDMARKER").or _=_);rw[(Prod.mk.inj e).2];rfl
   tokG:=ja k 11 (by decide)
   tokD:=E6 w k
   flagG:=ja k 12 (by decide)
   flagD:=DC w k }
  H:={
   cls:=⟨661,669,k _ _ (Fw _)⟩
   ns:=(Heap.Ns.of_isNs (im w.params).2.2.2.1).keeps k
   ga:=hF _ 0 (by decide)
   gx:=hF _ 1 (by decide)
   sa:=hF _ 2 (by decide)
   hd:=hF _ 3 (by decide)
   mInit:=hF _ 4 (by decide)
   mConv:=hF _ 5 (by decide)
   mDel:=hF _ 6 (by decide)
   mGet:=hF _ 7 (by decide)
   mKeys:=hF _ 8 (by decide)
   mItems:=hF _ 9 (by decide)
   mSet:=hF _ 10 (by decide)
   fConv:=k _ _ (DV _)
   cConv:=(cF w.params 14 (by decide)).keeps k
   gType:=kj k 14 (by decide)
   gStr:=kj k 15 (by decide)
   gN:=ja k 13 (by decide)
   gV:=ja k 14 (by decide)
   pN:=⟨Fu w.params,_,_,111,CT w.params,_,tW (CT w.params),k _ _ (Gq _),rfl,rfl,rfl,k _ _ (GU _),rfl,JW _⟩
   pV:=⟨Gz w.params,_,_,116,AU w.params,_,tW (AU w.params),k _ _ (Gg _),rfl,rfl,rfl,k _ _ (GT _),rfl,J1 _⟩ }
  G:=⟨k _ _ (Gy _),(cF w.params 16 (by decide)).keeps k,Gx w.params,0,k _ _ (Hv _),rfl⟩
  M:=⟨k _ _ (Dv _),(cF w.params 17 (by decide)).keeps k,k _ _ (B0 _),(cF w.params 18 (by decide)).keeps k,k _ _ (Fh _),(cF w.params 19 (by decide)).keeps k,k _ _ (G5 _),(cF w.params 15 (by decide)).keeps k⟩
  N:=⟨k _ _ (Gc _),(cF w.params 11 (by decide)).keeps k,ja k 15 (by decide),λe=>by have:=k _ _ (Eo w.params);exact absurd (this.symm.trans e) (λq=>nomatch q)⟩ }
 U:={
  g:=λf=>by
   cases f
   ·exact ja k 0 (by decide)
   ·exact ja k 1 (by decide)
   ·exact ja k 2 (by decide)
   ·exact ja k 3 (by decide)
   ·exact ja k 4 (by decide)
   ·exact ja k 5 (by decide)
   ·exact ja k 6 (by decide)
   ·exact ja k 7 (by decide)
   ·exact ja k 8 (by decide)
   ·exact ja k 9 (by decide)
  o:=λf=>k _ _ (G4 w.params f)
  c:=λf=>by
   cases f
   ·exact(cF w.params 0 (by decide)).keeps k
   ·exact(cF w.params 1 (by decide)).keeps k
   ·exact(cF w.params 2 (by decide)).keeps k
   ·exact(cF w.params 3 (by decide)).keeps k
   ·exact(cF w.params 4 (by decide)).keeps k
   ·exact(cF w.params 5 (by decide)).keeps k
   ·exact(cF w.params 6 (by decide)).keeps k
   ·exact(cF w.params 7 (by decide)).keeps k
   ·exact(cF w.params 8 (by decide)).keeps k
   ·exact(cF w.params 9 (by decide)).keeps k }
 N:=⟨ja k 10 (by decide),k _ _ (Ah _),(cF w.params 10 (by decide)).keeps k,kj k 10 (by decide),kj k 11 (by decide),kj k 12 (by decide),ja k 3 (by decide),k _ _ (GG _),(cF w.params 3 (by decide)).keeps k⟩
 I:=⟨k _ _ (Dk _),(cF w.params 13 (by decide)).keeps k,⟨G0 w.params,0,k _ _ (Hk _),rfl⟩,kj k 13 (by decide),ja k 16 (by decide)⟩
 L:=⟨k _ _ (Gl _),(cF w.params 12 (by decide)).keeps k⟩
end
noncomputable abbrev yb:OpenLaw:=PySem.Challenge.rw_ta0088_02
theorem D4{R:WRecords}{d:WData}(h:WShape.has R d .int=true):∃i,d=.int i:=by cases d<;>first|exact⟨_,rfl⟩|cases (show false=true from h)
theorem wA{R:WRecords}:∀{ds:List WData},WShape.hasItems R ds .int=true->∃xs:List Int,ds=xs.map WData.int
 |[],_=>⟨[],rfl⟩
 |d :: ds,h=>by rewrite[WShape.hasItems,eA]at h;refine af (D4 h.1) λi q1q=>?_;subst q1q;refine af (wA h.2) λxs q1q=>?_;subst q1q;exact⟨i :: xs,rfl⟩
theorem Ar{R:WRecords}{d:WData}(h:WShape.has R d (.list .int)=true):∃xs:List Int,d=.list (xs.map .int):=by
 cases d<;>try exact fT h
 rename_i ds
 have h':WShape.hasItems R ds .int=true:=by
  have h:(WShape.hasItems R ds .int||false)=true:=h
  rwa [Bool.or_false]at h
 refine af (wA h') λxs q1q=>?_;subst q1q;exact⟨xs,rfl⟩
theorem B8{args:List WData}(h:yb.row.toRowW.claim.pre args=true):∃xs:List Int,args=[.list (xs.map .int)]/\xs.length<=63:=by
 refine cL (pre_splitW h) λh1 h2=>?_;refine lr (hasAllW_cons (e:=.list .int) (es:=[]) h1) λd r q1q hd hr=>?_;subst q1q;obtain rfl:=hasAllW_nil hr;refine af (Ar hd) λxs q1q=>?_;subst q1q;refine⟨xs,rfl,?_⟩;have e:(yb.row.pre).holds yb.row.records { args:=[.list (xs.map .int)] }=true:=h2;have:(yb.row.pre)=.and (.not (.lt (.lit (.int 63)) (.len (.arg 0)))) (.lit (.bool true)):=rfl;replace e:=this▸e;by_cases q:xs.length<=63
 ·exact q
 ·exfalso;have hq:Num.less? (.int 63) (.int (xs.length:Int))=some true:=congrArg some (decide_eq_true (by lia));revert e;simp[WTm.holds,WTm.value,less?,hq]
theorem pM{R:WRecords}{cl:Str->Option Addr}{h:Heap}:∀(xs:List Int) {vs:List Value} {as:List Addr},ReadsAllW R cl h vs (xs.map .int) as->aH HL h (xs.map .int) vs
 |[],_,_,r=>by cases r;rfl
 |x :: xs,_,_,r=>by
  cases r with
  |cons h1 h2=>
   cases h1
   rename_i t
   exact⟨_,_,rfl,⟨t,rfl⟩,pM xs h2⟩
theorem xW{R:WRecords}{cl:Str->Option Addr}{h:Heap}{xs:List Int}{vals:List Value}{as:List Addr}(hr:ReadsAllW R cl h vals [.list (xs.map .int)] as):∃a vs,vals=[.ref a]/\h.IsList a (List.toArray vs)/\aH HL h (xs.map .int) vs:=by
 cases hr with
 |cons h1 h2=>
  cases h2;cases h1 with
  |list ho hc hd hall=>
   rename_i a o vs n as'
   refine⟨a,vs.toList,rfl,⟨o,ho,hc,n,hd⟩,pM xs hall⟩
theorem zh(w:World):(fencedOpening treeTable pw w 100000).map (λs=>(s.heap,s.gens,s.drawn,s.toks))=some (H0 w.params,#[],dr,276):=by kernel_rfl
theorem An(w:World)(os:OsState):topGo treeTable pw w 28 ou 12 ⟨H0 w.params,#[],dr,276,os⟩ (topStub pw)=some ((sT (T0 w.params) n0 k0 os).abs,⟨denote treeTable cB,cB,p0,[topFrame p0]⟩):=by kernel_rfl
theorem wR(w:World)(os:OsState):segRun treeTable pw w 28 ou 1 1 (sT (T0 w.params) n0 k0 os).abs (blockOf bB env0 cB p0 [topFrame p0])=some (.next,(sT (T0 w.params) n0 k0 os).abs,cB,p0):=by kernel_rfl
theorem Ba(w:World)(os:OsState):topRun treeTable pw w 28 ou 2 (sT (T8 w.params) n8 k8 os).abs ⟨doneF .next,cB,p8,[topFrame p0]⟩=some (sT (T8 w.params) n8 k8 os).abs:=by kernel_rfl
theorem yq(w:World):((H0 w.params).isNs mainGlobals&&(#[]:Array GenState).size==0,(H0 w.params).objs.size,(H0 w.params).nsMap mainGlobals "__annotations__")=(true,28,ou):=by kernel_rfl
theorem JD(w:World)(os:OsState):segRunT treeTable pw w 28 ou 1 m1 (sT (T0 w.params) n0 k0 os) (piecesOf g1 env0 cB p0 [topFrame p0])=some (.next,sT (T1 w.params) n1 k1 os,cB,p1):=by kernel_rfl
theorem xY(w:World)(os:OsState):segRunT treeTable pw (w.withFollow "special-get-raises" false) 28 ou 1 m2 (sT (T1 (w.withFollow "special-get-raises" false).params) n1 k1 os) (piecesOf g2 env0 cB p1 [topFrame p0])=some (.next,sT (T2 (w.withFollow "special-get-raises" false).params) n2 k2 os,cB,p2):=by kernel_rfl
theorem zl(w:World)(os:OsState):segRunT treeTable pw (w.withFollow "special-get-raises" true) 28 ou 1 m2 (sT (T1 (w.withFollow "special-get-raises" true).params) n1 k1 os) (piecesOf g2 env0 cB p1 [topFrame p0])=some (.next,sT (T2 (w.withFollow "special-get-raises" true).params) n2 k2 os,cB,p2):=by kernel_rfl
theorem Iw(w:World):∀os:OsState,segRunT treeTable pw w 28 ou 1 m2 (sT (T1 w.params) n1 k1 os) (piecesOf g2 env0 cB p1 [topFrame p0])=some (.next,sT (T2 w.params) n2 k2 os,cB,p2):=byRow2 "special-get-raises" (P:=λw=>∀os:OsState,segRunT treeTable pw w 28 ou 1 m2 (sT (T1 w.params) n1 k1 os) (piecesOf g2 env0 cB p1 [topFrame p0])=some (.next,sT (T2 w.params) n2 k2 os,cB,p2)) xY zl w
theorem Ih(w:World)(os:OsState):segRunT treeTable pw w 28 ou 1 m3 (sT (T2 w.params) n2 k2 os) (piecesOf g3 env0 cB p2 [topFrame p0])=some (.next,sT (T3 w.params) n3 k3 os,cB,p3):=by kernel_rfl
theorem JP(w:World)(os:OsState):segRunT treeTable pw w 28 ou 1 m4 (sT (T3 w.params) n3 k3 os) (piecesOf g4 env0 cB p3 [topFrame p0])=some (.next,sT (T4 w.params) n4 k4 os,cB,p4):=by kernel_rfl
theorem wy(w:World)(os:OsState):segRunT treeTable pw (w.withFollow "special-get-raises" false) 28 ou 1 m5 (sT (T4 (w.withFollow "special-get-raises" false).params) n4 k4 os) (piecesOf g5 env0 cB p4 [topFrame p0])=some (.next,sT (T5 (w.withFollow "special-get-raises" false).params) n5 k5 os,cB,p5):=by kernel_rfl
theorem AA(w:World)(os:OsState):segRunT treeTable pw (w.withFollow "special-get-raises" true) 28 ou 1 m5 (sT (T4 (w.withFollow "special-get-raises" true).params) n4 k4 os) (piecesOf g5 env0 cB p4 [topFrame p0])=some (.next,sT (T5 (w.withFollow "special-get-raises" true).params) n5 k5 os,cB,p5):=by kernel_rfl
theorem Iu(w:World):∀os:OsState,segRunT treeTable pw w 28 ou 1 m5 (sT (T4 w.params) n4 k4 os) (piecesOf g5 env0 cB p4 [topFrame p0])=some (.next,sT (T5 w.params) n5 k5 os,cB,p5):=byRow2 "special-get-raises" (P:=λw=>∀os:OsState,segRunT treeTable pw w 28 ou 1 m5 (sT (T4 w.params) n4 k4 os) (piecesOf g5 env0 cB p4 [topFrame p0])=some (.next,sT (T5 w.params) n5 k5 os,cB,p5)) wy AA w
theorem JM(w:World)(os:OsState):segRunT treeTable pw w 28 ou 1 m6 (sT (T5 w.params) n5 k5 os) (piecesOf g6 env0 cB p5 [topFrame p0])=some (.next,sT (T6 w.params) n6 k6 os,cB,p6):=by kernel_rfl
theorem JI(w:World)(os:OsState):segRunT treeTable pw w 28 ou 1 m7 (sT (T6 w.params) n6 k6 os) (piecesOf g7 env0 cB p6 [topFrame p0])=some (.next,sT (T7 w.params) n7 k7 os,cB,p7):=by kernel_rfl
theorem Iy(w:World)(os:OsState):segRunT treeTable pw w 28 ou 1 m8 (sT (T7 w.params) n7 k7 os) (piecesOf g8 env0 cB p7 [topFrame p0])=some (.next,sT (T8 w.params) n8 k8 os,cB,p8):=by kernel_rfl
theorem Iv(i k:Nat):bB.drop i=(bB.drop i).take k++bB.drop (i+k):=by rw[Eq.symm List.drop_drop];rw[List.take_append_drop ..];rfl
theorem JA:bB.drop 75=[]:=by kernel_rfl
noncomputable def Au:Nat:=12+(1+(m1+(m2+(m3+(m4+(m5+(m6+(m7+(m8+2)))))))))
theorem fV{w:World}{q:Pos}{n N:Nat}{s s':SharedT}{r:Shared}{i k:Nat}{pos p':Pos}{l:List Stmt}(hl:l=(bB.drop i).take k)(h:segRunT treeTable pw w 28 ou 1 n s (piecesOf l env0 cB pos [topFrame q])=some (.next,s',cB,p'))
  (kk:topRun treeTable pw w 28 ou N s'.abs (restOf (bB.drop (i+k)) env0 cB p' [topFrame q])=some r):topRun treeTable pw w 28 ou (n+N) s.abs (restOf (bB.drop i) env0 cB pos [topFrame q])=some r:=by
 subst hl;rw[Iv i k];exact piece_app (segRun_of h) kk
theorem Cz(w:World)(os:OsState):topRun treeTable pw w 28 ou Au ⟨H0 w.params,#[],dr,276,os⟩ (topStub pw)=some ⟨H1 w.params,#[],dr,k8,os⟩:=by refine go_top (An w os) (piece_block (wR w os) ?_);refine fV (i:=0) (k:=2) rfl (JD w os) (fV (i:=2) (k:=1) rfl (Iw w os) (fV (i:=3) (k:=5) rfl (Ih w os) (fV (i:=8) (k:=51) rfl (JP w os) (fV (i:=59) (k:=1) rfl (Iu w os) (fV (i:=60) (k:=6) rfl (JM w os) (fV (i:=66) (k:=1) rfl (JI w os) (fV (i:=67) (k:=8) rfl (Iy w os) ?_)))))));rw[show bB.drop (67+8)=[]from JA];exact piece_nil (Ba w os)
theorem CX:LeftO pw qL qF JO (λs:Shared=>s.heap) (λw=>H1 w.params) 100000 false:=by
 refine LeftO.of_pieces (H₀:=H0) (H₁:=H1) (gs₀:=#[]) (gs₁:=#[]) (d₀:=dr) (d₁:=dr) (k₀:=276) (k₁:=k8) (m₀:=28) (ann:=ou) (M:=Au) zh yq Cz (by decide +kernel) λw=>?_
 funext os
 rw[te ..];rw[w4 ..];rw[y9 ..];rw[zv ..];rfl
set_option maxHeartbeats 4000000 in
theorem AQ:yb.wellSaid=true:=by
 iterate 18 refine look_both ?_ (by decide +kernel)
 iterate 2 refine look_both ?_ (by decide +kernel)
 iterate 18 refine look_both ?_ (by decide +kernel)
 decide +kernel
theorem GP:(chainsOk qL&&opensWell yb.row.prog&&(frees yb.row.toRowW&&yb.row.within.isEmpty))=true:=by kernel_rfl
noncomputable def dL:DefRec:=⟨sx "law",xP (aK 75),cP (aK 75),aQ (aK 75),match aK 75 with|.FunctionDef _ _ _ _ _ _ _ _ _ p=>p|_=>⟨0,0,0,0⟩⟩
theorem Ej:defOf qL yb.row.name=some (dL,[]):=by kernel_rfl
theorem D5:yb.row.prog.theDef yb.row.name=some (dL.params,dL.body,dL.scope):=by kernel_rfl
theorem EK{h:Heap}{a:Addr}{m m':Str->Option Value}(x:h.Ns a m)(y:h.Ns a m'):m=m':=x.eq_nsMap.trans y.eq_nsMap.symm
theorem v7:bJ 6 callerA:=⟨rfl,by decide +kernel,by decide +kernel⟩
theorem DD:WalkN qL qF (λ_ _=>True) (λw h=>lD (H1 w.params) h) yb.row.toRowW dL [] (λf vs=>PySem.call f vs):=by
 intro w s₀ s₁ mg mb G Y a o pm cd doc dV kV ho hd hcd hD hmg hgens args vals as hpre hlay hrd hwl hlo;refine aP (B8 hpre) λxs q1q hl=>?_;subst q1q;refine lr (xW hrd) λb vs q1q hL hR=>?_;subst q1q;have Y:lD (H1 w.params) s₁.heap:=Y;have hns:s₁.heap.Ns mainGlobals ((H1 w.params).nsMap mainGlobals):=(Heap.Ns.of_isNs (im w.params).1).keeps Y;have e:mg=(H1 w.params).nsMap mainGlobals:=EK G.T.g hns;have ea:a=281:=by have h1:mg (sx "law")=some (.ref a):=hmg;replace h1:=e▸h1;have h2:=gF w.params 17 (by decide);have h3:(H1 w.params).nsMap mainGlobals (sx "law")=some (.ref 281):=h2;replace h1:=h3▸h1;cases h1;rfl
 subst ea;have hW:=C5 (w:=w) (h:=s₁.heap) Y;have:=BK (A:=callerA) (s:=s₁) hW (xs:=xs.map .int) (a:=b) (vs:=vs) (Q:=λv s'=>GoodW yb.row.toRowW.claim (classAt s₀.heap) (ExcName.means s₀.heap) [.list (xs.map .int)] s₁ (.ok (.ret v)) s') v7 rfl rfl hL hR (gH xs) (Az xs (by show _<=16777216;lia)) λs' hg ho hk=>?_
 ·exact wpAny_mono this (λ_ _ q=>q) λ_ _ f=>f.elim
 ·exact⟨.inl ⟨.bool true,.bool true,[],rfl,(λ_=>rfl),.bool true,(by kernel_rfl),λ_=>⟨List.nodup_nil,λa h=>nomatch h⟩⟩,hk,ho,hg.trans hgens⟩
theorem HB:yb.Holds:=
 holds_law AQ λsaid=>
  holds_openN (q:=qL) (loose:=qF) (Xt:=JO) (XP:=λ_ _=>True) (Yf:=λs:Shared=>s.heap) (Ya:=λw=>H1 w.params) (YP:=λw h=>lD (H1 w.params) h) (N:=100000) CX
   (λw s e=>by have e:s.heap=H1 w.params:=e;refine(?_:lD (H1 w.params) s.heap);rw[e];exact λ_ _ q=>q)
   (λw h h' y k b o q=>k b o (y b o q)) (λ_ _=>trivial) (λ_ _ _ _ _=>trivial) Ej D5 rfl (λs _=>recFacts_of rfl) rfl said GP ⟨rfl,rfl,rfl,rfl,rfl,by decide +kernel⟩ ⟨[.list [.int 3,.int 1]],by decide +kernel,by decide +kernel⟩ DD
end Mine
theorem PySem.Challenge.cw_ta0088_02_holds : PySem.Challenge.rw_ta0088_02.Holds := by
  exact Mine.HB
