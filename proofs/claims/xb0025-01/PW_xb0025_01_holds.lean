import PyProof.Rows.All
import Wide.All
import OpenK.AllK
import Wide.FinOn
import Lean
import PySem.Challenge.RW_xb0025_01
set_option Elab.async false
set_option autoImplicit false
set_option linter.all false
noncomputable section
open PySem PySem.Calls PySem.Spec PySem.W PyProof.Rows
set_option genCtorIdx false
set_option genInjectivity false
set_option genSizeOf false
set_option genSizeOfSpec false
namespace Mine
theorem aG{p:Prop}(h:¬p->False):p:=Classical.byContradiction h
@[elab_as_elim] theorem aB{c:Type}{a b:c}{p:c->Prop}(h:a=b)(k:p b):p a:=h▸k
section
variable{α β γ δ:Type}{p q:Prop}
theorem j7{P:α->β->Prop}(a:α)(b:β)(h:P a b):∃a b,P a b:=⟨a,b,h⟩
theorem vf{P:α->β->γ->Prop}(a:α)(b:β)(c:γ)(h:P a b c):∃a b c,P a b c:=⟨a,b,c,h⟩
theorem vg{P:α->β->γ->δ->Prop}(a:α)(b:β)(c:γ)(d:δ)(h:P a b c d):∃a b c d,P a b c d:=⟨a,b,c,d,h⟩
theorem aK{P:α->Prop}(h:∃a,P a)(k:∀a,P a->q):q:=h.elim k
theorem bd{P:α->β->Prop}(h:∃a b,P a b)(k:∀a b,P a b->q):q:=h.elim λa h=>h.elim (k a)
theorem cU{P:α->β->γ->Prop}(h:∃a b c,P a b c)(k:∀a b c,P a b c->q):q:=h.elim λa h=>bd h (k a)
theorem c8{P:α->β->γ->δ->Prop}(h:∃a b c d,P a b c d)(k:∀a b c d,P a b c d->q):q:=h.elim λa h=>cU h (k a)
variable{a b c d e f g:Prop}
theorem cx(h:a/\b)(k:a->b->q):q:=k h.1 h.2
theorem eY(h:a/\b/\c)(k:a->b->c->q):q:=cx h.2 (k h.1)
theorem ko(h:a/\b/\c/\d)(k:a->b->c->d->q):q:=eY h.2 (k h.1)
theorem wl(h:a/\b/\c/\d/\e)(k:a->b->c->d->e->q):q:=ko h.2 (k h.1)
theorem Gf(h:a/\b/\c/\d/\e/\f)(k:a->b->c->d->e->f->q):q:=wl h.2 (k h.1)
theorem DC(h:a/\b/\c/\d/\e/\f/\g)(k:a->b->c->d->e->f->g->q):q:=Gf h.2 (k h.1)
end
theorem aN{a:Type}{x:a}{p:Prop}(h:none=some x):p:=by cases h
theorem iu{a:Type}{x:a}{p:Prop}(h:some x=none):p:=by cases h
theorem en{p:Prop}(h:false=true):p:=by cases h
theorem HR{p:Prop}(h:true=false):p:=by cases h
theorem CV{a:Type}{x:a}{l:List a}{p:Prop}(h:[]=x::l):p:=by cases h
theorem Ed{a:Type}{x:a}{l:List a}{p:Prop}(h:x::l=[]):p:=by cases h
noncomputable abbrev G:=Addr->Option Obj
mutual
inductive Rd(prog:Program)(w:World)(g:G):Value->PyData->Prop
 |none:Rd prog w g .none .none
 |bool (b:Bool):Rd prog w g (.bool b) (.bool b)
 |int (i:Int) (t:Tok):Rd prog w g (.int i t) (.int i)
 |str (x:Str) (t:Tok):Rd prog w g (.str x t) (.str x)
 |list {a:Addr} {vs:Array Value} {n:Nat} {xs:List PyData}:g a=some {cls:=.type "list",data:=.seq vs n}->aD prog w g vs.toList xs->Rd prog w g (.ref a) (.list xs)
 |tuple {a:Addr} {vs:Array Value} {n:Nat} {xs:List PyData}:g a=some {cls:=.type "tuple",data:=.seq vs n}->aD prog w g vs.toList xs->Rd prog w g (.ref a) (.tuple xs)
 |dict {a:Addr} {o:Obj} {ks:List Str} {vs:List Value} {ds:List PyData}:g a=some o->o.IsDictOf (strKind prog w) (ks.zip vs)->ks.length=vs.length->(a==sysModules)=false->aD prog w g vs ds->Rd prog w g (.ref a) (.dict ((ks.map PyData.str).zip ds))
inductive aD(prog:Program)(w:World)(g:G):List Value->List PyData->Prop
 |nil:aD prog w g [] []
 |cons {v:Value} {d:PyData} {vs:List Value} {ds:List PyData}:Rd prog w g v d->aD prog w g vs ds->aD prog w g (v::vs) (d::ds)
end
section
variable{prog:Program}{w:World}{g g':G}
theorem Rd.mono{v:Value}{d:PyData}(c:∀b o,g b=some o->g' b=some o)(r:Rd prog w g v d):Rd prog w g' v d:=
 Rd.rec (motive_1:=λv d _=>Rd prog w g' v d) (motive_2:=λvs ds _=>aD prog w g' vs ds) .none .bool .int .str (λh _ r=>.list (c _ _ h) r) (λh _ r=>.tuple (c _ _ h) r) (λh e hl hs _ r=>.dict (c _ _ h) e hl hs r) .nil (λ_ _ a b=>.cons a b) r
theorem aD.ind{motive:(vs:List Value)->(ds:List PyData)->aD prog w g vs ds->Prop}{vs:List Value}{ds:List PyData}(r:aD prog w g vs ds)(nil:motive [] [] .nil)(cons:∀{v:Value}{d:PyData}{vs:List Value}{ds:List PyData}(a:Rd prog w g v d)(b:aD prog w g vs ds),motive vs ds b->motive (v::vs) (d::ds) (.cons a b)):motive vs ds r:=
 aD.rec (motive_1:=λ_ _ _=>True) (motive_2:=motive) trivial (λ_=>trivial) (λ_ _=>trivial) (λ_ _=>trivial) (λ_ _ _=>trivial) (λ_ _ _=>trivial) (λ_ _ _ _ _ _=>trivial) nil (λa b _ c=>cons a b c) r
theorem aD.mono{vs:List Value}{ds:List PyData}(c:∀b o,g b=some o->g' b=some o)(r:aD prog w g vs ds):aD prog w g' vs ds:=by
 induction r using aD.ind with
 |nil=>exact .nil
 |cons a b d=>exact .cons (a.mono c) d
theorem aD.length{vs:List Value}{ds:List PyData}(r:aD prog w g vs ds):vs.length=ds.length:=by
 induction r using aD.ind with
 |nil=>rfl
 |cons a b c=>exact congrArg (·+1) c
theorem aD.get{vs:List Value}{ds:List PyData}(r:aD prog w g vs ds){i:Nat}{d:PyData}(h:ds[i]?=some d):∃v,vs[i]?=some v/\Rd prog w g v d:=by
 induction r using aD.casesOn with
 |nil=>exact aN h
 |cons a b=>
  induction i using Nat.casesOn with
  |zero=>obtain rfl:=Option.some.inj h;exact⟨_,rfl,a⟩
  |succ i=>exact aD.get b h
theorem aD.append{vs c:List Value}{ds d:List PyData}(r:aD prog w g vs ds)(y:aD prog w g c d):aD prog w g (vs++c) (ds++d):=by
 induction r using aD.casesOn with
 |nil=>exact y
 |cons a b=>exact .cons a (aD.append b y)
theorem aD.take{vs:List Value}{ds:List PyData}(r:aD prog w g vs ds)(n:Nat):aD prog w g (vs.take n) (ds.take n):=by
 induction n using Nat.casesOn with
 |zero=>exact .nil
 |succ n=>
  induction r using aD.casesOn with
  |nil=>exact .nil
  |cons a b=>exact .cons a (aD.take b n)
theorem aD.drop{vs:List Value}{ds:List PyData}(r:aD prog w g vs ds)(n:Nat):aD prog w g (vs.drop n) (ds.drop n):=by
 induction n using Nat.casesOn with
 |zero=>exact r
 |succ n=>
  induction r using aD.casesOn with
  |nil=>exact .nil
  |cons a b=>exact aD.drop b n
theorem aD.set{vs:List Value}{ds:List PyData}{v:Value}{d:PyData}(c:Rd prog w g v d)(r:aD prog w g vs ds)(i:Nat):aD prog w g (vs.set i v) (ds.set i d):=by
 induction r using aD.casesOn with
 |nil=>exact .nil
 |cons a b=>
  induction i using Nat.casesOn with
  |zero=>exact .cons c b
  |succ i=>exact .cons a (aD.set c b i)
theorem aD.eraseIdx{vs:List Value}{ds:List PyData}(r:aD prog w g vs ds)(i:Nat):aD prog w g (vs.eraseIdx i) (ds.eraseIdx i):=by
 induction r using aD.casesOn with
 |nil=>exact .nil
 |cons a b=>
  induction i using Nat.casesOn with
  |zero=>exact b
  |succ i=>exact .cons a (aD.eraseIdx b i)
end
set_option genCtorIdx true in
inductive V where
 |d (x:PyData)
 |ref (i:Nat)
 |tup (vs:List V)
 |cmp (one two:Int)
 |unb
set_option genCtorIdx true in
inductive aA where
 |list (vs:List PyData)
 |dict (ks:List Str) (vs:List PyData)
 |froz (x:PyData)
structure bo where
 env:List V
 st:List aA
structure bl where
 name:Str
 kind:NameKind
 mine:Bool
structure Bs where
 prog:Program
 w:World
 K:G
 P0:Addr
 c0:Addr
 ps0:Array Value
 h₀:Heap
 hP0:h₀.get? P0≠none
 isCmp:G->Addr->Int->Int->Prop
 cmpMono:∀{g g':G},(∀b o,g b=some o->g' b=some o)->∀{a:Addr}{x y:Int},isCmp g a x y->isCmp g' a x y
mutual
inductive Rv(B:Bs)(g:G)(ρ:List Addr):V->Value->Prop
 |d {x:PyData} {v:Value}:Rd B.prog B.w g v x->Rv B g ρ (.d x) v
 |ref {i:Nat} {a:Addr}:ρ[i]?=some a->Rv B g ρ (.ref i) (.ref a)
 |tup {a:Addr} {vs:Array Value} {n:Nat} {xs:List V}:g a=some {cls:=.type "tuple",data:=.seq vs n}->aM B g ρ xs vs.toList->Rv B g ρ (.tup xs) (.ref a)
 |cmp {a:Addr} {x y:Int}:B.isCmp g a x y->Rv B g ρ (.cmp x y) (.ref a)
inductive aM(B:Bs)(g:G)(ρ:List Addr):List V->List Value->Prop
 |nil:aM B g ρ [] []
 |cons {x:V} {v:Value} {xs:List V} {vs:List Value}:Rv B g ρ x v->aM B g ρ xs vs->aM B g ρ (x::xs) (v::vs)
end
section
variable{B:Bs}{g g':G}{ρ ρ':List Addr}
theorem td{b:Type}{l c:List b}(p:l<+:c){i:Nat}{a:b}(h:l[i]?=some a):c[i]?=some a:=by obtain⟨r,rfl⟩:=p;exact Eq.trans (List.getElem?_append_left (List.getElem?_eq_some_iff.mp h).1) (h)
theorem Rv.mono{x:V}{v:Value}(c:∀b o,g b=some o->g' b=some o)(p:ρ<+:ρ')(r:Rv B g ρ x v):Rv B g' ρ' x v:=
 Rv.rec (motive_1:=λx v _=>Rv B g' ρ' x v) (motive_2:=λxs vs _=>aM B g' ρ' xs vs) (λr=>.d (r.mono c)) (λh=>.ref (td p h)) (λh _ r=>.tup (c _ _ h) r) (λh=>.cmp (B.cmpMono c h)) .nil (λ_ _ a b=>.cons a b) r
theorem aM.ind{motive:(xs:List V)->(vs:List Value)->aM B g ρ xs vs->Prop}{xs:List V}{vs:List Value}(r:aM B g ρ xs vs)(nil:motive [] [] .nil)(cons:∀{x:V}{v:Value}{xs:List V}{vs:List Value}(a:Rv B g ρ x v)(b:aM B g ρ xs vs),motive xs vs b->motive (x::xs) (v::vs) (.cons a b)):motive xs vs r:=
 aM.rec (motive_1:=λ_ _ _=>True) (motive_2:=motive) (λ_=>trivial) (λ_=>trivial) (λ_ _ _=>trivial) (λ_=>trivial) nil (λa b _ c=>cons a b c) r
theorem aM.mono{xs:List V}{vs:List Value}(c:∀b o,g b=some o->g' b=some o)(p:ρ<+:ρ')(r:aM B g ρ xs vs):aM B g' ρ' xs vs:=by
 induction r using aM.ind with
 |nil=>exact .nil
 |cons a b d=>exact .cons (a.mono c p) d
theorem aM.length{xs:List V}{vs:List Value}(r:aM B g ρ xs vs):xs.length=vs.length:=by
 induction r using aM.ind with
 |nil=>rfl
 |cons a b c=>exact congrArg (·+1) c
end
inductive DY(B:Bs)(g:G)(h:Heap)(a:Addr)(vs:List PyData):Prop
 |mk (hg:g a=none) (xs:Array Value) (n:Nat) (ho:h.get? a=some {cls:=.type "list",data:=.seq xs n}) (rs:aD B.prog B.w g xs.toList vs):DY B g h a vs
inductive DT(B:Bs)(g:G)(h:Heap)(a:Addr)(ks:List Str)(ds:List PyData):Prop
 |mk (hg:g a=none) (hs:(a==sysModules)=false) (vs:List Value) (hl:ks.length=vs.length) (hm:h.DictOf (strKind B.prog B.w) a (ks.zip vs)) (rs:aD B.prog B.w g vs ds):DT B g h a ks ds
noncomputable def d4(B:Bs)(g:G)(h:Heap)(a:Addr):aA->Prop
 |.list vs=>DY B g h a vs
 |.dict ks ds=>DT B g h a ks ds
 |.froz d=>Rd B.prog B.w g (.ref a) d
structure St(B:Bs)(W:List Addr)(g g':G)(s s':Shared):Prop where
 le:∀b o,g b=some o->g' b=some o
 kept:∀b o,b∉W->s.heap.get? b=some o->s'.heap.get? b=some o
 newg:∀b o,g' b=some o->g b=some o\/b∈W\/s.heap.get? b=none
 old:OldK B.h₀ s.heap->OldK B.h₀ s'.heap
 os:s'.os=s.os
 gens:s.gens.size<=s'.gens.size/\∀i,i<s.gens.size->s'.gens[i]?=s.gens[i]?
 bare:AllBare s.gens->AllBare s'.gens
theorem gE{h₀ h h':Heap}(k:OldK h₀ h)(d:∀b o,h₀.get? b≠none->h.get? b=some o->h'.get? b=some o):OldK h₀ h':=by
 have f:∀b o,h₀.get? b=some o->h₀.get? b≠none:=λb o e q=>by rw[e]at q;exact iu q
 refine⟨λb o e=>?_,λb o e=>(k.there b o e).elim λg a=>⟨g,d _ _ (f b o e) a⟩⟩;refine aG λc=>?_;rcases k.old b o e with x|⟨t,hc,vs,more,i,x⟩|⟨rfl,hc,⟨g,es,n,a,r⟩,z⟩
 ·exact c (.inl (d _ _ (f b o e) x))
 ·exact c (.inr (.inl ⟨t,hc,vs,more,i,d _ _ (f b o e) x⟩))
 ·exact c (.inr (.inr ⟨rfl,hc,⟨g,es,n,d _ _ (f _ o e) a,r⟩,λkey=>by rw[OldK.staticOf_congr ((d _ _ (f _ o e) a).trans a.symm) key];exact z key⟩))
theorem St.refl{B:Bs}{W:List Addr}{g:G}(s:Shared):St B W g g s s:=
 ⟨λ_ _ e=>e,λ_ _ _ e=>e,λ_ _ e=>.inl e,id,rfl,⟨Nat.le_refl _,λ_ _=>rfl⟩,id⟩
theorem St.trans{B:Bs}{W j:List Addr}{g a c:G}{s d s₂:Shared}(x:St B W g a s d)(y:St B j a c d s₂)(l:∀b∈j,b∈W\/s.heap.get? b=none):St B W g c s s₂:=by
 refine⟨λb o e=>y.le b o (x.le b o e),λb o f e=>y.kept b o (λn=>?_) (x.kept b o f e),λb o e=>?_,λk=>y.old (x.old k),y.os.trans x.os,⟨Nat.le_trans x.gens.1 y.gens.1,λi m=>(y.gens.2 i (Nat.lt_of_lt_of_le m x.gens.1)).trans (x.gens.2 i m)⟩,λk=>y.bare (x.bare k)⟩
 ·rcases l b n with h|h
  ·exact f h
  ·rw[h]at e;exact aN e
 ·rcases y.newg b o e with h|h|h
  ·exact x.newg b o h
  ·rcases l b h with h|h
   ·exact .inr (.inl h)
   ·exact .inr (.inr h)
  ·by_cases f:b∈W
   ·exact .inr (.inl f)
   ·cases q:s.heap.get? b with
    |none=>exact .inr (.inr rfl)
    |some p=>rw[x.kept b p f q]at h;exact iu h
theorem St.mono{B:Bs}{W a:List Addr}{g c:G}{s s':Shared}(x:St B W g c s s')(h:∀b∈W,b∈a):St B a g c s s':=
 ⟨x.le,λb o d e=>x.kept b o (λf=>d (h b f)) e,λb o e=>(x.newg b o e).imp id (Or.imp (h b) id),x.old,x.os,x.gens,x.bare⟩
theorem St.toks{B:Bs}{W:List Addr}{g:G}(s:Shared)(t:Nat):St B W g g s {s with toks:=t}:=
 ⟨λ_ _ e=>e,λ_ _ _ e=>e,λ_ _ e=>.inl e,id,rfl,⟨Nat.le_refl _,λ_ _=>rfl⟩,id⟩
theorem nC{h₀ h:Heap}(k:OldK h₀ h)(o:Obj):OldK h₀ (h.push o):=k.step_keeps λ_ _ e=>Heap.get?_push_of_some _ e
theorem St.push{B:Bs}{W:List Addr}{g:G}(s:Shared)(o:Obj)(t:Nat):St B W g g s {s with heap:=s.heap.push o,toks:=t}:=
 ⟨λ_ _ e=>e,λ_ _ _ e=>Heap.get?_push_of_some _ e,λ_ _ e=>.inl e,λk=>nC k o,rfl,⟨Nat.le_refl _,λ_ _=>rfl⟩,id⟩
theorem St.keeps{B:Bs}{W:List Addr}{g:G}(s:Shared){h':Heap}(t:Nat)(a:∀b o,s.heap.get? b=some o->h'.get? b=some o):St B W g g s {s with heap:=h',toks:=t}:=
 ⟨λ_ _ e=>e,λb o _ e=>a b o e,λ_ _ e=>.inl e,λk=>k.step_keeps a,rfl,⟨Nat.le_refl _,λ_ _=>rfl⟩,id⟩
theorem St.ext{B:Bs}{W:List Addr}{g:G}{s:Shared}{a:Addr}{h':Heap}(t:Nat)(d:a∈W)(hs:Heap.ExtBut a s.heap h')(c:B.h₀.get? a=none):St B W g g s {s with heap:=h',toks:=t}:=
 ⟨λ_ _ e=>e,λb o f e=>hs b o (λq=>f (q▸d)) e,λ_ _ e=>.inl e,λk=>gE k λb o h e=>hs b o (λq=>by subst q;exact h c) e,rfl,⟨Nat.le_refl _,λ_ _=>rfl⟩,id⟩
theorem aU(h:Heap):h.get? h.objs.size=none:=by
 cases q:h.get? h.objs.size with
 |none=>rfl
 |some o=>exact absurd (Heap.lt_size q) (Nat.lt_irrefl _)
noncomputable def G.put(g:G)(a:Addr)(o:Obj):G:=λb=>if b=a then some o else g b
theorem G.put_self(g:G)(a:Addr)(o:Obj):(g.put a o) a=some o:=if_pos rfl
theorem G.put_ne(g:G){a b:Addr}(o:Obj)(h:b≠a):(g.put a o) b=g b:=if_neg h
theorem G.put_le{g:G}{a:Addr}{o:Obj}(h:g a=none):∀b c,g b=some c->(g.put a o) b=some c:=λb c e=>by
 by_cases d:b=a
 ·subst d;replace e:=Eq.trans (Eq.symm h) e;exact aN e
 ·exact Eq.trans (G.put_ne g o d) (e)
theorem St.pushG{B:Bs}{W:List Addr}{g:G}(s:Shared)(o:Obj)(t:Nat)(c:g s.heap.objs.size=none):St B W g (g.put s.heap.objs.size o) s {s with heap:=s.heap.push o,toks:=t}:=
 ⟨G.put_le c,λ_ _ _ e=>Heap.get?_push_of_some _ e,λb d e=>by
  by_cases a:b=s.heap.objs.size
  ·exact a▸(.inr (.inr (aU _)))
  ·rw[G.put_ne g o a]at e;exact .inl e,λk=>nC k o,rfl,⟨Nat.le_refl _,λ_ _=>rfl⟩,id⟩
theorem St.same{B:Bs}{W:List Addr}{g:G}{s:Shared}{a:Addr}{h':Heap}(t:Nat)(c:a∈W)(hs:Heap.SameBut a s.heap h')(b:B.h₀.get? a=none):St B W g g s {s with heap:=h',toks:=t}:=
 St.ext t c hs.extBut b
structure Ok(n:Nat)(A:Around):Prop where
 handled:A.handled=none
 depth:A.depth+n+1<recursionLimit
 units:A.units+30*n+200<cLine
structure Fx where
 B:Bs
 L:List bl
 env:Env
 own:List Addr
noncomputable def dK(B:Bs)(g:G)(ρ:List Addr)(v:V)(b:Option Value):Prop:=match v with
 |.unb=>True
 |v=>∃a,b=some a/\Rv B g ρ v a
structure zj(F:Fx)(g:G)(ρ:List Addr)(h:Heap)(env:List V):Prop where
 len:env.length=F.L.length
 loc:∃m,h.Ns F.env.locals m/\∀(i:Nat)(x:Str)(b:Bool)(v:V),F.L[i]?=some (bl.mk x .local b)->env[i]?=some v->dK F.B g ρ v (m x)
 cel:∀(i:Nat)(x:Str)(b:Bool)(v:V),F.L[i]?=some (bl.mk x .cell b)->env[i]?=some v->∃c ov,F.env.cells.lookup x=some c/\h.IsCell c ov/\dK F.B g ρ v ov/\(b=true->c∈F.own)
structure D1(F:Fx)(g:G)(ρ:List Addr)(h:Heap):Prop where
 sub:∀b o,g b=some o->h.get? b=some o
 base:∀b o,F.B.K b=some o->g b=some o
 gno:∀b∈F.own,g b=none
 rno:∀b∈F.own,b∉ρ
 rhi:∀b∈ρ,F.B.h₀.get? b=none
 ohi:∀b∈F.own,b=F.B.P0\/F.B.h₀.get? b=none
 lown:F.env.locals∈F.own
 lhi:F.B.h₀.get? F.env.locals=none
 chi:∀x∈F.env.cells,F.B.h₀.get? x.2=none/\x.2≠F.env.locals/\g x.2=none/\x.2∉ρ
 cap:F.env.cells.Pairwise λx y=>x.2≠y.2
 rn:ρ.Nodup
 olt:∀b∈F.own,h.get? b≠none
 rlt:∀b∈ρ,h.get? b≠none
 clt:∀x∈F.env.cells,h.get? x.2≠none
structure aF(F:Fx)(g:G)(ρ:List Addr)(s:Shared)(σ:bo):Prop where
 so:D1 F g ρ s.heap
 old:OldK F.B.h₀ s.heap
 bare:AllBare s.gens
 tab:∃more,s.heap.get? F.B.P0=some {cls:=.none,data:=.fields (F.B.ps0++more)}/\TriplesOk (F.B.ps0++more).toList
 fr:zj F g ρ s.heap σ.env
 stl:ρ.length=σ.st.length
 st:∀(i:Nat)(a:Addr)(c:aA),ρ[i]?=some a->σ.st[i]?=some c->d4 F.B g s.heap a c
inductive aC{α β:Type}(F:Fx)(g:G)(ρ:List Addr)(s:Shared)(R:G->List Addr->β->α->Prop)(Q:β->bo->Prop)(a:α)(s':Shared):Prop
 |mk (g':G) (ρ':List Addr) (b:β) (σ':bo) (pre:ρ<+:ρ') (nw:∀x∈ρ',x∈ρ\/s.heap.get? x=none) (st:St F.B (F.own++ρ) g g' s s') (inv:aF F g' ρ' s' σ') (r:R g' ρ' b a) (q:Q b σ'):aC F g ρ s R Q a s'
noncomputable def E0:Value->Shared->Prop:=λ_ _=>False
section
variable{F:Fx}{g g':G}{ρ ρ':List Addr}{s s':Shared}{σ:bo}
theorem dK.mono{B:Bs}{v:V}{f:Option Value}(c:∀b o,g b=some o->g' b=some o)(p:ρ<+:ρ')(h:dK B g ρ v f):dK B g' ρ' v f:=by
 induction v using V.casesOn with
 |unb=>trivial
 |d x=>obtain⟨a,e,r⟩:=h;exact⟨a,e,r.mono c p⟩
 |ref x=>obtain⟨a,e,r⟩:=h;exact⟨a,e,r.mono c p⟩
 |tup x=>obtain⟨a,e,r⟩:=h;exact⟨a,e,r.mono c p⟩
 |cmp x y=>obtain⟨a,e,r⟩:=h;exact⟨a,e,r.mono c p⟩
theorem dF{h h':Heap}{a:Addr}{m:Str->Option Value}(n:h.Ns a m)(e:∀o,h.get? a=some o->h'.get? a=some o):h'.Ns a m:=by exact cU n λo es ep b=>cx b λc r=>vf o es ep ⟨e o c,r⟩
theorem pX{prog:Program}{w:World}{K:Type}[DecidableEq K]{knd:KeyKind prog w K}{h h':Heap}{a:Addr}{kvs:List (K×Value)}(n:h.DictOf knd a kvs)(e:∀o,h.get? a=some o->h'.get? a=some o):h'.DictOf knd a kvs:=by refine cU n λo es ep b=>?_;have c:=b.1;exact vf o es ep ⟨e o c,(b.2)⟩
theorem d4.mono{B:Bs}{h h':Heap}{a:Addr}{c:aA}(x:d4 B g h a c)(f:∀b o,g b=some o->g' b=some o)(l:g a=none->g' a=none)(e:∀o,h.get? a=some o->h'.get? a=some o):d4 B g' h' a c:=by
 induction c using aA.casesOn with
 |list vs=>obtain⟨i,xs,n,j,k⟩:=x;exact⟨l i,xs,n,e _ j,k.mono f⟩
 |dict ks ds=>obtain⟨i,j,vs,m,p,k⟩:=x;exact⟨l i,j,vs,m,pX p e,k.mono f⟩
 |froz d=>exact Rd.mono f x
theorem d4.there{B:Bs}{h:Heap}{a:Addr}{c:aA}(x:d4 B g h a c)(sub:∀b o,g b=some o->h.get? b=some o):∃o,h.get? a=some o:=by
 induction c using aA.casesOn with
 |list vs=>obtain⟨_,_,_,e,_⟩:=x;exact⟨_,e⟩
 |dict ks ds=>obtain⟨_,_,_,_,f,_⟩:=x;obtain⟨o,_,_,i,_⟩:=f;exact⟨o,i⟩
 |froz d=>cases x with
  |list h=>exact⟨_,sub _ _ h⟩
  |tuple h=>exact⟨_,sub _ _ h⟩
  |dict h=>exact⟨_,sub _ _ h⟩
theorem aF.growW{W:List Addr}(I:aF F g ρ s σ)(st:St F.B W g g' s s')(l:∀b∈W,b∉F.own/\b∉ρ/\(∀x∈F.env.cells,b≠x.2)/\F.B.h₀.get? b=none/\g' b=none)(sub:∀b o,g' b=some o->s'.heap.get? b=some o):aF F g' ρ s' σ:=by
 have p:∀b,s.heap.get? b≠none->g b=none->g' b=none:=λb d e=>by
  cases q:g' b with
  |none=>rfl
  |some o=>
   rcases st.newg b o q with h|h|h
   ·rw[e]at h;exact aN h
   ·rw[(l b h).2.2.2.2]at q;exact aN q
   ·exact(d h).elim
 have z:∀b∈F.own,∀o,s.heap.get? b=some o->s'.heap.get? b=some o:=λb d o e=>st.kept b o (λj=>(l b j).1 d) e;have A:∀b∈ρ,∀o,s.heap.get? b=some o->s'.heap.get? b=some o:=λb d o e=>st.kept b o (λj=>(l b j).2.1 d) e;have B:∀x∈F.env.cells,∀o,s.heap.get? x.2=some o->s'.heap.get? x.2=some o:=λx f o e=>st.kept x.2 o (λj=>(l _ j).2.2.1 x f rfl) e;have lv:∀b,(∀o,s.heap.get? b=some o->s'.heap.get? b=some o)->s.heap.get? b≠none->s'.heap.get? b≠none:=λb k h q=>by
  cases e:s.heap.get? b with
  |none=>exact h e
  |some o=>rw[k o e]at q;exact iu q
 refine aK (I.tab) λmore n=>?_;obtain⟨j,r⟩:=n;refine⟨⟨sub,λb o e=>st.le b o (I.so.base b o e),λb d=>p b (I.so.olt b d) (I.so.gno b d),I.so.rno,I.so.rhi,I.so.ohi,I.so.lown,I.so.lhi,λx f=>⟨(I.so.chi x f).1,(I.so.chi x f).2.1,p _ (I.so.clt x f) (I.so.chi x f).2.2.1,(I.so.chi x f).2.2.2⟩,I.so.cap,I.so.rn,λb d=>lv b (z b d) (I.so.olt b d),λb d=>lv b (A b d) (I.so.rlt b d),λx f=>lv _ (B x f) (I.so.clt x f)⟩,
  st.old I.old,st.bare I.bare,⟨more,st.kept _ _ (λC=>F.B.hP0 (l _ C).2.2.2.1) j,r⟩,⟨I.fr.len,?_,?_⟩,I.stl,λi a c t hc=>?_⟩
 ·obtain⟨m,D,E⟩:=I.fr.loc;exact⟨m,dF D (z _ I.so.lown),λi x b v u w=>(E i x b v u w).mono st.le (List.prefix_refl _)⟩
 ·intro i x b v u w;refine aG λy=>bd (I.fr.cel i x b v u w) λc H n=>ko n λe1 J K L=>aK J λo n=>?_;obtain⟨M,N⟩:=n;exact y (j7 c H ⟨e1,⟨o,B _ (mem_of_lookup e1) o M,N⟩,K.mono st.le (List.prefix_refl _),L⟩)
 ·exact(I.st i a c t hc).mono st.le (p a (I.so.rlt a (List.mem_of_getElem? t))) (A a (List.mem_of_getElem? t))
theorem aF.grow(I:aF F g ρ s σ)(st:St F.B [] g g' s s')(sub:∀b o,g' b=some o->s'.heap.get? b=some o):aF F g' ρ s' σ:=
 I.growW st (λ_ a=>nomatch a) sub
theorem aF.toks(I:aF F g ρ s σ)(t:Nat):aF F g ρ {s with toks:=t} σ:=I.grow (St.toks s t) I.so.sub
theorem aF.push(I:aF F g ρ s σ)(o:Obj)(t:Nat):aF F g ρ {s with heap:=s.heap.push o,toks:=t} σ:=
 I.grow (St.push s o t) λb a e=>Heap.get?_push_of_some _ (I.so.sub b a e)
theorem aF.gnew(I:aF F g ρ s σ):g s.heap.objs.size=none:=by
 cases q:g s.heap.objs.size with
 |none=>rfl
 |some o=>exact absurd (Heap.lt_size (I.so.sub _ _ q)) (Nat.lt_irrefl _)
theorem aF.pushG(I:aF F g ρ s σ)(o:Obj)(t:Nat)(c:o.isFreed=false):aF F (g.put s.heap.objs.size o) ρ {s with heap:=s.heap.push o,toks:=t} σ:=
 I.grow (St.pushG s o t I.gnew) λb d e=>by
  by_cases a:b=s.heap.objs.size
  ·subst a;rw[G.put_self]at e;obtain rfl:=Option.some.inj e;exact Heap.get?_push_size _ c
  ·rw[G.put_ne g o a]at e;exact Heap.get?_push_of_some _ (I.so.sub b d e)
end
section
variable{α β γ:Type}{F:Fx}{g:G}{ρ:List Addr}{s:Shared}{σ:bo}{R:G->List Addr->β->α->Prop}{Q:β->bo->Prop}
theorem aC.now{a:α}{b:β}(I:aF F g ρ s σ)(r:R g ρ b a)(q:Q b σ):aC F g ρ s R Q a s:=
 ⟨g,ρ,b,σ,List.prefix_refl _,λ_ h=>.inl h,St.refl s,I,r,q⟩
theorem aC.by{c:G}{s':Shared}{a:α}{b:β}(st:St F.B (F.own++ρ) g c s s')(I:aF F c ρ s' σ)(r:R c ρ b a)(q:Q b σ):aC F g ρ s R Q a s':=
 ⟨c,ρ,b,σ,List.prefix_refl _,λ_ h=>.inl h,st,I,r,q⟩
theorem aC.after{k:G}{c:List Addr}{s' s'':Shared}{a:α}(p:ρ<+:c)(l:∀x∈c,x∈ρ\/s.heap.get? x=none)(st:St F.B (F.own++ρ) g k s s')(h:aC F k c s' R Q a s''):aC F g ρ s R Q a s'':=by
 obtain⟨t,d,b,e,u,f,i,m,r,q⟩:=h;refine⟨t,d,b,e,p.trans u,λx n=>?_,st.trans i λb v=>?_,m,r,q⟩
 ·rcases f x n with h|h
  ·exact l x h
  ·by_cases hw:x∈F.own++ρ
   ·rcases List.mem_append.mp hw with j|j
    ·exact((m.so.rno x j) n).elim
    ·exact .inl j
   ·cases q:s.heap.get? x with
    |none=>exact .inr rfl
    |some o=>rw[st.kept x o hw q]at h;exact iu h
 ·rcases List.mem_append.mp v with h|h
  ·exact .inl (List.mem_append_left _ h)
  ·rcases l b h with h|h
   ·exact .inl (List.mem_append_right _ h)
   ·exact .inr h
theorem aC.mono{j:β->bo->Prop}{a:α}{s':Shared}(h:aC F g ρ s R Q a s')(k:∀b c,Q b c->j b c):aC F g ρ s R j a s':=by obtain⟨l,d,b,e,m,f,i,n,r,q⟩:=h;exact⟨l,d,b,e,m,f,i,n,r,k _ _ q⟩
end
section
variable{α β γ δ:Type}{F:Fx}{g:G}{ρ:List Addr}{s:Shared}{σ:bo}{R:G->List Addr->β->α->Prop}{Q:β->bo->Prop}{M:Model}{A:Around}{R':G->List Addr->δ->γ->Prop}{Q':δ->bo->Prop}
end
end Mine
end
noncomputable section
open PySem PySem.Calls PySem.Spec PySem.W PyProof.Rows
set_option backward.match.sparseCases false
namespace Mine
section
variable{F:Fx}{g:G}{ρ:List Addr}{s:Shared}{σ:bo}{Q:V->bo->Prop}
inductive He(prog:Program)(w:World)(g:G)(h:Heap)(xs:List PyData):Value->Prop
 |mk (a:Addr) (vs:Array Value) (n:Nat) (i:IsT h a vs n) (r:aD prog w g vs.toList xs):He prog w g h xs (.ref a)
inductive Hd(prog:Program)(w:World)(g:G)(h:Heap)(xs:List PyData):Value->Prop
 |mk (a:Addr) (vs:Array Value) (n:Nat) (i:IsL h a vs n) (r:aD prog w g vs.toList xs):Hd prog w g h xs (.ref a)
theorem Rd.isT{g:G}{h:Heap}{prog:Program}{w:World}{v:Value}{xs:List PyData}(r:Rd prog w g v (.tuple xs))(sub:∀b o,g b=some o->h.get? b=some o):He prog w g h xs v:=by
 cases r with
 |tuple h r=>exact⟨_,_,_,sub _ _ h,r⟩
theorem Rd.isL{g:G}{h:Heap}{prog:Program}{w:World}{v:Value}{xs:List PyData}(r:Rd prog w g v (.list xs))(sub:∀b o,g b=some o->h.get? b=some o):Hd prog w g h xs v:=by
 cases r with
 |list h r=>exact⟨_,_,_,sub _ _ h,r⟩
theorem dm{v:V}{a:Value}(I:aF F g ρ s σ)(r:Rv F.B g ρ v a)(q:Q v σ)(t:Nat):aC F g ρ s (Rv F.B) Q a {s with toks:=t}:=
 aC.by (St.toks s t) (I.toks t) r q
theorem C0{d:PyData}(I:aF F g ρ s σ)(o:Obj)(a:o.isFreed=false)(t:Nat)(r:Rd F.B.prog F.B.w (g.put s.heap.objs.size o) (.ref s.heap.objs.size) d)(q:Q (.d d) σ):
  aC F g ρ s (Rv F.B) Q (.ref s.heap.objs.size) {s with heap:=s.heap.push o,toks:=t}:=
 aC.by (St.pushG s o t I.gnew) (I.pushG o t a) (.d r) q
theorem AN{vs:Array Value}{n:Nat}{ds:List PyData}(I:aF F g ρ s σ)(r:aD F.B.prog F.B.w g vs.toList ds)(t:Nat)(q:Q (.d (.tuple ds)) σ):
  aC F g ρ s (Rv F.B) Q (.ref s.heap.objs.size) {s with heap:=s.heap.push {cls:=.type "tuple",data:=.seq vs n},toks:=t}:=
 C0 I _ rfl t (.tuple (G.put_self ..) (r.mono (G.put_le I.gnew))) q
theorem CZ{vs:Array Value}{n:Nat}{ds:List PyData}(I:aF F g ρ s σ)(r:aD F.B.prog F.B.w g vs.toList ds)(t:Nat)(q:Q (.d (.list ds)) σ):
  aC F g ρ s (Rv F.B) Q (.ref s.heap.objs.size) {s with heap:=s.heap.push {cls:=.type "list",data:=.seq vs n},toks:=t}:=
 C0 I _ rfl t (.list (G.put_self ..) (r.mono (G.put_le I.gnew))) q
end
noncomputable def vI:V->Option Int
 |.d (.int x)=>some x
 |_=>none
noncomputable def vS:V->Option Str
 |.d (.str x)=>some x
 |_=>none
noncomputable def vT:V->Option (List PyData)
 |.d (.tuple x)=>some x
 |_=>none
noncomputable def vL:V->Option (List PyData)
 |.d (.list x)=>some x
 |_=>none
noncomputable def vX:V->Option PyData
 |.d x=>some x
 |_=>none
noncomputable def vC:V->Option (Int×Int)
 |.cmp x y=>some (x,y)
 |_=>none
noncomputable def vR:V->Option Nat
 |.ref i=>some i
 |_=>none
noncomputable def e1:List V->Option V
 |[a]=>some a
 |_=>none
section
variable{B:Bs}{g:G}{ρ:List Addr}{v:V}{a:Value}{α:Type}{r:α}{P:Value->Prop}
theorem Rv.eD{p:Prop}{x:PyData}(b:Rv B g ρ (.d x) a)(k:Rd B.prog B.w g a x->p):p:=by cases b with|d q=>exact k q
@[elab_as_elim] theorem Rv.eRef{i:Nat}(c:Rv B g ρ (.ref i) a)(k:∀b,ρ[i]?=some b->P (.ref b)):P a:=by cases c with|ref q=>exact k _ q
@[elab_as_elim] theorem Rd.eInt{prog:Program}{w:World}{x:Int}(r:Rd prog w g a (.int x))(k:∀t,P (.int x t)):P a:=by cases r;exact k _
@[elab_as_elim] theorem Rd.eStr{prog:Program}{w:World}{x:Str}(r:Rd prog w g a (.str x))(k:∀t,P (.str x t)):P a:=by cases r;exact k _
@[elab_as_elim] theorem Rd.eTup{prog:Program}{w:World}{x:List PyData}(r:Rd prog w g a (.tuple x))(k:∀b vs n,g b=some {cls:=.type "tuple",data:=.seq vs n}->aD prog w g vs.toList x->P (.ref b)):P a:=by cases r with|tuple e q=>exact k _ _ _ e q
@[elab_as_elim] theorem aM.eCons{P:List Value->Prop}{x:V}{xs:List V}{vs:List Value}(r:aM B g ρ (x::xs) vs)(k:∀v vs,Rv B g ρ x v->aM B g ρ xs vs->P (v::vs)):P vs:=by cases r with|cons r b=>exact k _ _ r b
@[elab_as_elim] theorem aM.eNil{P:List Value->Prop}{vs:List Value}(r:aM B g ρ [] vs)(k:P []):P vs:=by cases r;exact k
@[elab_as_elim] theorem aD.eCons{prog:Program}{w:World}{P:List Value->Prop}{x:PyData}{xs:List PyData}{vs:List Value}(r:aD prog w g vs (x::xs))(k:∀v vs,Rd prog w g v x->aD prog w g vs xs->P (v::vs)):P vs:=by cases r with|cons r b=>exact k _ _ r b
@[elab_as_elim] theorem aD.eNil{prog:Program}{w:World}{P:List Value->Prop}{vs:List Value}(r:aD prog w g vs [])(k:P []):P vs:=by cases r;exact k
@[elab_as_elim] theorem bI{f:Int->Option α}(b:Rv B g ρ v a)(h:(vI v).bind f=some r)(k:∀x t,f x=some r->P (.int x t)):P a:=by
 induction b using Rv.casesOn with
 |d q=>induction q using Rd.casesOn with
  |int x t=>exact k x t h
  |_=>exact aN h
 |_=>exact aN h
@[elab_as_elim] theorem bS{f:Str->Option α}(b:Rv B g ρ v a)(h:(vS v).bind f=some r)(k:∀x t,f x=some r->P (.str x t)):P a:=by
 induction b using Rv.casesOn with
 |d q=>induction q using Rd.casesOn with
  |str x t=>exact k x t h
  |_=>exact aN h
 |_=>exact aN h
theorem bX{f:PyData->Option α}{p:Prop}(b:Rv B g ρ v a)(h:(vX v).bind f=some r)(k:∀x,Rd B.prog B.w g a x->f x=some r->p):p:=by
 induction b using Rv.casesOn with
 |d q=>exact k _ q h
 |_=>exact aN h
theorem bT{f:List PyData->Option α}{p:Prop}(b:Rv B g ρ v a)(h:(vT v).bind f=some r)(k:∀x,Rd B.prog B.w g a (.tuple x)->f x=some r->p):p:=by
 induction b using Rv.casesOn with
 |d q=>induction q using Rd.casesOn with
  |tuple e q=>exact k _ (.tuple e q) h
  |_=>exact aN h
 |_=>exact aN h
theorem bL{f:List PyData->Option α}{p:Prop}(b:Rv B g ρ v a)(h:(vL v).bind f=some r)(k:∀x,Rd B.prog B.w g a (.list x)->f x=some r->p):p:=by
 induction b using Rv.casesOn with
 |d q=>induction q using Rd.casesOn with
  |list e q=>exact k _ (.list e q) h
  |_=>exact aN h
 |_=>exact aN h
@[elab_as_elim] theorem bE{f:V->Option α}{es:List V}{vs:List Value}{P:List Value->Prop}(b:aM B g ρ es vs)(h:(e1 es).bind f=some r)(k:∀x v,Rv B g ρ x v->f x=some r->P [v]):P vs:=by
 induction b using aM.casesOn with
 |nil=>exact aN h
 |cons r b=>induction b using aM.casesOn with
  |nil=>exact k _ _ r h
  |_=>exact aN h
theorem bO{b:Type}{o:Option b}{f:b->Option α}{p:Prop}(h:o.bind f=some r)(k:∀x,o=some x->f x=some r->p):p:=by
 induction o using Option.casesOn with
 |none=>exact aN h
 |some x=>exact k x rfl h
@[elab_as_elim] theorem HP{c b:Type}{P:b->Prop}{o:Option c}{f:c->b}{r:b}(h:o.map f=some r)(k:∀x,o=some x->P (f x)):P r:=by
 induction o using Option.casesOn with
 |none=>exact aN h
 |some x=>exact Option.some.inj h▸k x rfl
@[elab_as_elim] theorem DD{b c i:Type}{P:c->Prop}{o:Option b}{d:b->Option i}{f:b->i->c}{r:c}(h:(o.bind λx=>(d x).map (f x))=some r)(k:∀x y,o=some x->d x=some y->P (f x y)):P r:=by
 induction o using Option.casesOn with
 |none=>exact aN h
 |some x=>exact@HP _ _ P (d x) (f x) _ h λy e=>k x y rfl e
@[elab_as_elim] theorem Gi{b c d j:Type}{P:c->Prop}{o:Option b}{e:b->Option d}{i:b->d->Option j}{f:b->d->j->c}{r:c}(h:(o.bind λx=>(e x).bind λy=>(i x y).map (f x y))=some r)(k:∀x y z,o=some x->e x=some y->i x y=some z->P (f x y z)):P r:=by
 induction o using Option.casesOn with
 |none=>exact aN h
 |some x=>exact@DD _ _ _ P (e x) (i x) (f x) _ h λy z e1 l=>k x y z rfl e1 l
@[elab_as_elim] theorem HO{c b:Type}{P:b->Prop}{o:Option c}{f:c->b}{r:b}(h:(o.bind λx=>some (f x))=some r)(k:∀x,o=some x->P (f x)):P r:=by
 induction o using Option.casesOn with
 |none=>exact aN h
 |some x=>exact Option.some.inj h▸k x rfl
@[elab_as_elim] theorem Gh{b c i:Type}{P:c->Prop}{o:Option b}{d:b->Option i}{f:b->i->c}{r:c}(h:(o.bind λx=>(d x).bind λy=>some (f x y))=some r)(k:∀x y,o=some x->d x=some y->P (f x y)):P r:=by
 induction o using Option.casesOn with
 |none=>exact aN h
 |some x=>exact@HO _ _ P (d x) (f x) _ h λy e=>k x y rfl e
theorem bM{b:Type}{o:Option b}{f:b->α}{p:Prop}(h:o.map f=some r)(k:∀x,o=some x->f x=r->p):p:=by
 induction o using Option.casesOn with
 |none=>exact aN h
 |some x=>exact k x rfl (Option.some.inj h)
theorem cI{f:Int->Option α}{p:Prop}(h:(vI v).bind f=some r)(k:∀x,v=.d (.int x)->f x=some r->p):p:=by
 induction v using V.casesOn with
 |d q=>induction q using PyData.casesOn with
  |int x=>exact k x rfl h
  |_=>exact aN h
 |_=>exact aN h
theorem cS{f:Str->Option α}{p:Prop}(h:(vS v).bind f=some r)(k:∀x,v=.d (.str x)->f x=some r->p):p:=by
 induction v using V.casesOn with
 |d q=>induction q using PyData.casesOn with
  |str x=>exact k x rfl h
  |_=>exact aN h
 |_=>exact aN h
theorem cT{f:List PyData->Option α}{p:Prop}(h:(vT v).bind f=some r)(k:∀x,v=.d (.tuple x)->f x=some r->p):p:=by
 induction v using V.casesOn with
 |d q=>induction q using PyData.casesOn with
  |tuple x=>exact k x rfl h
  |_=>exact aN h
 |_=>exact aN h
theorem cX{f:PyData->Option α}{p:Prop}(h:(vX v).bind f=some r)(k:∀x,v=.d x->f x=some r->p):p:=by
 induction v using V.casesOn with
 |d q=>exact k q rfl h
 |_=>exact aN h
theorem cC{f:Int×Int->Option α}{p:Prop}(h:(vC v).bind f=some r)(k:∀x y,v=.cmp x y->f (x,y)=some r->p):p:=by
 induction v using V.casesOn with
 |cmp x y=>exact k x y rfl h
 |_=>exact aN h
theorem cR{f:Nat->Option α}{p:Prop}(h:(vR v).bind f=some r)(k:∀x,v=.ref x->f x=some r->p):p:=by
 induction v using V.casesOn with
 |ref x=>exact k x rfl h
 |_=>exact aN h
theorem pj{b:Type}{o:Option (V×b)}{q:V×b}(h:o=some q)(e:q.1=v):o=some (v,q.2):=by rw[h,<-e]
theorem bD{c:Prop}[Decidable c]{x o:Option α}{p:Prop}(h:(if c then x else o)=some r)(k:c->x=some r->p)(b:o=some r->p):p:=by
 by_cases hc:c
 ·exact k hc (by rw[if_pos hc]at h;exact h)
 ·exact b (by rw[if_neg hc]at h;exact h)
theorem bC{c:Prop}[Decidable c]{o:Option α}{p:Prop}(h:(if c then o else none)=some r)(k:c->o=some r->p):p:=by
 by_cases hc:c
 ·exact k hc (by rw[if_pos hc]at h;exact h)
 ·rw[if_neg hc]at h;exact aN h
end
structure ca(L:List bl)(env:Env):Prop where
 kind:env.scope.kind=.function
 names:∀(i:Nat)(v:bl),L[i]?=some v->env.kindOf v.name=some v.kind/\(v.name==("__debug__":Str))=false
 lc:∀(i:Nat)(v:bl),L[i]?=some v->v.kind=.local\/v.kind=.cell
 nodup:(L.map bl.name).Nodup
 mineL:∀(i:Nat)(v:bl),L[i]?=some v->v.kind=.local->v.mine=true
noncomputable def iY:List V->Nat->V
 |[],_=>.unb
 |x::_,0=>x
 |_::xs,i+1=>iY xs i
noncomputable def eA:List V->Nat->V->List V
 |[],_,_=>[]
 |_::xs,0,v=>v::xs
 |x::xs,i+1,v=>x::eA xs i v
theorem iZ:∀{l:List V}{i:Nat},iY l i≠.unb->l[i]?=some (iY l i)
 |[],_,h=>absurd rfl h
 |_::_,0,_=>rfl
 |_::xs,i+1,h=>iZ (l:=xs) (i:=i) h
theorem cG:∀(l:List V)(i:Nat)(v:V),eA l i v=l.set i v
 |[],_,_=>rfl
 |_::_,0,_=>rfl
 |x::xs,i+1,v=>congrArg (x::·) (cG xs i v)
noncomputable def aI:List aA->Nat->Option aA
 |[],_=>none
 |x::_,0=>some x
 |_::xs,i+1=>aI xs i
noncomputable def aT:List aA->Nat->aA->List aA
 |[],_,_=>[]
 |_::xs,0,v=>v::xs
 |x::xs,i+1,v=>x::aT xs i v
theorem bn:∀(l:List aA)(i:Nat),aI l i=l[i]?
 |[],_=>rfl
 |_::_,0=>rfl
 |_::xs,i+1=>bn xs i
theorem fV:∀(l:List aA)(i:Nat)(v:aA),aT l i v=l.set i v
 |[],_,_=>rfl
 |_::_,0,_=>rfl
 |x::xs,i+1,v=>congrArg (x::·) (fV xs i v)
noncomputable def V.see(st:List aA)(v:V):V:=match v with
 |.ref i=>match aI st i with
  |some (.froz x)=>.d x
  |_=>.ref i
 |v=>v
theorem aF.see{F:Fx}{g:G}{ρ:List Addr}{s:Shared}{σ:bo}(I:aF F g ρ s σ){v:V}{a:Value}(r:Rv F.B g ρ v a):Rv F.B g ρ (v.see σ.st) a:=by
 induction v using V.casesOn with
 |ref i=>
  unfold V.see;cases hc:aI σ.st i with
  |none=>simpa only[hc]using r
  |some c=>
   induction c using aA.casesOn with
   |froz d=>
    simp only[hc];cases r with
    |ref h=>exact .d (I.st i _ _ h ((bn _ _).symm.trans hc))
   |list=>simpa only[hc]using r
   |dict=>simpa only[hc]using r
 |d=>exact r
 |tup=>exact r
 |cmp=>exact r
 |unb=>exact r
section
variable{F:Fx}{g:G}{ρ:List Addr}{s:Shared}{σ:bo}{Q:V->bo->Prop}{A:Around}
theorem rt{B:Bs}{v:V}{a:Option Value}(h:dK B g ρ v a)(c:v≠.unb):∃b,a=some b/\Rv B g ρ v b:=by
 induction v using V.casesOn with
 |unb=>exact absurd rfl c
 |d=>exact h
 |ref=>exact h
 |tup=>exact h
 |cmp=>exact h
theorem dK.of{B:Bs}{v:V}{a:Value}(h:Rv B g ρ v a):dK B g ρ v (some a):=by
 induction v using V.casesOn with
 |unb=>trivial
 |d=>exact⟨_,rfl,h⟩
 |ref=>exact⟨_,rfl,h⟩
 |tup=>exact⟨_,rfl,h⟩
 |cmp=>exact⟨_,rfl,h⟩
theorem lU(b:ca F.L F.env)(I:aF F g ρ s σ){i:Nat}{x:bl}(d:F.L[i]?=some x)(f:iY σ.env i≠.unb)(h:Q ((iY σ.env i).see σ.st) σ):
  wpAny (model F.B.prog F.B.w) A (loadName F.env x.name) (aC F g ρ s (Rv F.B) Q) E0 s:=by
 have j:=iZ f;refine cx (b.names i x d) λk _=>?_;obtain⟨v,w,y⟩:=x;refine Or.elim (b.lc i _ d) (λe=>?_) λe=>?_
 ·dsimp only at e
  subst e;refine aG λa=>?_;obtain⟨m,l,n⟩:=I.fr.loc;obtain⟨o,e1,r⟩:=rt (n i _ _ _ d j) f;exact a (wpAny_loadName_local b.kind k l e1 (aC.now I (I.see r) h))
 ·dsimp only at e
  subst e;refine aG λa=>bd (I.fr.cel i _ _ _ d j) λc z p=>?_;obtain⟨e1,q,t,_⟩:=p;obtain⟨o,u,r⟩:=rt t f;subst u;exact a (wpAny_loadName_cell b.kind k e1 q (aC.now I (I.see r) h))
theorem rE:∀{L:List bl},(L.map bl.name).Nodup->∀{i j:Nat}{x y:bl},L[i]?=some x->L[j]?=some y->x.name=y.name->i=j
 |[],_,_,_,_,_,b,_,_=>by simp at b
 |a::L,c,0,0,_,_,_,_,_=>rfl
 |a::L,c,0,j+1,x,y,b,d,e=>by simp only[List.getElem?_cons_zero,Option.some.injEq,List.getElem?_cons_succ]at b d;subst b;rw[List.map_cons,List.nodup_cons]at c;exact absurd (e▸List.mem_map_of_mem (List.mem_of_getElem? d)) c.1
 |a::L,c,i+1,0,x,y,b,d,e=>by simp only[List.getElem?_cons_zero,Option.some.injEq,List.getElem?_cons_succ]at b d;subst d;rw[List.map_cons,List.nodup_cons]at c;exact absurd (e▸List.mem_map_of_mem (List.mem_of_getElem? b)) c.1
 |a::L,c,i+1,j+1,x,y,b,d,e=>by simp only[List.getElem?_cons_succ]at b d;rw[List.map_cons,List.nodup_cons]at c;exact congrArg (·+1) (rE c.2 b d e)
theorem qP(I:aF F g ρ s σ){a:Addr}{h':Heap}(f:a∈F.own)(p:a≠F.B.P0)(hs:Heap.SameBut a s.heap h')(hl:h'.get? a≠none)(t:Nat){env':List V}(j:zj F g ρ h' env'):aF F g ρ {s with heap:=h',toks:=t} {σ with env:=env'}:=by
 have k:F.B.h₀.get? a=none:=(I.so.ohi a f).resolve_left p;have r:=I.so.gno a f;have u:∀b o,g b=some o->b≠a:=λb o e q=>by subst q;rw[r]at e;exact aN e
 have lv:∀b,s.heap.get? b≠none->h'.get? b≠none:=λb h=>by
  by_cases d:b=a
  ·subst d;exact hl
  ·exact aB (hs.2 b d) h
 refine aG λl=>aK (I.tab) λmore v=>?_;obtain⟨w,m⟩:=v;refine l ?_;refine⟨⟨λb o e=>(hs.2 b (u b o e)).trans (I.so.sub b o e),I.so.base,I.so.gno,I.so.rno,I.so.rhi,I.so.ohi,I.so.lown,I.so.lhi,I.so.chi,I.so.cap,I.so.rn,λb d=>lv b (I.so.olt b d),λb d=>lv b (I.so.rlt b d),λx y=>lv _ (I.so.clt x y)⟩,
  (St.ext (B:=F.B) (W:=[a]) (g:=g) (s:=s) t (.head _) hs.extBut k).old I.old,I.bare,⟨more,(hs.2 _ (Ne.symm p)).trans w,m⟩,j,I.stl,λi b c d hc=>?_⟩
 have n:b≠a:=λq=>I.so.rno a f (q▸List.mem_of_getElem? d);exact(I.st i b c d hc).mono (λ_ _ e=>e) id λo e=>(hs.2 b n).trans e
theorem gf{h:Heap}{a:Addr}{m:Str->Option Value}(n:h.Ns a m):h.get? a≠none:=by exact cU n λo _ _ b=>cx b λc _=>aB c (λq=>nomatch q)
theorem fc{h:Heap}{a:Addr}{v:Option Value}(n:h.IsCell a v):h.get? a≠none:=by obtain⟨o,b,_⟩:=n;exact aB b (λq=>nomatch q)
theorem kf(u:ca F.L F.env)(I:aF F g ρ s σ){i:Nat}{x:bl}(o:F.L[i]?=some x)(P:x.mine=true){v:V}{H:Value}(r:Rv F.B g ρ v H){Q:Unit->bo->Prop}(h:Q () {σ with env:=eA σ.env i v}):
  wpAny (model F.B.prog F.B.w) A (storeName F.env x.name H) (aC F g ρ s (λ_ _ _ _=>True) Q) E0 s:=by
 refine cx (u.names i x o) λR _=>?_;have p:(eA σ.env i v).length=F.L.length:=by rw[cG,List.length_set];exact I.fr.len
 obtain⟨S,xk,xb⟩:=x
 dsimp only at P
 subst P;obtain⟨m,T,z⟩:=I.fr.loc;have f:∀(n:Str)(c:Addr),F.env.cells.lookup n=some c->(n,c)∈F.env.cells:=λn c=>mem_of_lookup;refine Or.elim (u.lc i _ o) (λe=>?_) λe=>?_
 ·dsimp only at e
  subst e;have Z:(F.env.scope.kind==.class||(F.env.scope.kind==.module&&F.env.locals !=F.env.globals))=false:=by rw[u.kind];rfl
  refine wpAny_storeName_local R T (λh' B hs=>?_) Z;refine aG λd=>?_;have J:F.env.locals≠F.B.P0:=λq=>F.B.hP0 (q▸I.so.lhi);refine d (aC.by (St.same _ (List.mem_append_left _ I.so.lown) hs I.so.lhi) (qP I I.so.lown J hs (gf B) _ ⟨p,⟨_,B,?_⟩,?_⟩) trivial h)
  ·intro j y b w k hw;rw[cG]at hw;by_cases a:i=j
   ·subst a;have e:=Option.some.inj (o.symm.trans k);cases e;have C:=(List.getElem?_eq_some_iff.mp hw).1;simp only[List.length_set]at C;rw[List.getElem?_set_self C]at hw;obtain rfl:=Option.some.inj hw;exact aB (if_pos rfl) (dK.of r)
   ·replace hw:=Eq.trans (Eq.symm (List.getElem?_set_ne a)) hw;have t:y≠S:=λq=>a (rE u.nodup o k q.symm);exact aB (if_neg t) (z j y b w k hw)
  ·intro j y b w k hw;rw[cG]at hw;have a:i≠j:=λq=>by subst q;have e:=Option.some.inj (o.symm.trans k);cases e
   replace hw:=Eq.trans (Eq.symm (List.getElem?_set_ne a)) hw;refine aG λd=>bd (I.fr.cel j y b w k hw) λc U D=>?_;obtain⟨e1,K,e3,L⟩:=D;exact d (j7 c U ⟨e1,K.sameBut hs (I.so.chi _ (f _ _ e1)).2.1,e3,L⟩)
 ·dsimp only at e
  subst e;have W:i<σ.env.length:=by rw[I.fr.len];exact(List.getElem?_eq_some_iff.mp o).1
  refine aG λd=>bd (I.fr.cel i _ _ _ o (List.getElem?_eq_getElem W)) λc U D=>?_;obtain⟨e1,K,_,L⟩:=D;have l:=L rfl;have M:=I.so.chi _ (f _ _ e1);have J:c≠F.B.P0:=λq=>F.B.hP0 (q▸M.1);refine d (wpAny_storeName_cell u.kind R e1 K λh' E hs=>?_);refine aC.by (St.same _ (List.mem_append_left _ l) hs M.1) (qP I l J hs (fc E) _ ⟨p,⟨m,T.sameBut hs (Ne.symm M.2.1),?_⟩,?_⟩) trivial h
  ·intro j y b w k hw;rw[cG]at hw;have a:i≠j:=λq=>by subst q;have e:=Option.some.inj (o.symm.trans k);cases e
   rw[List.getElem?_set_ne a]at hw;exact z j y b w k hw
  ·intro j y b w k hw;rw[cG]at hw;by_cases a:i=j
   ·subst a;have e:=Option.some.inj (o.symm.trans k);cases e;rw[List.getElem?_set_self W]at hw;obtain rfl:=Option.some.inj hw;exact j7 c (some H) ⟨e1,E,dK.of r,λ_=>l⟩
   ·rw[List.getElem?_set_ne a]at hw;refine aK (I.fr.cel j y b w k hw) λX D=>aG λd=>?_;obtain⟨N,Y,f2,f3,f4⟩:=D;have t:y≠S:=λq=>a (rE u.nodup o k q.symm);have O:X≠c:=λq=>t (name_of_addr I.so.cap (f _ _ Y) (q▸f _ _ e1));exact d ⟨X,N,Y,f2.sameBut hs O,f3,f4⟩
theorem rM(b:ca F.L F.env)(I:aF F g ρ s σ){i:Nat}{x:bl}(c:F.L[i]?=some x)(d:x.mine=true){v:V}{a:Value}(r:Rv F.B g ρ v a){Q:Unit->bo->Prop}(h:Q () {σ with env:=eA σ.env i v}):
  wpAny (model F.B.prog F.B.w) A (bindName F.env x.name a) (aC F g ρ s (λ_ _ _ _=>True) Q) E0 s:=
 wpAny_bindName (kf b I c d r h)
end
section
variable{β:Type}{c:Option aA}{r:β}{p:Prop}
theorem mL{f:List PyData->Option β}(h:(match c with
  |some (.list xs)=>f xs
  |_=>none)=some r)(k:∀xs,c=some (.list xs)->f xs=some r->p):p:=by
 induction c using Option.casesOn with
 |none=>exact aN h
 |some c=>induction c using aA.casesOn with
  |list xs=>exact k xs rfl h
  |_=>exact aN h
theorem mD{f:List Str->List PyData->Option β}(h:(match c with
  |some (.dict ks ds)=>f ks ds
  |_=>none)=some r)(k:∀ks ds,c=some (.dict ks ds)->f ks ds=some r->p):p:=by
 induction c using Option.casesOn with
 |none=>exact aN h
 |some c=>induction c using aA.casesOn with
  |dict ks ds=>exact k ks ds rfl h
  |_=>exact aN h
theorem H4(h:(match c with
  |some (.list _)=>true
  |_=>false)=true)(k:∀xs,c=some (.list xs)->p):p:=by
 induction c using Option.casesOn with
 |none=>exact en h
 |some c=>induction c using aA.casesOn with
  |list xs=>exact k xs rfl
  |_=>exact en h
theorem H3(h:(match c with
  |some (.dict _ _)=>true
  |_=>false)=true)(k:∀ks ds,c=some (.dict ks ds)->p):p:=by
 induction c using Option.casesOn with
 |none=>exact en h
 |some c=>induction c using aA.casesOn with
  |dict ks ds=>exact k ks ds rfl
  |_=>exact en h
end
end Mine
end
noncomputable section
open PySem PySem.Calls PySem.Spec PySem.W PyProof.Rows Builtin.Str
set_option backward.match.sparseCases false
namespace Mine
noncomputable def d0(d:PyData):Bool:=SeqAt.shaped d
section
variable{prog:Program}{w:World}{g:G}{h:Heap}
theorem eX{v:Value}{d:PyData}(sub:∀b o,g b=some o->h.get? b=some o)(r:Rd prog w g v d):d.canLay0=true->∃a,Reads h v d a:=
 Rd.rec (motive_1:=λv d _=>d.canLay0=true->∃a,Reads h v d a) (motive_2:=λvs ds _=>PyData.canLayAll0 ds=true->∃a,ReadsAll h vs ds a)
  (λ_=>⟨_,.none⟩) (λb _=>⟨_,.bool b⟩) (λi t _=>⟨_,.int i t⟩) (λx t _=>⟨_,.str x t⟩)
  (λe _ c hl=>(c (by rw[PyData.canLay0]at hl;exact hl)).elim λ_ q=>⟨_,.list (sub _ _ e) rfl rfl q⟩)
  (λe _ c hl=>(c (by rw[PyData.canLay0]at hl;exact hl)).elim λ_ q=>⟨_,.tuple (sub _ _ e) rfl rfl q⟩)
  (λ_ _ _ _ _ _ hl=>by rw[PyData.canLay0]at hl;exact absurd hl (by decide))
  (λ_=>⟨_,.nil⟩)
  (λ_ _ f j hl=>by
   simp only[PyData.canLayAll0]at hl;have hl:=Bool.and_eq_true_iff.mp hl;exact(f hl.1).elim λ_ p=>(j hl.2).elim λ_ q=>⟨_,.cons p q⟩) r
end
noncomputable def lO:PyData->Bool
 |.none=>true
 |_=>false
noncomputable def nU(b:Bool):PyData->Bool
 |.bool c=>b==c
 |_=>false
noncomputable def hS(x y:Str):Bool:=!(occurrences x y 0 x.length 1).isEmpty
theorem qo{prog:Program}{w:World}{g:G}{v:Value}{x:PyData}(b:Bool)(r:Rd prog w g v x):isSame v (.bool b)=pure (v==.bool b):=by induction r using Rd.casesOn<;>rfl
theorem oQ{d:List (PyData×PyData)}{p:Prop}(h:(PyData.dict d).canLay0=true):p:=absurd h (by rw[PyData.canLay0];exact Bool.noConfusion)
mutual
theorem Rd.fn{prog:Program}{w:World}{g:G}{v:Value}{d e:PyData}(c:d.canLay0=true)(a:e.canLay0=true)(r:Rd prog w g v d)(r':Rd prog w g v e):d=e:=by
 induction r using Rd.casesOn with
 |none=>cases r';rfl
 |bool b=>cases r';rfl
 |int i t=>cases r';rfl
 |str x t=>cases r';rfl
 |list h r=>
  cases r' with
  |list h' r'=>cases h.symm.trans h';exact congrArg _ (aD.fn c a r r')
  |tuple h' r'=>exact absurd (congrArg Obj.cls (Option.some.inj (h.symm.trans h'))) (by dsimp only;decide)
  |dict _ _ _ _ _=>exact oQ a
 |tuple h r=>
  cases r' with
  |tuple h' r'=>cases h.symm.trans h';exact congrArg _ (aD.fn c a r r')
  |list h' r'=>exact absurd (congrArg Obj.cls (Option.some.inj (h.symm.trans h'))) (by dsimp only;decide)
  |dict _ _ _ _ _=>exact oQ a
 |dict _ _ _ _ _=>exact oQ c
theorem aD.fn{prog:Program}{w:World}{g:G}{vs:List Value}{ds es:List PyData}(e:PyData.canLayAll0 ds=true)(f:PyData.canLayAll0 es=true)(r:aD prog w g vs ds)(r':aD prog w g vs es):ds=es:=by
 induction r using aD.casesOn with
 |nil=>cases r';rfl
 |cons a b=>
  cases r' with
  |cons h i=>have c:=Bool.and_eq_true_iff.mp e;have d:=Bool.and_eq_true_iff.mp f;rw[Rd.fn c.1 d.1 a h,aD.fn c.2 d.2 b i]
end
theorem aD.mem{prog:Program}{w:World}{g:G}{vs:List Value}{ds:List PyData}(r:aD prog w g vs ds):∀v∈vs,∃d∈ds,Rd prog w g v d:=by
 induction r using aD.ind with
 |nil=>exact λv c=>nomatch c
 |cons a b f=>exact λv c=>(List.mem_cons.mp c).elim (λe=>⟨_,.head _,e▸a⟩) λc=>(f v c).elim λd h=>⟨d,.tail _ h.1,h.2⟩
theorem aD.any{prog:Program}{w:World}{g:G}(p:PyData->Bool)(e:Value->Bool){vs:List Value}{ds:List PyData}(r:aD prog w g vs ds):(∀v d,d∈ds->Rd prog w g v d->e v=p d)->vs.any e=ds.any p:=by
 induction r using aD.ind with
 |nil=>exact λ_=>rfl
 |cons a b c=>intro h;simp only[List.any_cons,List.any_cons,h _ _ (.head _) a,c λv d f=>h v d (.tail _ f)]
theorem kV:∀{ds:List PyData},PyData.canLayAll0 ds=true->∀d∈ds,d.canLay0=true
 |_::_,h,d,a=>by
  simp only[PyData.canLayAll0]at h;refine cx (Bool.and_eq_true_iff.mp h) λb c=>?_;rcases List.mem_cons.mp a with rfl|a
  ·exact b
  ·exact kV c d a
theorem m3:∀{ds:List PyData},∀d∈ds,d.depth<=PyData.depthAll ds
 |e::r,d,a=>by
  rw[PyData.depthAll];rcases List.mem_cons.mp a with rfl|a
  ·exact Nat.le_max_left _ _
  ·exact Nat.le_trans (m3 d a) (Nat.le_max_right _ _)
theorem ll{ds:List PyData}(h:d0 (.list ds)=true)(d:PyData)(a:d∈ds):d0 d=true:=by have b:=SeqAt.canLay_of_shaped h;have c:=SeqAt.depth_of_shaped h;simp only[PyData.canLay0]at b;simp only[PyData.depth]at c;have e:=m3 d a;exact Bool.and_eq_true_iff.mpr ⟨(kV b d a),decide_eq_true (by lia)⟩
theorem AS{prog:Program}{w:World}{g:G}{v:Value}{x:PyData}(r:Rd prog w g v x):(v==.none)=lO x:=by induction r using Rd.casesOn<;>rfl
theorem AQ{prog:Program}{w:World}{g:G}{v:Value}{x:PyData}(b:Bool)(r:Rd prog w g v x):(v==.bool b)=nU b x:=by
 induction r using Rd.casesOn with
 |bool c=>induction b using Bool.casesOn<;>induction c using Bool.casesOn<;>rfl
 |_=>rfl
section
variable{F:Fx}{g:G}{ρ:List Addr}{s:Shared}{σ:bo}{Q:V->bo->Prop}{n:Nat}{A:Around}
theorem dV{d:PyData}(h:d0 d=true):d.canLay0=true:=SeqAt.canLay_of_shaped h
theorem Ok.u{n:Nat}{A:Around}(a:Ok n A):A.units+64<cLine:=by have:=a.units;lia
end
end Mine
end
noncomputable section
open PySem PySem.Calls PySem.Spec PySem.W PyProof.Rows
namespace Mine
structure pq(B:Bs)(A:Around)(tgt:Expr)(it:Value)(fp:List Addr)(T:List PyData->G->Shared->Prop):Prop where
 again:∀(ds:List PyData)(g:G)(s:Shared)(Q:Value->Shared->Prop),T ds g s->Q it s->wpAny (model B.prog B.w) A (pyIter it) Q E0 s
 next:∀(d:PyData)(ds:List PyData)(g:G)(s:Shared)(Q:Option Value->Shared->Prop),(∀b o,g b=some o->s.heap.get? b=some o)->T (d::ds) g s->
  (∀v g' s',St B fp g g' s s'->(∀b o,g' b=some o->s'.heap.get? b=some o)->(∀b∈fp,g' b=none)->Rd B.prog B.w g' v d->T ds g' s'->Q (some v) s')->
  wpAny (model B.prog B.w) A (pyNext it) (λr s₁=>match r with
   |none=>False
   |some v=>wpAny (model B.prog B.w) A (letOwnedTupleGo tgt it v) (λ_ s₂=>Q (some v) s₂) E0 s₁) E0 s
 fin:∀(g:G)(s:Shared)(Q:Option Value->Shared->Prop),(∀b o,g b=some o->s.heap.get? b=some o)->T [] g s->
  (∀s',St B fp g g s s'->(∀b o,g b=some o->s'.heap.get? b=some o)->Q none s')->wpAny (model B.prog B.w) A (pyNext it) Q E0 s
 keep:∀(ds:List PyData)(g g':G)(s s':Shared),T ds g s->(∀b∈fp,∀o,s.heap.get? b=some o->s'.heap.get? b=some o)->(∀b o,g b=some o->g' b=some o)->(∀b∈fp,g' b=none)->T ds g' s'
 fpo:∀(ds:List PyData)(g:G)(s:Shared),T ds g s->∀b∈fp,g b=none/\s.heap.get? b≠none/\B.h₀.get? b=none
noncomputable def nD(n:String):Bool:=["enumerate","zip","dict_itemiterator","dict_reverseitemiterator","odict_iterator","itertools.zip_longest","itertools.pairwise"].contains n
section
variable{M:Model}{A:Around}{E:Value->Shared->Prop}{s:Shared}
theorem dP{b:Expr}{I:Addr}{o:Obj}{n:String}{vs:Array Value}{v:Value}{Q:Unit->Shared->Prop}(d:s.heap.get? I=some o)(hc:o.cls=.type n)(e:o.data=.fields vs)(f:nD n=false)(h:Q () s):
  wpAny M A (letOwnedTupleGo b (.ref I) v) Q E s:=by
 have c:∀a:Addr,wpAny M A (do
   let o<-load I
   match o.cls,o.data with
   |.type n,.fields vs=>
    if["enumerate","zip","dict_itemiterator","dict_reverseitemiterator","odict_iterator","itertools.zip_longest","itertools.pairwise"].contains n&&vs[0]?==some (rawInt a)then
     rule "for.unpacks-the-owned-tuple"
     updateField I 0 .none
   |_,_=>pure ()) Q E s:=λa=>by
  refine wpAny_bind (wpAny_load d ?_);rw[hc,e];show wpAny _ A (if(nD n&&vs[0]?==some (rawInt a))=true then _ else _) Q E s;rw[f,Bool.false_and,if_neg (by decide)];exact wpAny_pure h
 induction b using Expr.casesOn<;>first|exact wpAny_pure h|(induction v using Value.casesOn<;>first|exact wpAny_pure h|exact c _)
end
section
variable{B:Bs}{A:Around}{tgt:Expr}
theorem jy{vs:List Value}{i:Nat}{v:Value}{r:List Value}(e:vs.drop i=v::r):vs[i]?=some v/\vs.drop (i+1)=r:=by
 have a:i<vs.length:=by
  refine Or.elim (Nat.lt_or_ge i vs.length) (λh=>?_) λh=>?_
  ·exact h
  ·rw[List.drop_of_length_le h]at e;exact CV e
 rw[List.drop_eq_getElem_cons a]at e;injection e with e1 b
 exact⟨by rw[List.getElem?_eq_getElem a,e1],b⟩
theorem lz{vs:List Value}{i:Nat}(e:vs.drop i=[]):vs[i]?=none:=by rw[List.drop_eq_nil_iff]at e;exact List.getElem?_eq_none e
theorem kB{g:G}{I b:Addr}{o:Obj}(a:g I=none)(e:g b=some o):b≠I:=λq=>by subst q;rw[a]at e;exact aN e
theorem dI{g:G}{I:Addr}{h h':Heap}(a:g I=none)(sub:∀b o,g b=some o->h.get? b=some o)(hs:Heap.ExtBut I h h'):∀b o,g b=some o->h'.get? b=some o:=
 λb o e=>hs b o (kB a e) (sub b o e)
theorem fx{a:Type}{x:Option a}{y:a}(e:x=some y):x≠none:=λq=>by rw[e]at q;exact iu q
inductive Bm(B:Bs)(I:Addr)(ds:List PyData)(g:G)(s:Shared):Prop
 |mk (hg:g I=none) (hlo:B.h₀.get? I=none) (l:Addr) (vs:Array Value) (n i:Nat) (hit:s.heap.IsListIter I l i) (hgl:g l=some {cls:=.type "list",data:=.seq vs n}) (r:aD B.prog B.w g (vs.toList.drop i) ds):Bm B I ds g s
theorem vE(C:A.handled=none)(I:Addr):pq B A tgt (.ref I) [I] (Bm B I)where
 again:=λds g s Q j h=>by obtain⟨_,_,l,vs,n,i,e,_⟩:=j;exact wpAny_pyIter_listiter e h
 next:=λd ds g s Q sub j u=>by
  obtain⟨k,a,l,vs,n,i,e,c,r⟩:=j;cases p:vs.toList.drop i with
  |nil=>rw[p]at r;cases r
  |cons v q=>
   replace r:=p▸r;refine aG λf=>?_;cases r with
   |cons D E=>obtain⟨e1,F⟩:=jy p;refine f ?_;replace e1:=Eq.trans (Eq.symm (Array.getElem?_toList)) e1;refine wpAny_pyNext_list_item e (IsL.isList (sub _ _ c)) e1 λh' m hs=>aG λf=>?_;obtain⟨o,t,hc,G⟩:=id m;refine f (dP t hc G rfl (u v g _ (St.ext s.toks (.head _) hs.extBut a) (dI k sub hs.extBut) (λb w=>by cases List.mem_singleton.mp w;exact k) D ⟨k,a,l,vs,n,i+1,m,c,by rw[F];exact E⟩))
 fin:=λg s Q sub j u=>by
  obtain⟨k,a,l,vs,n,i,e,c,r⟩:=j;cases p:vs.toList.drop i with
  |cons v q=>rw[p]at r;cases r
  |nil=>have e1:=lz p;replace e1:=Eq.trans (Eq.symm (Array.getElem?_toList)) e1;exact wpAny_pyNext_list_end C e (IsL.isList (sub _ _ c)) e1 λh' x=>u _ (St.ext s.toks (.head _) x a) (dI k sub x)
 keep:=λds g K s s' j H y J=>by refine aG λf=>?_;obtain⟨k,a,l,vs,n,i,⟨o,t,z⟩,c,r⟩:=j;exact f ⟨J I (.head _),a,l,vs,n,i,⟨o,H I (.head _) o t,z⟩,y _ _ c,r.mono y⟩
 fpo:=λds g s j b w=>by obtain⟨k,a,l,vs,n,i,⟨o,t,z⟩,c,r⟩:=j;cases List.mem_singleton.mp w;exact⟨k,fx t,a⟩
inductive D7(B:Bs)(I:Addr)(ds:List PyData)(g:G)(s:Shared):Prop
 |mk (hg:g I=none) (hlo:B.h₀.get? I=none) (l:Addr) (vs:Array Value) (n i:Nat) (hit:s.heap.IsTupleIter I l i) (hgl:g l=some {cls:=.type "tuple",data:=.seq vs n}) (r:aD B.prog B.w g (vs.toList.drop i) ds):D7 B I ds g s
theorem cj{h:Heap}{l:Addr}{vs:Array Value}{n:Nat}(e:h.get? l=some {cls:=.type "tuple",data:=.seq vs n}):h.IsTuple l vs:=⟨_,e,rfl,n,rfl⟩
theorem xN(C:A.handled=none)(I:Addr):pq B A tgt (.ref I) [I] (D7 B I)where
 again:=λds g s Q j h=>by obtain⟨_,_,l,vs,n,i,e,_⟩:=j;exact wpAny_pyIter_tupleiter e h
 next:=λd ds g s Q sub j u=>by
  obtain⟨k,a,l,vs,n,i,e,c,r⟩:=j;cases p:vs.toList.drop i with
  |nil=>rw[p]at r;cases r
  |cons v q=>
   replace r:=p▸r;refine aG λf=>?_;cases r with
   |cons D E=>obtain⟨e1,F⟩:=jy p;refine f ?_;replace e1:=Eq.trans (Eq.symm (Array.getElem?_toList)) e1;refine wpAny_pyNext_tuple_item e (cj (sub _ _ c)) e1 λh' m hs=>aG λf=>?_;obtain⟨o,t,hc,G⟩:=id m;refine f (dP t hc G rfl (u v g _ (St.ext s.toks (.head _) hs.extBut a) (dI k sub hs.extBut) (λb w=>by cases List.mem_singleton.mp w;exact k) D ⟨k,a,l,vs,n,i+1,m,c,by rw[F];exact E⟩))
 fin:=λg s Q sub j u=>by
  obtain⟨k,a,l,vs,n,i,e,c,r⟩:=j;cases p:vs.toList.drop i with
  |cons v q=>rw[p]at r;cases r
  |nil=>have e1:=lz p;replace e1:=Eq.trans (Eq.symm (Array.getElem?_toList)) e1;exact wpAny_pyNext_tuple_end C e (cj (sub _ _ c)) e1 λh' x=>u _ (St.ext s.toks (.head _) x a) (dI k sub x)
 keep:=λds g K s s' j H y J=>by refine aG λf=>?_;obtain⟨k,a,l,vs,n,i,⟨o,t,z⟩,c,r⟩:=j;exact f ⟨J I (.head _),a,l,vs,n,i,⟨o,H I (.head _) o t,z⟩,y _ _ c,r.mono y⟩
 fpo:=λds g s j b w=>by obtain⟨k,a,l,vs,n,i,⟨o,t,z⟩,c,r⟩:=j;cases List.mem_singleton.mp w;exact⟨k,fx t,a⟩
noncomputable def jU(a:Int):Nat->List PyData
 |0=>[]
 |n+1=>.int a::jU (a+1) n
inductive D6(B:Bs)(I:Addr)(ds:List PyData)(g:G)(s:Shared):Prop
 |mk (hg:g I=none) (hlo:B.h₀.get? I=none) (a:Int) (n:Nat) (hit:IsRangeIter s.heap I a n 1) (r:ds=jU a n):D6 B I ds g s
theorem xM(v:A.handled=none)(I:Addr):pq B A tgt (.ref I) [I] (D6 B I)where
 again:=λds g s Q i h=>by obtain⟨_,_,a,n,c,_⟩:=i;exact wpAny_pyIter_rangeiter c h
 next:=λd ds g s Q sub i o=>by
  refine aG λm=>?_;obtain⟨j,f,a,n,c,r⟩:=i;refine m ?_;induction n using Nat.casesOn with
  |zero=>exact Ed r
  |succ n=>
   refine aG λm=>cx (List.cons.inj r) λp q=>?_;obtain rfl:=p;obtain rfl:=q;refine m (wpAny_pyNext_range_item c (by lia) λh' k hs=>?_);have l:IsRangeIter h' I (a+1) (n:Int) 1:=by
    have e:((n+1:Nat):Int) -1=(n:Int):=by lia
    rw[e]at k;exact k
   refine dP l rfl rfl rfl (o _ g _ (St.ext _ (.head _) hs.extBut f) (dI j sub hs.extBut) (λb t=>by cases List.mem_singleton.mp t;exact j) (.int a _) ⟨j,f,a+1,n,l,rfl⟩)
 fin:=λg s Q sub i o=>by
  obtain⟨j,f,a,n,c,r⟩:=i;induction n using Nat.casesOn with
  |succ n=>exact CV r
  |zero=>exact wpAny_pyNext_range_end v c (by lia) λh' u=>o _ (St.ext s.toks (.head _) u f) (dI j sub u)
 keep:=λds g y s s' i w z x=>by obtain⟨j,f,a,n,c,r⟩:=i;exact⟨x I (.head _),f,a,n,w I (.head _) _ c,r⟩
 fpo:=λds g s i b t=>by obtain⟨j,f,a,n,c,r⟩:=i;cases List.mem_singleton.mp t;exact⟨j,fx c,f⟩
noncomputable def dQ(i:Nat):List PyData->List PyData
 |[]=>[]
 |d::ds=>.tuple [.int i,d]::dQ (i+1) ds
inductive D3(B:Bs)(e it:Addr)(ds:List PyData)(g:G)(s:Shared):Prop
 |mk (hge:g e=none) (hgi:g it=none) (hei:e≠it) (hlo:B.h₀.get? e=none) (hlo':B.h₀.get? it=none) (l:Addr) (vs:Array Value) (n i:Nat) (old:Value) (xs:List PyData) (he:IsEnum s.heap e it i old) (hit:s.heap.IsListIter it l i) (hgl:g l=some {cls:=.type "list",data:=.seq vs n}) (r:aD B.prog B.w g (vs.toList.drop i) xs) (hds:ds=dQ i xs):D3 B e it ds g s
theorem xJ(hh:A.handled=none){es:List Expr}{kk:Nat}{pp:Pos}(e it:Addr):pq B A (.Tuple es kk pp) (.ref e) [e,it] (D3 B e it)where
 again:=λds g s Q C h=>by obtain⟨_,_,_,_,_,l,vs,n,i,w,xs,y,_⟩:=C;exact wpAny_pyIter_enum y h
 next:=λd ds g s Q sub C R=>by
  obtain⟨u,f,j,m,a,l,vs,n,i,w,xs,y,D,p,r,t⟩:=C;cases J:vs.toList.drop i with
  |nil=>rw[J]at r;cases r;exact Ed t
  |cons v K=>
   rw[J]at r;cases r with
   |cons rd rr=>
    obtain⟨rfl,rfl⟩:=List.cons.inj t;obtain⟨e1,e2⟩:=jy J;rw[Array.getElem?_toList]at e1;have hsz:g s.heap.objs.size=none:=by
     cases q:g s.heap.objs.size with
     |none=>rfl
     |some o=>exact absurd (Heap.lt_size (sub _ _ q)) (Nat.lt_irrefl _)
    have Y:e≠s.heap.objs.size:=Nat.ne_of_lt (Heap.lt_size y);refine aK (id D) λoi S=>?_;obtain⟨T,_⟩:=S;refine wpAny_pyNext_enum_item y D (IsL.isList (sub _ _ p)) e1 j λh' U L ht hz N=>wpAny_letOwnedTupleGo_enum U λO V x=>?_;replace x:Heap.SameBut e h' O:=x;have W:∀b o,b≠e->b≠it->s.heap.get? b=some o->O.get? b=some o:=λb o c X q=>(x.2 b c).trans (N b o c X q);have tS:O.get? s.heap.objs.size=some {cls:=.type "tuple",data:=.seq #[.int i s.toks,v]}:=(x.2 _ (Ne.symm Y)).trans ht;have H:=G.put_le (g:=g) (o:={cls:=.type "tuple",data:=.seq #[Value.int i s.toks,v]}) hsz;have st:St B [e,it] g (g.put s.heap.objs.size {cls:=.type "tuple",data:=.seq #[Value.int i s.toks,v]}) s {s with heap:=O,toks:=s.toks+1}:=
     ⟨H,λb o c q=>W b o (λz=>c (z▸.head _)) (λz=>c (z▸.tail _ (.head _))) q,λb o q=>by
      by_cases c:b=s.heap.objs.size
      ·exact c▸(.inr (.inr (aU _)))
      ·rw[G.put_ne _ _ c]at q;exact .inl q,λk=>gE k λb o Z q=>W b o (λz=>Z (z▸m)) (λz=>Z (z▸a)) q,rfl,⟨Nat.le_refl _,λ_ _=>rfl⟩,id⟩
    have E:(g.put s.heap.objs.size {cls:=.type "tuple",data:=.seq #[Value.int i s.toks,v]}) e=none:=by rw[G.put_ne _ _ Y];exact u
    have F:(g.put s.heap.objs.size {cls:=.type "tuple",data:=.seq #[Value.int i s.toks,v]}) it=none:=by rw[G.put_ne _ _ ((Nat.ne_of_lt (Heap.lt_size T):it≠s.heap.objs.size))];exact f
    refine R _ _ _ st (λb o q=>?_) (λb c=>?_) (.tuple (G.put_self ..) (.cons (.int _ _) (.cons (rd.mono H) .nil))) ⟨E,F,j,m,a,l,vs,n,i+1,v,_,V,?_,H _ _ p,by rw[e2];exact rr.mono H,rfl⟩
    ·by_cases c:b=s.heap.objs.size
     ·subst c;rw[G.put_self]at q;exact(Option.some.inj q)▸(tS)
     ·rw[G.put_ne _ _ c]at q;exact W b o (kB u q) (kB f q) (sub b o q)
    ·rcases List.mem_cons.mp c with rfl|c
     ·exact E
     ·cases List.mem_singleton.mp c;exact F
    ·refine aG λI=>aK L λo S=>?_;obtain⟨M,P⟩:=S;exact I ⟨o,(x.2 it (Ne.symm j)).trans M,P⟩
 fin:=λg s Q sub C R=>by
  obtain⟨u,f,j,m,a,l,vs,n,i,w,xs,y,D,p,r,t⟩:=C;cases J:vs.toList.drop i with
  |cons v K=>rw[J]at r;cases r;exact CV t
  |nil=>have e1:=lz J;replace e1:=Eq.trans (Eq.symm (Array.getElem?_toList)) e1;exact wpAny_pyNext_enum_end hh y D (IsL.isList (sub _ _ p)) e1 λh' hx=>R _ (St.ext s.toks (.tail _ (.head _)) hx a) (dI f sub hx)
 keep:=λds g g' s s' C N H hf=>by refine aG λI=>?_;obtain⟨u,f,j,m,a,l,vs,n,i,w,xs,y,⟨o,M,P⟩,p,r,t⟩:=C;exact I ⟨hf e (.head _),hf it (.tail _ (.head _)),j,m,a,l,vs,n,i,w,xs,N e (.head _) _ y,⟨o,N it (.tail _ (.head _)) o M,P⟩,H _ _ p,r.mono H,t⟩
 fpo:=λds g s C b c=>by
  obtain⟨u,f,j,m,a,l,vs,n,i,w,xs,y,⟨o,M,P⟩,p,r,t⟩:=C;rcases List.mem_cons.mp c with rfl|c
  ·exact⟨u,fx y,m⟩
  ·cases List.mem_singleton.mp c;exact⟨f,fx M,a⟩
inductive D5(B:Bs)(I:Addr)(ds:List PyData)(g:G)(s:Shared):Prop
 |mk (hg:g I=none) (hlo:B.h₀.get? I=none) (d:Addr) (o:Obj) (kvs:List (Str×Value)) (ep i:Nat) (hit:s.heap.IsKeyIter I d i kvs.length ep) (hgd:g d=some o) (hd:∀h:Heap,h.get? d=some o->h.DictAt (strKind B.prog B.w) d kvs ep) (hds:ds=(kvs.drop i).map λkv=>PyData.str kv.1):D5 B I ds g s
theorem yz{prog:Program}{w:World}{g:G}{x:Str}{v:Value}(h:(strKind prog w).is x v=true):Rd prog w g v (.str x):=by
 have h':Value.isStrOf x v=true:=h;induction v using Value.casesOn with
 |str y t=>
  have e:y=x:=by simpa[Value.isStrOf]using h'
  exact e▸(.str y t)
 |_=>exact absurd h' Bool.false_ne_true
theorem xL(K:A.handled=none)(I:Addr):pq B A tgt (.ref I) [I] (D5 B I)where
 again:=λds g s Q m h=>by obtain⟨_,_,d,o,kvs,ep,i,l,_⟩:=m;exact wpAny_pyIter_keyiter l h
 next:=λd ds g s Q sub m x=>by
  refine aG λf=>?_;obtain⟨n,e,a,o,kvs,ep,i,l,j,r,c⟩:=m;refine f ?_;cases p:kvs.drop i with
  |nil=>rw[p]at c;exact Ed c
  |cons kv F=>
   refine aG λf=>?_;obtain⟨k,v⟩:=kv;rw[p]at c;replace c:=(List.map_cons)▸c;obtain⟨rfl,rfl⟩:=List.cons.inj c;have t:i<kvs.length:=by
    refine Or.elim (Nat.lt_or_ge i kvs.length) (λh=>?_) λh=>?_
    ·exact h
    ·rw[List.drop_of_length_le h]at p;exact CV p
   rw[List.drop_eq_getElem_cons t]at p;injection p with y z
   refine f (wpAny_pyNext_dict_item l (r _ (sub _ _ j)) (k:=k) (v:=v) (by rw[List.getElem?_eq_getElem t,y]) λkey h' u q hs=>?_);refine aG λf=>aK (id q) λP L=>eY L λw hc C=>f (dP w hc C rfl (x key g _ (St.ext s.toks (.head _) hs.extBut e) (dI n sub hs.extBut) (λb D=>by cases List.mem_singleton.mp D;exact n) (yz u) ⟨n,e,a,o,kvs,ep,i+1,q,j,r,by rw[z]⟩))
 fin:=λg s Q sub m x=>by
  obtain⟨n,e,a,o,kvs,ep,i,l,j,r,c⟩:=m;have G:kvs.drop i=[]:=by
   cases p:kvs.drop i with
   |nil=>rfl
   |cons a b=>rw[p]at c;exact CV c
  simp only[List.drop_eq_nil_iff]at G;refine wpAny_pyNext_dict_end K l (r _ (sub _ _ j)) (List.getElem?_eq_none G) λh' H=>?_;exact x _ (St.ext s.toks (.head _) H e) (dI n sub H)
 keep:=λds g R s s' m M N O=>by refine aG λf=>?_;obtain⟨n,e,d,o,kvs,ep,i,⟨E,w,J⟩,j,r,c⟩:=m;exact f ⟨O I (.head _),e,d,o,kvs,ep,i,⟨E,M I (.head _) E w,J⟩,N _ _ j,r,c⟩
 fpo:=λds g s m b D=>by obtain⟨n,e,d,o,kvs,ep,i,⟨E,w,J⟩,j,r,c⟩:=m;cases List.mem_singleton.mp D;exact⟨n,fx w,e⟩
noncomputable def GU:List Str->List PyData->List PyData
 |k::ks,d::ds=>.tuple [.str k,d]::GU ks ds
 |_,_=>[]
inductive D4(B:Bs)(I:Addr)(ds:List PyData)(g:G)(s:Shared):Prop
 |mk (hg:g I=none) (hlo:B.h₀.get? I=none) (d:Addr) (o:Obj) (kvs:List (Str×Value)) (ep i:Nat) (ok ov:Value) (xs:List PyData) (hit:IsItemIter s.heap I d i kvs.length ep ok ov) (hgd:g d=some o) (hd:∀h:Heap,h.get? d=some o->h.DictAt (strKind B.prog B.w) d kvs ep) (r:aD B.prog B.w g ((kvs.drop i).map (·.2)) xs) (hds:ds=GU ((kvs.drop i).map (·.1)) xs):D4 B I ds g s
theorem xK(Z:A.handled=none){es:List Expr}{kk:Nat}{pp:Pos}(I:Addr):pq B A (.Tuple es kk pp) (.ref I) [I] (D4 B I)where
 again:=λds g s Q m h=>by obtain⟨_,_,d,o,kvs,ep,i,C,D,xs,l,_⟩:=m;exact kcp_self l h
 next:=λd ds g s Q sub m M=>by
  refine aG λt=>?_;obtain⟨u,e,a,o,kvs,ep,i,C,D,xs,l,f,w,r,c⟩:=m;refine t ?_;cases n:kvs.drop i with
  |nil=>rw[n]at c;exact Ed c
  |cons kv V=>
   obtain⟨k,v⟩:=kv;rw[n]at r;replace r:=(List.map_cons)▸r;cases r with
   |@cons _ x _ N rd rr=>
   simp only[n,List.map_cons]at c;refine aG λt=>cx (List.cons.inj c) λO P=>?_;obtain rfl:=O;obtain rfl:=P;have E:i<kvs.length:=by
    refine Or.elim (Nat.lt_or_ge i kvs.length) (λh=>?_) λh=>?_
    ·exact h
    ·rw[List.drop_of_length_le h]at n;exact CV n
   rw[List.drop_eq_getElem_cons E]at n;injection n with R F
   have hsz:g s.heap.objs.size=none:=by
    cases q:g s.heap.objs.size with
    |none=>rfl
    |some o=>exact absurd (Heap.lt_size (sub _ _ q)) (Nat.lt_irrefl _)
   have W:I≠s.heap.objs.size:=Nat.ne_of_lt (Heap.lt_size l);refine t (wpAny_pyNext_items_item l (w _ (sub _ _ f)) (k:=k) (v:=v) (by rw[List.getElem?_eq_getElem E,R]) λkey h' H J ht hz S=>?_);refine wpAny_letOwnedTupleGo_items J λL T p=>?_;replace p:Heap.SameBut I h' L:=p;have U:∀b o,b≠I->s.heap.get? b=some o->L.get? b=some o:=λb o j q=>(p.2 b j).trans (S b o j q);have tS:L.get? s.heap.objs.size=some {cls:=.type "tuple",data:=.seq #[key,v]}:=(p.2 _ (Ne.symm W)).trans ht;have y:=G.put_le (g:=g) (o:={cls:=.type "tuple",data:=.seq #[key,v]}) hsz;have st:St B [I] g (g.put s.heap.objs.size {cls:=.type "tuple",data:=.seq #[key,v]}) s {s with heap:=L,toks:=s.toks}:=
    ⟨y,λb o j q=>U b o (λz=>j (z▸.head _)) q,λb o q=>by
     by_cases j:b=s.heap.objs.size
     ·exact j▸(.inr (.inr (aU _)))
     ·rw[G.put_ne _ _ j]at q;exact .inl q,λk=>gE k λb o hn q=>U b o (λz=>hn (z▸e)) q,rfl,⟨Nat.le_refl _,λ_ _=>rfl⟩,id⟩
   have K:(g.put s.heap.objs.size {cls:=.type "tuple",data:=.seq #[key,v]}) I=none:=by rw[G.put_ne _ _ W];exact u
   refine M _ _ _ st (λb o q=>?_) (λb j=>by cases List.mem_singleton.mp j;exact K) (.tuple (G.put_self ..) (.cons (yz H) (.cons (rd.mono y) .nil))) ⟨K,e,a,o,kvs,ep,i+1,key,v,N,T,y _ _ f,w,by rw[F];exact rr.mono y,by rw[F]⟩;by_cases j:b=s.heap.objs.size
   ·subst j;rw[G.put_self]at q;exact(Option.some.inj q)▸(tS)
   ·rw[G.put_ne _ _ j]at q;exact U b o (kB u q) (sub b o q)
 fin:=λg s Q sub m M=>by
  obtain⟨u,e,a,o,kvs,ep,i,C,D,xs,l,f,w,r,c⟩:=m;have X:kvs.drop i=[]:=by
   cases n:kvs.drop i with
   |nil=>rfl
   |cons a b=>rw[n]at r c;cases r;exact CV c
  simp only[List.drop_eq_nil_iff]at X;refine wpAny_pyNext_items_end Z l (w _ (sub _ _ f)) (List.getElem?_eq_none X) λh' Y=>?_;exact M _ (St.ext s.toks (.head _) Y e) (dI u sub Y)
 keep:=λds g g' s s' m S y hf=>by obtain⟨u,e,d,o,kvs,ep,i,C,D,xs,J,f,w,r,c⟩:=m;exact⟨hf I (.head _),e,d,o,kvs,ep,i,C,D,xs,S I (.head _) _ J,y _ _ f,w,r.mono y,c⟩
 fpo:=λds g s m b j=>by obtain⟨u,e,d,o,kvs,ep,i,C,D,xs,J,f,w,r,c⟩:=m;cases List.mem_singleton.mp j;exact⟨u,fx J,e⟩
end
end Mine
end
noncomputable section
open PySem PySem.Calls PySem.Spec PySem.W PyProof.Rows Builtin.Str
set_option backward.match.sparseCases false
set_option genCtorIdx false
set_option genInjectivity false
set_option genSizeOf false
set_option genSizeOfSpec false
namespace Mine
section
inductive PT where|n (p:Pos) (k:Nat) (c:List PT)
noncomputable def PT.p:PT->Pos|.n p _ _=>p
noncomputable def PT.k:PT->Nat|.n _ k _=>k
noncomputable def PT.c(t:PT)(i:Nat):PT:=match t with|.n p k c=>c.getD i (.n p k [])
set_option genCtorIdx true in
inductive K where|none|bool (b:Bool)|int (i:Int)|str (s:Str)
noncomputable def K.data:K->PyData|.none=>.none|.bool b=>.bool b|.int i=>.int i|.str s=>.str s
noncomputable def K.const:K->Const|.none=>.none|.bool b=>.bool b|.int i=>.int i|.str s=>.str s
set_option genCtorIdx true in
inductive dJ where|v (i:Nat)|tup (is:List Nat)
structure CS where
 L:List bl
 caps:List (Option Nat)
 scope:Scope
 gs:List Str
set_option genCtorIdx true in
inductive Bi where|len|str|sum|sorted|tuple
noncomputable def Bi.name:Bi->Str|.len=>"len"|.str=>"str"|.sum=>"sum"|.sorted=>"sorted"|.tuple=>"tuple"
set_option genCtorIdx true in
inductive Me where|find|rfind|startswith|endswith|join|index|get|append
noncomputable def Me.name:Me->Str
 |.find=>"find"|.rfind=>"rfind"|.startswith=>"startswith"|.endswith=>"endswith"|.join=>"join"|.index=>"index"|.get=>"get"|.append=>"append"
mutual
inductive X where
 |k (c:K)|v (i:Nat)|g (n s:Str)
 |tup (es:List X)|lst (es:List X)|cell (es:List X)|dct (ks vs:List X)|dnew|nones (k:Int)
 |bin (op:Operator) (a b:X)|neg (a:X)|not (a:X)|cmp (op:CmpOp) (a b:X)|bop (op:BoolOp) (es:List X)|ite (c a b:X)
 |idx (a i:X)|slc (a:X) (lo hi:Option X)|fmt1 (f:Str) (a:X)|fmt3 (f:Str) (a:X)
 |call (f:Nat) (name:Str) (es:List X)|bi (b:Bi) (a:X)|isTup (a:X)|tzip (a b:X) (C:CS)|meth (m:Me) (o:X) (es:List X)|split (o a:X)
 |attr (o:X)|mk (a:X)|cmpr (f:Nat) (o a b:X)
 |lc (e:X) (t:dJ) (it:It) (cond:Option X) (C:CS)
 |dc (a b:X) (t:dJ) (it:It) (C:CS)
inductive It where
 |x (e:X)|rng (es:List X)|enu (e:X)|items (e:X)|gen (e:X)
end
inductive S where
 |asg (t:dJ) (e:X)|asgC (i:Nat) (e:X)|asgS (is:List Nat) (es:List X)|asgI (b i e:X)
 |aug (i:Nat) (op:Operator) (e:X)|augI (b i:X) (op:Operator) (e:X)|ex (e:X)
 |for(t:dJ) (it:It) (body:List S)|ite (c:X) (a b:List S)|ret (e:X)|brk|asrt (e:X)|del (b i:X)
noncomputable def nm:List bl->Nat->Str
 |[],_=>⟨#[]⟩
 |v::_,0=>v.name
 |_::r,i+1=>nm r i
noncomputable def fB(L:List bl)(t:PT):List Nat->Nat->List Expr
 |[],_=>[]
 |i::is,j=>.Name (nm L i) (t.c j).p::fB L t is (j+1)
noncomputable def g0(L:List bl)(t:PT):dJ->Expr
 |.v i=>.Name (nm L i) t.p
 |.tup is=>.Tuple (fB L t is 0) t.k t.p
mutual
noncomputable def aV:X->List bl->PT->Expr
 |.k c,_,t=>.Constant c.const t.k t.p
 |.v i,L,t=>.Name (nm L i) t.p
 |.g n _,_,t=>.Name n t.p
 |.tup es,L,t=>.Tuple (cn es L t 0) t.k t.p
 |.lst es,L,t=>.List (cn es L t 0) t.p
 |.cell es,L,t=>.List (cn es L t 0) t.p
 |.dct ks vs,L,t=>.Dict (tw ks L (t.c 0) 0) (cn vs L (t.c 1) 0) t.p
 |.dnew,_,t=>.Dict [] [] t.p
 |.nones k,_,t=>.BinOp (.List [.Constant .none (t.c 0).k ((t.c 0).c 0).p] (t.c 0).p) .Mult (.Constant (.int k) (t.c 1).k (t.c 1).p) t.p
 |.bin op a b,L,t=>.BinOp (aV a L (t.c 0)) op (aV b L (t.c 1)) t.p
 |.neg a,L,t=>.UnaryOp .USub (aV a L (t.c 0)) t.p
 |.not a,L,t=>.UnaryOp .Not (aV a L (t.c 0)) t.p
 |.cmp op a b,L,t=>.Compare (aV a L (t.c 0)) [op] [aV b L (t.c 1)] t.p
 |.bop op es,L,t=>.BoolOp op (cn es L t 0) t.p
 |.ite c a b,L,t=>.IfExp (aV c L (t.c 0)) (aV a L (t.c 1)) (aV b L (t.c 2)) t.p
 |.idx a i,L,t=>.Subscript (aV a L (t.c 0)) (aV i L (t.c 1)) t.p
 |.slc a lo d,L,t=>.Subscript (aV a L (t.c 0)) (.Slice (Be lo L ((t.c 1).c 0)) (Be d L ((t.c 1).c 1)) none (t.c 1).p) t.p
 |.fmt1 f a,L,t=>.BinOp (.Constant (.str f) (t.c 0).k (t.c 0).p) .Mod (aV a L (t.c 1)) t.p
 |.fmt3 f a,L,t=>.BinOp (.Constant (.str f) (t.c 0).k (t.c 0).p) .Mod (aV a L (t.c 1)) t.p
 |.call _ n es,L,t=>.Call (.Name n (t.c 0).p) (cn es L t 1) [] t.p
 |.bi b a,L,t=>.Call (.Name b.name (t.c 0).p) [aV a L (t.c 1)] [] t.p
 |.isTup a,L,t=>.Call (.Name "isinstance" (t.c 0).p) [aV a L (t.c 1),.Name "tuple" (t.c 2).p] [] t.p
 |.tzip a b C,L,t=>.Call (.Name "tuple" (t.c 0).p) [.GeneratorExp (.BinOp (.Name (nm C.L 0) (((t.c 1).c 0).c 0).p) .Add (.Name (nm C.L 1) (((t.c 1).c 0).c 1).p) ((t.c 1).c 0).p)
   [⟨g0 C.L ((t.c 1).c 1) (.tup [0,1]),.Call (.Name "zip" (((t.c 1).c 2).c 0).p) [aV a L (((t.c 1).c 2).c 1),aV b L (((t.c 1).c 2).c 2)] [] ((t.c 1).c 2).p,[],0⟩] C.scope (t.c 1).p] [] t.p
 |.meth m o es,L,t=>.Call (.Attribute (aV o L ((t.c 0).c 0)) m.name (t.c 0).p) (cn es L t 1) [] t.p
 |.split o a,L,t=>.Call (.Attribute (aV o L ((t.c 0).c 0)) "split" (t.c 0).p) [aV a L (t.c 1)] [] t.p
 |.attr o,L,t=>.Attribute (aV o L (t.c 0)) "comp_select_list" t.p
 |.mk a,L,t=>.Call (.Name "TupleComp" (t.c 0).p) [aV a L (t.c 1)] [] t.p
 |.cmpr _ o a b,L,t=>.Call (.Attribute (aV o L ((t.c 0).c 0)) "compare" (t.c 0).p) [aV a L (t.c 1),aV b L (t.c 2)] [] t.p
 |.lc e g it cond C,L,t=>.ListComp (aV e C.L (t.c 0)) [⟨g0 C.L (t.c 1) g,mM it L (t.c 2),(Be cond C.L (t.c 3)).toList,0⟩] C.scope t.p
 |.dc a b g it C,L,t=>.DictComp (aV a C.L ((t.c 0).c 0)) (aV b C.L ((t.c 0).c 1)) [⟨g0 C.L (t.c 1) g,mM it L (t.c 2),[],0⟩] C.scope t.p
noncomputable def cn:List X->List bl->PT->Nat->List Expr
 |[],_,_,_=>[]
 |e::es,L,t,j=>aV e L (t.c j)::cn es L t (j+1)
noncomputable def tw:List X->List bl->PT->Nat->List (Option Expr)
 |[],_,_,_=>[]
 |e::es,L,t,j=>some (aV e L (t.c j))::tw es L t (j+1)
noncomputable def Be:Option X->List bl->PT->Option Expr
 |none,_,_=>none
 |some e,L,t=>some (aV e L t)
noncomputable def mM:It->List bl->PT->Expr
 |.x e,L,t=>aV e L t
 |.rng es,L,t=>.Call (.Name "range" (t.c 0).p) (cn es L t 1) [] t.p
 |.enu e,L,t=>.Call (.Name "enumerate" (t.c 0).p) [aV e L (t.c 1)] [] t.p
 |.items e,L,t=>.Call (.Attribute (aV e L ((t.c 0).c 0)) "items" (t.c 0).p) [] [] t.p
 |.gen e,L,t=>.Call (.Name "_iter_escaped_chars" (t.c 0).p) [aV e L (t.c 1)] [] t.p
end
mutual
noncomputable def rj:S->List bl->PT->Stmt
 |.asg g e,L,t=>.Assign [g0 L (t.c 0) g] (aV e L (t.c 1)) t.p
 |.asgC i e,L,t=>.Assign [.Name (nm L i) (t.c 0).p] (aV e L (t.c 1)) t.p
 |.asgS is es,L,t=>.Assign [g0 L (t.c 0) (.tup is)] (.Tuple (cn es L (t.c 1) 0) (t.c 1).k (t.c 1).p) t.p
 |.asgI b i e,L,t=>.Assign [.Subscript (aV b L ((t.c 0).c 0)) (aV i L ((t.c 0).c 1)) (t.c 0).p] (aV e L (t.c 1)) t.p
 |.aug i op e,L,t=>.AugAssign (.Name (nm L i) (t.c 0).p) op (aV e L (t.c 1)) t.p
 |.augI b i op e,L,t=>.AugAssign (.Subscript (aV b L ((t.c 0).c 0)) (aV i L ((t.c 0).c 1)) (t.c 0).p) op (aV e L (t.c 1)) t.p
 |.ex e,L,t=>.Expr (aV e L (t.c 0)) t.p
 |.for g it body,L,t=>.For (g0 L (t.c 0) g) (mM it L (t.c 1)) (mN body L (t.c 2) 0) [] t.p
 |.ite c a b,L,t=>.If (aV c L (t.c 0)) (mN a L (t.c 1) 0) (mN b L (t.c 2) 0) t.p
 |.ret e,L,t=>.Return (some (aV e L (t.c 0))) t.p
 |.brk,_,t=>.Break t.p
 |.asrt e,L,t=>.Assert (aV e L (t.c 0)) none t.p
 |.del b i,L,t=>.Delete [.Subscript (aV b L ((t.c 0).c 0)) (aV i L ((t.c 0).c 1)) (t.c 0).p] t.p
noncomputable def mN:List S->List bl->PT->Nat->List Stmt
 |[],_,_,_=>[]
 |s::a,L,t,j=>rj s L (t.c j)::mN a L t (j+1)
end
noncomputable def cQ:List Str->List PyData->Str->Option PyData
 |k'::ks,d::ds,k=>if k'=k then some d else cQ ks ds k
 |_,_,_=>none
noncomputable def cA{a:Type}:List Str->List a->Str->a->List a
 |k'::ks,d::ds,k,x=>if k'=k then x::ds else d::cA ks ds k x
 |_,_,_,x=>[x]
noncomputable def cg(ks:List Str)(k:Str):List Str:=if ks.contains k then ks else ks++[k]
noncomputable def dD(ks:List Str)(ds:List PyData):PyData:=.dict ((ks.map PyData.str).zip ds)
noncomputable def dN:List (PyData×PyData)->Str->Option PyData
 |(.str a,d)::r,k=>if a=k then some d else dN r k
 |_,_=>none
noncomputable def aA.data:aA->PyData|.list xs=>.list xs|.dict ks ds=>dD ks ds|.froz x=>x
mutual
noncomputable def fz:V->List aA->Option (PyData×List aA)
 |.d x,st=>some (x,st)
 |.ref i,st=>match aI st i with
  |some c=>some (c.data,aT st i (.froz c.data))
  |none=>none
 |.tup vs,st=>match vr vs st with
  |some r=>some (.tuple r.1,r.2)
  |none=>none
 |.cmp _ _,_=>none
 |.unb,_=>none
noncomputable def vr:List V->List aA->Option (List PyData×List aA)
 |[],st=>some ([],st)
 |v::vs,st=>match fz v st with
  |some r=>match vr vs r.2 with
   |some q=>some (r.1::q.1,q.2)
   |none=>none
  |none=>none
end
noncomputable def gM:List V->Option (List PyData)
 |[]=>some []
 |.d x::r=>(gM r).map (x::·)
 |_::_=>none
noncomputable def lX(vs:List V):V:=match gM vs with
 |some ds=>.d (.tuple ds)
 |none=>.tup vs
noncomputable def aZ:V->Option Bool
 |.d (.bool b)=>some b
 |.d (.str x)=>if x.length<=sizeLine then some ((x.length:Int)!=0)else none
 |_=>none
noncomputable def bV{a:Type}(xs:List a)(i:Int):Option a:=match i with
 |.ofNat k=>if k<=1000000 then xs[k]?else none
 |.negSucc 0=>xs[xs.length -1]?
 |.negSucc _=>none
noncomputable def cW(st:List aA)(a i:V):Option V:=match a with
 |.ref r=>match i with
  |.d (.int i)=>match aI st r with
   |some (.list xs)=>(bV xs i).map .d
   |_=>none
  |.d (.str k)=>match aI st r with
   |some (.dict ks ds)=>(cQ ks ds k).map .d
   |_=>none
  |_=>none
 |.d (.list xs)=>(vI i).bind λi=>(bV xs i).map .d
 |.d (.tuple xs)=>(vI i).bind λi=>(bV xs i).map .d
 |.d (.str x)=>(vI i).bind λi=>(bV x.cps.toList i).map λc=>.d (.str ⟨#[c]⟩)
 |.d (.dict kvs)=>(vS i).bind λk=>(dN kvs k).map .d
 |_=>none
noncomputable def FQ{a:Type}(xs:List a)(b c:Option Int):List a:=(xs.drop (b.elim 0 (clipAt xs.length))).take (c.elim xs.length (clipAt xs.length) -b.elim 0 (clipAt xs.length))
noncomputable def iq(a:PyData)(c d:Option Int):Option PyData:=match a with
 |.str x=>if x.length<=sizeLine then some (.str (Txt.slice x c d))else none
 |.list xs=>if xs.length<=sizeLine then some (.list (FQ xs c d))else none
 |.tuple xs=>match c,d with
  |some a,none=>if 1<=a/\a<=xs.length/\xs.length<=sizeLine then some (.tuple (xs.drop a.toNat))else none
  |none,some b=>if 0<=b/\b<xs.length/\xs.length<=sizeLine then some (.tuple (xs.take b.toNat))else none
  |_,_=>none
 |_=>none
noncomputable def sH:Option V->Option (Option Int)
 |none=>some none
 |some (.d (.int i))=>some (some i)
 |_=>none
noncomputable def eI(op:Operator)(a b:V):Option V:=match op with
 |.Add=>match a with
  |.d (.int x)=>(vI b).bind λy=>some (.d (.int (x+y)))
  |.d (.str x)=>(vS b).bind λy=>if x.length+y.length<=sizeLine then some (.d (.str (x++y)))else none
  |.d (.tuple xs)=>(vT b).bind λys=>if xs≠[]/\ys≠[]/\xs.length+ys.length<=sizeLine then some (.d (.tuple (xs++ys)))else none
  |.d (.list xs)=>(vL b).bind λys=>if xs.length+ys.length<=sizeLine then some (.d (.list (xs++ys)))else none
  |_=>none
 |.Sub=>(vI a).bind λx=>(vI b).bind λy=>some (.d (.int (x -y)))
 |.Mult=>(vI a).bind λx=>(vI b).bind λy=>if x.natAbs<2^62 then some (.d (.int (x*y)))else none
 |.FloorDiv=>(vI a).bind λx=>(vI b).bind λy=>if y≠0/\y.natAbs<1073741824 then some (.d (.int (x.fdiv y)))else none
 |.Mod=>(vI a).bind λx=>(vI b).bind λy=>if y≠0 then some (.d (.int (x.fmod y)))else none
 |.Pow=>(vI a).bind λx=>(vI b).bind λy=>if 0<=y/\y<=1000000/\x.natAbs<2^64 then some (.d (.int (x^y.toNat)))else none
 |_=>none
noncomputable def Ck(f:PyData->PyData->Bool):List PyData->List PyData->Bool
 |[],[]=>true
 |x::xs,y::ys=>f x y&&Ck f xs ys
 |_,_=>false
noncomputable def vc(f:PyData->PyData->Bool)(ys:List (PyData×PyData)):List (PyData×PyData)->Bool
 |[]=>true
 |(.str k,x)::r=>(match dN ys k with
  |some y=>f x y
  |none=>false)&&vc f ys r
 |_=>false
noncomputable def En(f:PyData->PyData->Bool)(x y:PyData):Bool:=match x,y with
 |.tuple xs,.tuple ys=>Ck f xs ys
 |.dict xs,.dict ys=>xs.length==ys.length&&vc f ys xs
 |_,_=>false
noncomputable def ie:Nat->PyData->PyData->Bool
 |0,x,y=>d0 x&&d0 y&&PyData.eqv x y
 |n+1,x,y=>(d0 x&&d0 y&&PyData.eqv x y)||En (ie n) x y
noncomputable def fL(x y:PyData):Option Bool:=if d0 x&&d0 y then some (PyData.eqv x y)else if ie 8 x y then some true else none
noncomputable def GI(f:Bool->Bool)(st:List aA)(a b:V):Option (Bool×List aA):=(fz a st).bind λr=>(fz b r.2).bind λq=>(fL r.1 q.1).bind λe=>some (f e,q.2)
noncomputable def zM(f:Bool->Bool)(st:List aA)(a b:V):Option (Bool×List aA):=match vS a with
 |some x=>match vS b with
  |some y=>some (f (x==y),st)
  |none=>GI f st a b
 |none=>GI f st a b
noncomputable def dt(st:List aA)(op:CmpOp)(a b:V):Option (Bool×List aA):=match op with
 |.Lt=>(vI a).bind λx=>(vI b).bind λy=>some (decide (x<y),st)
 |.Gt=>(vI a).bind λx=>(vI b).bind λy=>some (decide (x>y),st)
 |.LtE=>(vI a).bind λx=>(vI b).bind λy=>some (decide (x<=y),st)
 |.GtE=>(vI a).bind λx=>(vI b).bind λy=>some (decide (x>=y),st)
 |.Eq=>zM (λe=>e) st a b
 |.NotEq=>zM (λe=>!e) st a b
 |.Is=>(vX a).bind λx=>(vX b).bind λy=>match y with
  |.none=>some (lO x,st)
  |.bool b=>some (nU b x,st)
  |_=>none
 |.IsNot=>(vX a).bind λx=>(vX b).bind λy=>match y with
  |.none=>some (!lO x,st)
  |.bool b=>some (!nU b x,st)
  |_=>none
 |.In=>match b with
  |.ref r=>(vS a).bind λx=>match aI st r with
   |some (.dict ks ds)=>some ((cQ ks ds x).isSome,st)
   |_=>none
  |.d (.str y)=>(vS a).bind λx=>some (hS y x,st)
  |.d (.list ys)=>(vX a).bind λx=>if d0 x&&d0 (.list ys)then some (ys.any λy=>PyData.eqv y x,st)else none
  |_=>none
 |.NotIn=>(vS a).bind λx=>(vS b).bind λy=>some (!hS y x,st)
noncomputable def o8:List PyData->Option (List Str)
 |[]=>some []
 |.str x::r=>(o8 r).map (x::·)
 |_::_=>none
noncomputable def eq:List PyData->Option (List Int)
 |[]=>some []
 |.int x::r=>(eq r).map (x::·)
 |_::_=>none
noncomputable def ig(x y:Str)(a b:Int):Option Int:=
 if 0<=a/\a<=b/\b<=x.length/\x.length<=sizeLine then some (match occurrences x y a.toNat b.toNat 1 with|i::_=>(i:Int)|[]=>-1)else none
noncomputable def fw(x y:Str)(a b:Int):Option Int:=
 if 0<=a/\a<=b/\b<=x.length/\x.length<=sizeLine then some (match lastOccurrence x y a.toNat b.toNat with|some i=>(i:Int)|none=>-1)else none
noncomputable def oX(st:List aA)(m:Me)(o:V):Bool:=match m with
 |.append=>match o with
  |.ref r=>match aI st r with
   |some (.list _)=>true
   |_=>false
  |_=>false
 |.get=>match o with
  |.ref r=>match aI st r with
   |some (.dict _ _)=>true
   |_=>false
  |.d (.dict _)=>true
  |_=>false
 |.index=>match o with
  |.d (.list _)=>true
  |.d (.str _)=>true
  |_=>false
 |_=>(vS o).isSome
noncomputable def d7(st:List aA)(m:Me)(o:V)(es:List V):Option (V×List aA):=match m with
 |.find=>(vS o).bind λx=>match es with
  |[a]=>(vS a).bind λy=>some (.d (.int (Txt.find x y)),st)
  |[a,b,c]=>(vS a).bind λy=>(vI b).bind λe=>(vI c).bind λf=>(ig x y e f).bind λi=>some (.d (.int i),st)
  |_=>none
 |.rfind=>(vS o).bind λx=>match es with
  |[a,b,c]=>(vS a).bind λy=>(vI b).bind λe=>(vI c).bind λf=>(fw x y e f).bind λi=>some (.d (.int i),st)
  |_=>none
 |.startswith=>(vS o).bind λx=>(e1 es).bind λa=>(vS a).bind λy=>some (.d (.bool (Txt.startswith x y)),st)
 |.endswith=>(vS o).bind λx=>(e1 es).bind λa=>(vS a).bind λy=>some (.d (.bool (Txt.endswith x y)),st)
 |.join=>(vS o).bind λx=>(e1 es).bind λv=>(fz v st).bind λr=>match r.1 with
  |.list ds=>(o8 ds).bind λxs=>if JoinOk x xs=true then some (.d (.str (Txt.join x xs)),r.2)else none
  |_=>none
 |.index=>match o with
  |.d (.str x)=>(e1 es).bind λa=>(vS a).bind λy=>match occurrences x y 0 x.length 1 with
   |i::_=>some (.d (.int i),st)
   |[]=>none
  |.d (.list xs)=>(e1 es).bind λa=>(vI a).bind λx=>if xs.length<=sizeLine then(eq xs).bind λis=>(is.findIdx? λy=>y==x).bind λi:Nat=>some (V.d (.int (i:Int)),st)else none
  |_=>none
 |.get=>match es with
  |[k,d]=>(vS k).bind λk=>(vX d).bind λd=>match o with
   |.ref r=>match aI st r with
    |some (.dict ks ds)=>some (.d ((cQ ks ds k).getD d),st)
    |_=>none
   |.d (.dict kvs)=>some (.d ((dN kvs k).getD d),st)
   |_=>none
  |_=>none
 |.append=>match o with
  |.ref r=>(e1 es).bind λv=>(fz v st).bind λq=>match aI q.2 r with
   |some (.list xs)=>if xs.length<=sizeLine then some (.d .none,aT q.2 r (.list (xs++[q.1])))else none
   |_=>none
  |_=>none
noncomputable def Bb:List Int->List Int->Bool
 |[],[]=>false
 |[],_::_=>true
 |_::_,[]=>false
 |x::xs,y::ys=>if x=y then Bb xs ys else decide (x<y)
noncomputable def AX:PyData->Option (List Int)
 |.tuple xs=>eq xs
 |_=>none
noncomputable def yE:List PyData->Option (List (List Int))
 |[]=>some []
 |x::r=>(AX x).bind λy=>(yE r).map (y::·)
noncomputable def qY{b:Type}(n:Nat)(c:Nat->Nat->Bool):KasT b->Option b
 |.ret a=>some a
 |.ask i j k=>if i<n/\j<n then qY n c (k (c i j))else none
noncomputable def gj(a:Nat->Nat->Bool)(n:Nat):Option (List Nat):=(qY n a (kas_sort n)).map (·.toList)
noncomputable def pS:PyData->Option Str|.str x=>some x|_=>none
noncomputable def pI:PyData->Option Int|.int x=>some x|_=>none
noncomputable def two{c:Type}:List c->Option (c×c)
 |[a,b]=>some (a,b)
 |_=>none
noncomputable def Dy(xs:List PyData):Option (Int×Int):=(two xs).bind λp=>(pI p.1).bind λa=>(pI p.2).map λb=>(a,b)
noncomputable def q4(xs:List PyData)(st:List aA):Option (V×List aA):=match Dy xs with
 |some p=>some (.d (.list (if p.2<p.1 then[.int p.2,.int p.1]else[.int p.1,.int p.2])),st)
 |none=>if 2<=xs.length/\xs.length<64 then(yE xs).bind λa=>if a.all (λr=>r.length==3)then
   (gj (λi j=>Bb (a.getD i []) (a.getD j [])) xs.length).map λis=>(.d (.list (is.map λi=>xs.getD i .none)),st)else none else none
noncomputable def FY:PyData->Option (List PyData)
 |.list xs=>some xs
 |_=>none
noncomputable def GV(st:List aA)(a:V):Option (V×List aA):=match a with
 |.ref r=>match aI st r with
  |some (.list xs)=>if xs.length<=sizeLine then some (.d (.int xs.length),st)else none
  |_=>none
 |.d (.str x)=>if x.length<=sizeLine then some (.d (.int x.length),st)else none
 |.d (.list x)=>if x.length<=sizeLine then some (.d (.int x.length),st)else none
 |_=>none
noncomputable def fJ(b:Bi)(a:V)(st:List aA):Option (V×List aA):=match b with
 |.len=>GV st a
 |.str=>(vI a).bind λi=>if i.natAbs<2^64 then some (.d (.str (Str.ofString (toString i))),st)else none
 |.sum=>(fz a st).bind λr=>(FY r.1).bind λxs=>(eq xs).bind λis=>some (.d (.int is.sum),r.2)
 |.sorted=>(vL a).bind λxs=>q4 xs st
 |.tuple=>(vL a).bind λxs=>if xs≠[]/\xs.length<=sizeLine then some (.d (.tuple xs),st)else none
noncomputable def FX:PyData->Option Bool
 |.tuple _=>some true
 |.int _=>some false
 |_=>none
noncomputable def p7(f:Str)(v:V):Option V:=(vS v).bind λx=>if f="{%s}"/\x.length<=1000000 then some (.d (.str (("{":Str)++x++("}":Str))))else none
noncomputable def BL{d:Type}:List d->Option (d×d×d)|[a,b,c]=>some (a,b,c)|_=>none
noncomputable def nh(f:Str)(v:V):Option V:=(vT v).bind λl=>(BL l).bind λq=>(pS q.1).bind λx=>(pI q.2.1).bind λi=>(pS q.2.2).bind λy=>
 if f="%s:%d(%s)"/\x.length<=100000/\y.length<=100000/\0<=i/\i<10^10 then some (.d (.str (x++(":":Str)++Str.ofString (toString i)++("(":Str)++y++(")":Str))))else none
noncomputable def eZ(pos:Nat)(b:Bool):List Nat->List PyData
 |[]=>if b then[.tuple [.int ((pos:Int) -1),.str ⟨#[92]⟩]]else[]
 |c::r=>if b then .tuple [.int pos,.str ⟨#[92,c]⟩]::eZ (pos+1) false r
  else if c=92 then eZ (pos+1) true r
  else .tuple [.int pos,.str ⟨#[c]⟩]::eZ (pos+1) false r
noncomputable def pk{a:Type}(f:X->a->Option (V×a)):List X->a->Option (List V×a)
 |[],st=>some ([],st)
 |x::xs,st=>(f x st).bind λr=>(pk f xs r.2).bind λq=>some (r.1::q.1,q.2)
noncomputable def By(f:X->List aA->Option (V×List aA)):Option X->List aA->Option (Option V×List aA)
 |none,st=>some (none,st)
 |some e,st=>(f e st).map λq=>(some q.1,q.2)
noncomputable def DI{c:Type}(f:X->c->Option (V×c)):List X->List X->c->Option (List V×List V×c)
 |[],[],st=>some ([],[],st)
 |k::ks,v::vs,st=>(f k st).bind λa=>(f v a.2).bind λb=>(DI f ks vs b.2).bind λr=>some (a.1::r.1,b.1::r.2.1,r.2.2)
 |_,_,_=>none
noncomputable def wJ(op:BoolOp)(f:X->List aA->Option (V×List aA)):List X->List aA->Option (V×List aA)
 |[],_=>none
 |[x],st=>f x st
 |x::xs,st=>(f x st).bind λr=>(aZ r.1).bind λb=>match op,b with
  |.And,false=>some r
  |.Or,true=>some r
  |_,_=>wJ op f xs r.2
noncomputable def dL:List Nat->List V->List V->Option (List V)
 |[],[],env=>some env
 |i::is,v::vs,env=>dL is vs (eA env i v)
 |_,_,_=>none
noncomputable def cd(t:dJ)(v:V)(env:List V):Option (List V):=match t,v with
 |.v i,v=>some (eA env i v)
 |.tup is,.d (.tuple ds)=>dL is (ds.map .d) env
 |.tup is,.d (.list ds)=>dL is (ds.map .d) env
 |.tup is,.tup vs=>dL is vs env
 |_,_=>none
noncomputable def dM(env:List V):List (Option Nat)->List V
 |[]=>[]
 |none::r=>.unb::dM env r
 |some i::r=>iY env i::dM env r
noncomputable def x1(t:dJ)(env:List V)(a:List V->List aA->Option (Bool×List aA))(e:List V->List aA->Option (V×List aA)):List PyData->List aA->List PyData->Option (List PyData×List aA)
 |[],st,acc=>some (acc,st)
 |d::ds,st,acc=>(cd t (.d d) env).bind λenv'=>(a env' st).bind λc=>match c.1 with
  |true=>(e env' c.2).bind λr=>(fz r.1 r.2).bind λq=>if acc.length<=sizeLine then x1 t env a e ds q.2 (acc++[q.1])else none
  |false=>x1 t env a e ds c.2 acc
noncomputable def wW(t:dJ)(env:List V)(k e:List V->List aA->Option (V×List aA)):List PyData->List aA->List Str->List PyData->Option (List Str×List PyData×List aA)
 |[],st,ks,vs=>some (ks,vs,st)
 |d::ds,st,ks,vs=>(cd t (.d d) env).bind λenv'=>(k env' st).bind λa=>(e env' a.2).bind λr=>(fz r.1 r.2).bind λq=>match a.1 with
  |.d (.str x)=>if ks.length<=sizeLine then wW t env k e ds q.2 (cg ks x) (cA ks vs x q.1)else none
  |_=>none
noncomputable def lq:List PyData->List PyData->List Str->List PyData->Option PyData
 |[],[],ks,vs=>some (dD ks vs)
 |.str k::r,d::ds,ks,vs=>lq r ds (cg ks k) (cA ks vs k d)
 |_,_,_,_=>none
set_option genCtorIdx true in
inductive Fl where|nx|brk|ret (v:V)
noncomputable def qa(t:dJ)(body:List V->List aA->Option (Fl×List V×List aA)):List PyData->List V->List aA->Option (Fl×List V×List aA)
 |[],env,st=>some (.nx,env,st)
 |d::ds,env,st=>(cd t (.d d) env).bind λenv'=>(body env' st).bind λr=>match r.1 with
  |.nx=>qa t body ds r.2.1 r.2.2
  |.brk=>some (.nx,r.2.1,r.2.2)
  |.ret v=>some (.ret v,r.2.1,r.2.2)
noncomputable def je(st:List aA)(b i:V)(x:PyData):Option (List aA):=match b,i with
 |.ref r,.d (.int k)=>match aI st r with
  |some (.list xs)=>if 0<=k/\k<xs.length/\xs.length<=sizeLine then some (aT st r (.list (xs.set k.toNat x)))else none
  |_=>none
 |.ref r,.d (.str k)=>match aI st r with
  |some (.dict ks ds)=>if ks.length<=sizeLine then some (aT st r (.dict (cg ks k) (cA ks ds k x)))else none
  |_=>none
 |_,_=>none
structure FD where
 name:Str
 np:Nat
 L:List bl
 body:List S
 t:PT
 gs:List Str
 scope:Scope
noncomputable def vY(v:V)(st:List aA):Option (V×List aA):=match v with
 |.unb=>none
 |.ref i=>match aI st i with
  |some (.froz x)=>some (.d x,st)
  |_=>some (.ref i,st)
 |v=>some (v,st)
noncomputable def FV(i:Int):Bool:=match i with
 |.ofNat k=>k.ble 1000000
 |_=>false
theorem iT{i:Int}:FV i=true↔0<=i/\i<=1000000:=by
 induction i using Int.casesOn with
 |ofNat k=>show k.ble 1000000=true↔_;rw[Nat.ble_eq];simp only[Int.ofNat_eq_natCast];lia
 |negSucc k=>exact⟨λh=>Bool.noConfusion h,λh=>absurd h.1 (by lia)⟩
noncomputable def AV(vs:List V):Option (List PyData):=match vs with
 |[a]=>(vI a).bind λb=>if FV b=true then some (jU 0 b.toNat)else none
 |[a,b]=>(vI a).bind λa=>(vI b).bind λb=>if FV a=true/\FV b=true then some (jU a (b -a).toNat)else none
 |_=>none
noncomputable def qZ:PyData->Option (List PyData)
 |.list xs=>some xs
 |.tuple xs=>some xs
 |.dict kvs=>some (kvs.map (·.1))
 |_=>none
noncomputable def Hz:V->Option (List (PyData×PyData))
 |.d (.dict kvs)=>some kvs
 |_=>none
noncomputable def G0(v:V):Option (Int×Int):=(vL v).bind λl=>(two l).bind λa=>(AX a.1).bind λp=>(AX a.2).bind λq=>(two p).bind λp=>(two q).bind λq=>if p.1=1/\q.1=0 then some (p.2,q.2)else none
structure Sm where
 ev:List V->X->List aA->Option (V×List aA)
 evi:List V->It->List aA->Option (List PyData×List aA)
 ex:List V->S->List aA->Option (Fl×List V×List aA)
 exs:List V->List S->List aA->Option (Fl×List V×List aA)
 callf:Nat->List V->List aA->Option (PyData×List aA)
noncomputable def Sm.ev1(j:Sm)(env:List V)(x:X)(st:List aA):Option (V×List aA):=match x with
  |.k c=>some (.d c.data,st)
  |.v i=>vY (iY env i) st
  |.g _ s=>some (.d (.str s),st)
  |.tup es=>(pk (j.ev env) es st).bind λr=>if r.1≠[]then some (lX r.1,r.2)else none
  |.lst es=>(pk (j.ev env) es st).bind λr=>(gM r.1).bind λds=>some (.d (.list ds),r.2)
  |.cell es=>(pk (j.ev env) es st).bind λr=>(gM r.1).bind λds=>some (.ref r.2.length,r.2++[.list ds])
  |.dct ks vs=>if ks=[]/\vs=[]then some (.d (.dict []),st)else if ks≠[]/\ks.length<=15/\ks.length=vs.length then(DI (j.ev env) ks vs st).bind λr=>(gM r.1).bind λn=>(gM r.2.1).bind λu=>(lq n u [] []).bind λd=>some (.d d,r.2.2)else none
  |.dnew=>some (.ref st.length,st++[.dict [] []])
  |.nones k=>if 0<=k/\k<=64 then some (.ref st.length,st++[.list (List.replicate k.toNat .none)])else none
  |.bin op a b=>(j.ev env a st).bind λr=>(j.ev env b r.2).bind λq=>(eI op r.1 q.1).map λv=>(v,q.2)
  |.neg a=>(j.ev env a st).bind λr=>(vI r.1).bind λi=>some (.d (.int (-i)),r.2)
  |.not a=>(j.ev env a st).bind λr=>(aZ r.1).map λb=>(.d (.bool !b),r.2)
  |.cmp op a b=>(j.ev env a st).bind λr=>(j.ev env b r.2).bind λq=>(dt q.2 op r.1 q.1).map λe=>(.d (.bool e.1),e.2)
  |.bop op es=>wJ op (j.ev env) es st
  |.ite c a b=>(j.ev env c st).bind λr=>(aZ r.1).bind λw=>match w with
   |true=>j.ev env a r.2
   |false=>j.ev env b r.2
  |.idx a i=>(j.ev env a st).bind λr=>(j.ev env i r.2).bind λq=>(cW q.2 r.1 q.1).map λv=>(v,q.2)
  |.slc a lo z=>(j.ev env a st).bind λr=>(By (j.ev env) lo r.2).bind λl=>(By (j.ev env) z l.2).bind λh=>(sH l.1).bind λA=>(sH h.1).bind λh'=>
    (fz r.1 h.2).bind λq=>(iq q.1 A h').map λd=>(.d d,q.2)
  |.fmt1 f a=>(j.ev env a st).bind λr=>(p7 f r.1).map λv=>(v,r.2)
  |.fmt3 f a=>(j.ev env a st).bind λr=>(nh f r.1).map λv=>(v,r.2)
  |.call f _ es=>(pk (j.ev env) es st).bind λr=>(j.callf f r.1 r.2).bind λq=>some (.d q.1,q.2)
  |.bi b a=>(j.ev env a st).bind λr=>fJ b r.1 r.2
  |.isTup a=>(j.ev env a st).bind λr=>(vX r.1).bind λx=>(FX x).bind λb=>some (.d (.bool b),r.2)
  |.tzip a b _=>(j.ev env a st).bind λr=>(j.ev env b r.2).bind λq=>(vT r.1).bind λxs=>(vT q.1).bind λys=>(eq xs).bind λis=>(eq ys).bind λB=>if xs≠[]/\xs.length=ys.length/\xs.length<=64 then some (.d (.tuple ((List.zipWith (·+·) is B).map .int)),q.2)else none
  |.meth m o es=>(j.ev env o st).bind λr=>if oX r.2 m r.1=true then(pk (j.ev env) es r.2).bind λq=>d7 q.2 m r.1 q.1 else none
  |.split o a=>(j.ev env o st).bind λr=>(j.ev env a r.2).bind λq=>(vS r.1).bind λx=>(vS q.1).bind λy=>if(y.length==0)=false/\x.length<=1000000/\(Txt.split x y).length<=sizeLine then some (.ref q.2.length,q.2++[.list ((Txt.split x y).map .str)])else none
  |.attr o=>(j.ev env o st).bind λr=>(vC r.1).bind λc=>some (.d (.list [.tuple [.int 1,.int c.1],.tuple [.int 0,.int c.2]]),r.2)
  |.mk a=>(j.ev env a st).bind λr=>(G0 r.1).bind λc=>some (.cmp c.1 c.2,r.2)
  |.cmpr f o a b=>(j.ev env o st).bind λr=>(vC r.1).bind λc=>(j.ev env a r.2).bind λq=>(j.ev env b q.2).bind λp=>(j.callf f [.cmp c.1 c.2,q.1,p.1] p.2).bind λq=>some (.d q.1,q.2)
  |.lc e t it cond C=>(j.evi env it st).bind λr=>(x1 t (dM env C.caps) (λenv' st=>match cond with
    |none=>some (true,st)
    |some c=>(j.ev env' c st).bind λr=>(aZ r.1).map λb=>(b,r.2)) (λenv'=>j.ev env' e) r.1 r.2 []).map λq=>(.d (.list q.1),q.2)
  |.dc a b t it C=>(j.evi env it st).bind λr=>(wW t (dM env C.caps) (λenv'=>j.ev env' a) (λenv'=>j.ev env' b) r.1 r.2 [] []).map λq=>(.d (dD q.1 q.2.1),q.2.2)
noncomputable def Sm.evi1(a:Sm)(env:List V)(it:It)(st:List aA):Option (List PyData×List aA):=match it with
  |.x e=>(a.ev env e st).bind λr=>(fz r.1 r.2).bind λq=>(qZ q.1).bind λxs=>some (xs,q.2)
  |.rng es=>(pk (a.ev env) es st).bind λr=>(AV r.1).bind λd=>some (d,r.2)
  |.enu e=>(a.ev env e st).bind λr=>(fz r.1 r.2).bind λq=>(FY q.1).bind λxs=>some (dQ 0 xs,q.2)
  |.items e=>(a.ev env e st).bind λr=>(Hz r.1).bind λkvs=>some (kvs.map λkv=>.tuple [kv.1,kv.2],r.2)
  |.gen e=>(a.ev env e st).bind λr=>(vS r.1).bind λx=>if x.length<=1000000 then some (eZ 0 false x.cps.toList,r.2)else none
noncomputable def Sm.ex1(f:Sm)(env:List V)(s:S)(st:List aA):Option (Fl×List V×List aA):=match s with
  |.asg t e=>(f.ev env e st).bind λr=>(cd t r.1 env).map λenv'=>(.nx,env',r.2)
  |.asgC i e=>(f.ev env e st).map λr=>(.nx,eA env i r.1,r.2)
  |.asgS is es=>(pk (f.ev env) es st).bind λr=>(dL is r.1 env).map λenv'=>(.nx,env',r.2)
  |.asgI b i e=>(f.ev env e st).bind λr=>(f.ev env b r.2).bind λq=>(f.ev env i q.2).bind λp=>(fz r.1 p.2).bind λz=>(je z.2 q.1 p.1 z.1).map λg=>(.nx,env,g)
  |.aug i op e=>(vI (iY env i)).bind λa=>(f.ev env e st).bind λr=>(vI r.1).bind λb=>match op with
   |.Add=>some (.nx,eA env i (.d (.int (a+b))),r.2)
   |.Sub=>some (.nx,eA env i (.d (.int (a -b))),r.2)
   |_=>none
  |.augI b i op e=>match op with
   |.Add=>(f.ev env b st).bind λr=>(f.ev env i r.2).bind λq=>(cW q.2 r.1 q.1).bind λh=>(f.ev env e q.2).bind λp=>(vI h).bind λx=>(vI p.1).bind λy=>(je p.2 r.1 q.1 (.int (x+y))).bind λg=>some (.nx,env,g)
   |_=>none
  |.ex e=>(f.ev env e st).bind λr=>(vX r.1).bind λx=>match x with
   |.none=>some (.nx,env,r.2)
   |_=>none
  |.for t it body=>(f.evi env it st).bind λr=>qa t (λenv'=>f.exs env' body) r.1 env r.2
  |.ite c a b=>(f.ev env c st).bind λr=>(aZ r.1).bind λl=>match l with
   |true=>f.exs env a r.2
   |false=>f.exs env b r.2
  |.ret e=>(f.ev env e st).map λr=>(.ret r.1,env,r.2)
  |.brk=>some (.brk,env,st)
  |.asrt e=>(f.ev env e st).bind λr=>(aZ r.1).bind λb=>if b then some (.nx,env,r.2)else none
  |.del b i=>(f.ev env b st).bind λr=>(f.ev env i r.2).bind λq=>(vR r.1).bind λa=>(vI q.1).bind λk=>match aI q.2 a with
   |some (.list xs)=>if-1<=k/\k<=0/\xs.length<=sizeLine then(seqIndex? k xs.length).bind λj=>some (.nx,env,aT q.2 a (.list (xs.eraseIdx j)))else none
   |_=>none
noncomputable def Sm.exs1(a:Sm)(env:List V)(b:List S)(st:List aA):Option (Fl×List V×List aA):=match b with
  |[]=>some (.nx,env,st)
  |s::r=>(a.ex env s st).bind λq=>match q.1 with
   |.nx=>a.exs q.2.1 r q.2.2
   |f=>some (f,q.2.1,q.2.2)
noncomputable def Sm.callf1(a:Sm)(T:List FD)(f:Nat)(vs:List V)(st:List aA):Option (PyData×List aA):=(T[f]?).bind λfd=>if vs.length=fd.np/\fd.np<=fd.L.length then
   (a.exs (vs++List.replicate (fd.L.length -fd.np) .unb) fd.body st).bind λr=>match r.1 with
    |.ret v=>(fz v r.2.2).map λq=>(q.1,q.2.take st.length)
    |.nx=>some (.none,r.2.2.take st.length)
    |.brk=>none
  else none
noncomputable def Sm.step(T:List FD)(a:Sm):Sm:=⟨a.ev1,a.evi1,a.ex1,a.exs1,a.callf1 T⟩
noncomputable def ch(T:List FD):Nat->Sm
 |0=>⟨λ_ _ _=>none,λ_ _ _=>none,λ_ _ _=>none,λ_ _ _=>none,λ_ _ _=>none⟩
 |n+1=>(ch T n).step T
noncomputable def ev(T:List FD)(n:Nat):=(ch T n).ev
noncomputable def evi(T:List FD)(n:Nat):=(ch T n).evi
noncomputable def ex(T:List FD)(n:Nat):=(ch T n).ex
noncomputable def exs(T:List FD)(n:Nat):=(ch T n).exs
noncomputable def callf(T:List FD)(n:Nat):=(ch T n).callf
theorem FH(i)(L)(t):aV (.v i) L t=.Name (nm L i) t.p:=rfl
theorem Bd(es)(L)(t):aV (.tup es) L t=.Tuple (cn es L t 0) t.k t.p:=rfl
theorem Bc(a)(i)(L)(t):aV (.idx a i) L t=.Subscript (aV a L (t.c 0)) (aV i L (t.c 1)) t.p:=rfl
theorem yY(u_)(n)(es)(L)(t):aV (.call u_ n es) L t=.Call (.Name n (t.c 0).p) (cn es L t 1) [] t.p:=rfl
theorem y0(a)(b)(C)(L)(t):aV (.tzip a b C) L t=.Call (.Name "tuple" (t.c 0).p) [.GeneratorExp (.BinOp (.Name (nm C.L 0) (((t.c 1).c 0).c 0).p) .Add (.Name (nm C.L 1) (((t.c 1).c 0).c 1).p) ((t.c 1).c 0).p)
   [⟨g0 C.L ((t.c 1).c 1) (.tup [0,1]),.Call (.Name "zip" (((t.c 1).c 2).c 0).p) [aV a L (((t.c 1).c 2).c 1),aV b L (((t.c 1).c 2).c 2)] [] ((t.c 1).c 2).p,[],0⟩] C.scope (t.c 1).p] [] t.p:=rfl
theorem yX(o)(L)(t):aV (.attr o) L t=.Attribute (aV o L (t.c 0)) "comp_select_list" t.p:=rfl
theorem yZ(u_)(o)(a)(b)(L)(t):aV (.cmpr u_ o a b) L t=.Call (.Attribute (aV o L ((t.c 0).c 0)) "compare" (t.c 0).p) [aV a L (t.c 1),aV b L (t.c 2)] [] t.p:=rfl
theorem mo(e)(g)(it)(cond)(C)(L)(t):aV (.lc e g it cond C) L t=.ListComp (aV e C.L (t.c 0)) [⟨g0 C.L (t.c 1) g,mM it L (t.c 2),(Be cond C.L (t.c 3)).toList,0⟩] C.scope t.p:=rfl
theorem mn(a)(b)(g)(it)(C)(L)(t):aV (.dc a b g it C) L t=.DictComp (aV a C.L ((t.c 0).c 0)) (aV b C.L ((t.c 0).c 1)) [⟨g0 C.L (t.c 1) g,mM it L (t.c 2),[],0⟩] C.scope t.p:=rfl
theorem rk(i)(e)(L)(t):rj (.asgC i e) L t=.Assign [.Name (nm L i) (t.c 0).p] (aV e L (t.c 1)) t.p:=rfl
theorem Bf(i)(op)(e)(L)(t):rj (.aug i op e) L t=.AugAssign (.Name (nm L i) (t.c 0).p) op (aV e L (t.c 1)) t.p:=rfl
theorem Bg(L)(t):rj (.brk) L t=.Break t.p:=rfl
theorem pf(e es L t j):cn (e::es) L t j=aV e L (t.c j)::cn es L t (j+1):=rfl
theorem Dw(e es L t j):tw (e::es) L t j=some (aV e L (t.c j))::tw es L t (j+1):=rfl
theorem FI(L t):Be none L t=none:=rfl
end
end Mine
end
noncomputable section
open PySem PySem.Calls PySem.Spec PySem.W PyProof.Rows Builtin.Str
namespace Mine
section
noncomputable def CL(e:Expr):Nat×Pos×List Expr:=e.casesOn (λ_ l p=>(0,p,l)) (λ_ _ p=>(0,p,[])) (λa _ b p=>(0,p,[a,b])) (λ_ a p=>(0,p,[a])) (λ_ _ _ p=>(0,p,[])) (λa b c p=>(0,p,[a,b,c]))
 (λks l p=>(0,p,[.List (ks.map λo=>o.getD (.List [] p)) p,.List l p])) (λ_ _ p=>(0,p,[])) (λa l _ p=>(0,p,a::l.flatMap λc=>c.target::c.iter::c.ifs)) (λ_ _ _ p=>(0,p,[])) (λa b l _ p=>(0,p,.List [a,b] p::l.flatMap λc=>[c.target,c.iter]))
 (λa l _ p=>(0,p,a::l.flatMap λc=>[c.target,c.iter])) (λ_ p=>(0,p,[])) (λ_ p=>(0,p,[])) (λ_ p=>(0,p,[])) (λa _ l p=>(0,p,a::l)) (λa l _ p=>(0,p,a::l)) (λ_ _ _ p=>(0,p,[])) (λ_ p=>(0,p,[]))
 (λ_ k p=>(k,p,[])) (λa _ p=>(0,p,[a])) (λa b p=>(0,p,[a,b])) (λ_ p=>(0,p,[])) (λ_ p=>(0,p,[])) (λl p=>(0,p,l)) (λl k p=>(k,p,l)) (λa b _ p=>(0,p,[a.getD (.List [] p),b.getD (.List [] p)]))
noncomputable def HG:Nat->Expr->PT
 |0,_=>.n ⟨0,0,0,0⟩ 0 []
 |n+1,e=>.n (CL e).2.1 (CL e).1 ((CL e).2.2.map (HG n))
noncomputable def sub(s:Stmt):Pos×List Expr×List (List Stmt):=s.casesOn (λ_ _ b _ _ _ _ _ _ p=>(p,[],[b])) (λ_ _ _ _ _ _ _ _ _ p=>(p,[],[])) (λ_ _ _ b _ _ _ _ _ _ p=>(p,[],[b])) (λo p=>(p,o.toList,[])) (λl p=>(p,l,[])) (λl e p=>(p,l++[e],[]))
 (λ_ _ _ _ _ _ p=>(p,[],[])) (λt _ e p=>(p,[t,e],[])) (λ_ _ _ _ p=>(p,[],[])) (λt i b _ p=>(p,[t,i],[b])) (λ_ _ _ _ p=>(p,[],[])) (λ_ _ _ p=>(p,[],[])) (λc a b p=>(p,[c],[a,b])) (λ_ _ p=>(p,[],[])) (λ_ _ p=>(p,[],[]))
 (λ_ _ p=>(p,[],[])) (λ_ _ p=>(p,[],[])) (λ_ _ _ _ p=>(p,[],[])) (λ_ _ _ _ p=>(p,[],[])) (λe _ p=>(p,[e],[])) (λ_ p=>(p,[],[])) (λ_ _ _ p=>(p,[],[])) (λ_ p=>(p,[],[])) (λ_ p=>(p,[],[])) (λe p=>(p,[e],[])) (λp=>(p,[],[])) (λp=>(p,[],[])) (λp=>(p,[],[]))
noncomputable def HI:Nat->Stmt->PT
 |0,_=>.n ⟨0,0,0,0⟩ 0 []
 |n+1,s=>.n (sub s).1 0 ((sub s).2.1.map (HG 30)++(sub s).2.2.map λb=>.n (sub s).1 0 (b.map (HI n)))
noncomputable def HH:PT:=.n ⟨0,0,0,0⟩ 0 (PySem.Challenge.pw_xb0025_01.main.body.map (HI 9))
noncomputable def mK(i j:Nat):PT:=if i=0 then(HH.c j).c 0 else(((HH.c 1).c 0).c 1).c 0
noncomputable abbrev VL(s:Str):bl:=⟨s,.local,true⟩
noncomputable abbrev VC(s:Str):bl:=⟨s,.cell,true⟩
noncomputable abbrev VF(s:Str):bl:=⟨s,.cell,false⟩
noncomputable def AL:List bl->List (Str×NameKind)
 |[]=>[]
 |v::r=>if v.mine then(v.name,v.kind)::AL r else AL r
noncomputable def zV:List bl->List (Str×NameKind)
 |[]=>[]
 |v::r=>if v.mine then zV r else(v.name,.free)::zV r
noncomputable def Cz:List Str->List (Str×NameKind)
 |[]=>[]
 |v::r=>(v,.globalImplicit)::Cz r
noncomputable def Fo(L:List bl)(gs:List Str)(g:Bool)(ns:List (Str×NameKind)):Scope:={kind:=.function,names:=ns,isGenerator:=g,isCoroutine:=false,more:=[]}
noncomputable def ik(L:List bl)(caps:List (Option Nat))(gs:List Str)(g:Bool):CS:={L:=L,caps:=caps,scope:=Fo L gs g ((".0",.local)::(AL L++(Cz gs++zV L))),gs:=gs}
noncomputable def mI(n:Str)(np:Nat)(L:List bl)(b:List S)(t:PT)(gs:List Str):FD:={name:=n,np:=np,L:=L,body:=b,t:=t,gs:=gs,scope:=Fo L gs false (AL L++(Cz gs++zV L))}
noncomputable def Hr:CS:=ik [VL "i",VL "j"] [none,none] [] true
noncomputable def HU:CS:=ik [VL "x"] [none] [] false
noncomputable def HV:CS:=ik [VL "want",VL "got"] [none,none] ["_ellipsis_match"] false
noncomputable def HW:CS:=ik [VL "look"] [none] ["_check_parenthesis"] false
noncomputable def HX:CS:=ik [VL "text",VF "one"] [none,some 5] [] false
noncomputable def Hs:CS:=ik [VL "y",VF "row",VF "x"] [none,some 1,some 10] [] false
noncomputable def Ht:CS:=ik [VL "y",VF "keys",VF "x"] [none,some 2,some 10] [] false
noncomputable def Hu:CS:=ik [VL "y",VF "costs",VF "left",VF "texts",VF "ways"] [none,some 5,some 11,some 4,some 6] [] false
noncomputable def Hw:CS:=ik [VL "y",VF "costs"] [none,some 5] [] false
noncomputable def Hy:CS:=ik [VL "text",VL "way",VL "cost",VF "both"] [none,none,none,some 7] [] false
noncomputable def Gk:CS:=ik [VL "x"] [none] [] false
noncomputable def Gl:CS:=ik [VL "x"] [none] [] false
noncomputable def Gm:CS:=ik [VL "k",VF "draws",VF "hidden"] [none,some 1,some 6] [] false
noncomputable def Gn:CS:=ik [VL "k",VL "name",VF "draws"] [none,none,some 1] [] false
noncomputable def Go:CS:=ik [VL "text"] [none] [] false
noncomputable def Gp:CS:=ik [VL "message"] [none] ["_strip_exception_details"] false
noncomputable def Gq:CS:=ik [VL "function"] [none] ["func_std_string"] false
noncomputable def Gr:CS:=ik [VL "k",VF "keys",VF "one",VF "two"] [none,some 4,some 12,some 13] [] false
noncomputable def Gs:CS:=ik [VL "place"] [none] [] false
noncomputable def Gu:CS:=ik [VL "cost"] [none] [] false
noncomputable def Gv:CS:=ik [VC "x",VF "lines",VF "page",VF "row"] [none,some 11,some 24,some 15] ["range"] false
noncomputable def Eg:CS:=ik [VL "y",VF "lines",VF "page",VF "row",VF "x"] [none,some 1,some 2,some 3,some 0] ["_law_came_first"] false
noncomputable def Gw:CS:=ik [VL "cost"] [none] [] false
noncomputable def Gx:CS:=ik [VL "name",VF "sums"] [none,some 26] ["tuple"] false
noncomputable def B6:CS:=ik [VL "number"] [none] [] false
noncomputable def Gy:CS:=ik [VL "name",VF "grown",VF "parted"] [none,some 17,some 18] ["add_func_stats"] false
noncomputable def Gz:CS:=ik [VL "entry",VL "kept"] [none,none] [] false
noncomputable def GA:CS:=ik [VL "name",VF "nest"] [none,some 29] [] false
noncomputable def GB:CS:=ik [VL "k",VF "first",VF "nest"] [none,some 30,some 29] ["_law_end"] false
noncomputable def GC:CS:=ik [VC "x",VF "behind",VF "first"] [none,some 31,some 30] ["range"] false
noncomputable def Eh:CS:=ik [VL "y",VF "behind",VF "first",VF "x"] [none,some 1,some 2,some 0] [] false
noncomputable def eB:List S:=[
 (.ite (.cmp .Eq (.slc (.v 0) none (some (.k (.int 2)))) (.tup [(.k (.str "~")),(.k (.int 0))])) [(.asg (.v 1) (.idx (.v 0) (.k (.int 2)))),(.ite (.bop .And [(.meth .startswith (.v 1) [(.k (.str "<"))]),(.meth .endswith (.v 1) [(.k (.str ">"))])]) [(.ret (.fmt1 "{%s}" (.slc (.v 1) (some (.k (.int 1))) (some (.neg (.k (.int 1)))))))] [(.ret (.v 1))])] [(.ret (.fmt3 "%s:%d(%s)" (.v 0)))])]
noncomputable def iN:FD:=mI "func_std_string" 1 [VL "func_name",VL "name"] eB (mK 0 2) []
noncomputable def eL:List S:=[
 (.asg (.tup [2,3,4,5,6]) (.v 1)),
 (.asg (.tup [7,8,9,10,11]) (.v 0)),
 (.ret (.tup [(.bin .Add (.v 2) (.v 7)),(.bin .Add (.v 3) (.v 8)),(.bin .Add (.v 4) (.v 9)),(.bin .Add (.v 5) (.v 10)),(.call 2 "add_callers" [(.v 11),(.v 6)])]))]
noncomputable def jA:FD:=mI "add_func_stats" 2 [VL "target",VL "source",VL "cc",VL "nc",VL "tt",VL "ct",VL "callers",VL "t_cc",VL "t_nc",VL "t_tt",VL "t_ct",VL "t_callers"] eL (mK 0 3) ["add_callers"]
noncomputable def eH:List S:=[
 (.asg (.v 2) .dnew),
 (.for (.tup [3,4]) (.items (.v 0)) [(.asgI (.v 2) (.v 3) (.v 4))]),
 (.for (.tup [3,4]) (.items (.v 1)) [(.ite (.cmp .In (.v 3) (.v 2)) [(.ite (.isTup (.v 4)) [(.asgI (.v 2) (.v 3) (.tzip (.v 4) (.idx (.v 2) (.v 3)) Hr))] [(.augI (.v 2) (.v 3) .Add (.v 4))])] [(.asgI (.v 2) (.v 3) (.v 4))])]),
 (.ret (.v 2))]
noncomputable def hH:FD:=mI "add_callers" 2 [VL "target",VL "source",VL "new_callers",VL "func",VL "caller"] eH (mK 0 4) ["isinstance","tuple","zip"]
noncomputable def Ek:List S:=[(.asg (.v 3) (.meth .find (.v 1) [(.v 5),(.v 3),(.v 4)])),(.ite (.cmp .Lt (.v 3) (.k (.int 0))) [(.ret (.k (.bool false)))] []),(.aug 3 .Add (.bi .len (.v 5)))]
noncomputable def lC:List S:=[(.ite (.cmp .Gt (.v 3) (.v 4)) [(.ret (.k (.bool false)))] []),(.for (.v 5) (.x (.v 2)) Ek),(.ret (.k (.bool true)))]
noncomputable def bp:List S:=(.ite (.cmp .NotIn (.g "ELLIPSIS_MARKER" "...") (.v 0)) [(.ret (.cmp .Eq (.v 0) (.v 1)))] [])::(.asg (.v 2) (.split (.v 0) (.g "ELLIPSIS_MARKER" "...")))::(.asrt (.cmp .GtE (.bi .len (.v 2)) (.k (.int 2))))::(.asgS [3,4] [(.k (.int 0)),(.bi .len (.v 1))])::(.asg (.v 5) (.idx (.v 2) (.k (.int 0))))::(.ite (.v 5) [(.ite (.meth .startswith (.v 1) [(.v 5)]) [(.asg (.v 3) (.bi .len (.v 5))),(.del (.v 2) (.k (.int 0)))] [(.ret (.k (.bool false)))])] [])::(.asg (.v 5) (.idx (.v 2) (.neg (.k (.int 1)))))::(.ite (.v 5) [(.ite (.meth .endswith (.v 1) [(.v 5)]) [(.aug 4 .Sub (.bi .len (.v 5))),(.del (.v 2) (.neg (.k (.int 1))))] [(.ret (.k (.bool false)))])] [])::lC
noncomputable def jB:FD:=mI "_ellipsis_match" 2 [VL "want",VL "got",VL "ws",VL "startpos",VL "endpos",VL "w"] bp (mK 0 7) ["ELLIPSIS_MARKER","len"]
noncomputable def cu:List S:=[
 (.asgS [1,2] [(.k (.int 0)),(.bi .len (.v 0))]),
 (.asg (.v 3) (.meth .find (.v 0) [(.k (.str "\n"))])),
 (.ite (.cmp .GtE (.v 3) (.k (.int 0))) [(.asg (.v 2) (.v 3))] []),
 (.asg (.v 3) (.meth .find (.v 0) [(.k (.str ":")),(.k (.int 0)),(.v 2)])),
 (.ite (.cmp .GtE (.v 3) (.k (.int 0))) [(.asg (.v 2) (.v 3))] []),
 (.asg (.v 3) (.meth .rfind (.v 0) [(.k (.str ".")),(.k (.int 0)),(.v 2)])),
 (.ite (.cmp .GtE (.v 3) (.k (.int 0))) [(.asg (.v 1) (.bin .Add (.v 3) (.k (.int 1))))] []),
 (.ret (.slc (.v 0) (some (.v 1)) (some (.v 2))))]
noncomputable def ez:FD:=mI "_strip_exception_details" 1 [VL "msg",VL "start",VL "end",VL "i"] cu (mK 0 8) ["len"]
noncomputable def yK:List S:=[(.ite (.cmp .Eq (.v 5) (.k (.str "\""))) [(.ite (.cmp .Is (.v 2) (.k .none)) [(.asg (.v 2) (.v 4))] [(.ite (.cmp .NotEq (.v 1) (.v 2)) [(.ex (.meth .append (.v 3) [(.slc (.v 0) (some (.v 1)) (some (.v 2)))]))] []),(.asg (.v 1) (.bin .Add (.v 4) (.k (.int 1)))),(.asg (.v 2) (.k .none))])] [])]
noncomputable def cy:List S:=[
 (.ite (.cmp .NotIn (.k (.str "\"")) (.v 0)) [(.ret (.v 0))] []),
 (.asg (.v 1) (.k (.int 0))),
 (.asg (.v 2) (.k .none)),
 (.asg (.v 3) (.cell [])),
 (.for (.tup [4,5]) (.gen (.v 0)) yK),
 (.ite (.cmp .Lt (.v 1) (.bi .len (.v 0))) [(.ex (.meth .append (.v 3) [(.slc (.v 0) (some (.v 1)) none)]))] []),
 (.ret (.meth .join (.k (.str "")) [(.v 3)]))]
noncomputable def eJ:FD:=mI "_strip_quoted_realnames" 1 [VL "addr",VL "start",VL "open_pos",VL "result",VL "pos",VL "ch"] cy (mK 0 11) ["_iter_escaped_chars","len"]
noncomputable def tO:List S:=[(.ite (.cmp .Eq (.v 3) (.k (.str "("))) [(.aug 1 .Add (.k (.int 1)))] [(.ite (.cmp .Eq (.v 3) (.k (.str ")"))) [(.aug 1 .Sub (.k (.int 1))),(.ite (.cmp .Lt (.v 1) (.k (.int 0))) [(.ret (.k (.bool false)))] [])] [])])]
noncomputable def d1:List S:=[
 (.asg (.v 0) (.call 5 "_strip_quoted_realnames" [(.v 0)])),
 (.asg (.v 1) (.k (.int 0))),
 (.for (.tup [2,3]) (.gen (.v 0)) tO),
 (.ret (.cmp .Eq (.v 1) (.k (.int 0))))]
noncomputable def gV:FD:=mI "_check_parenthesis" 1 [VL "addr",VL "opens",VL "pos",VL "ch"] d1 (mK 0 12) ["_strip_quoted_realnames","_iter_escaped_chars"]
noncomputable def kQ:List S:=[
 (.ret (.bop .And [(.cmp .Eq (.v 0) (.v 1)),(.cmp .Eq (.lc (.v 0) (.v 0) (.x (.v 0)) (some (.bop .And [(.cmp .IsNot (.v 0) (.k (.bool true))),(.cmp .IsNot (.v 0) (.k (.bool false)))])) HU) (.lst []))]))]
noncomputable def sl:FD:=mI "_law_told" 2 [VL "told",VL "due"] kQ (mK 0 14) []
noncomputable def kL:List S:=[
 (.asg (.v 2) (.cell [(.tup [(.bin .Add (.bin .Add (.v 0) (.k (.str "..."))) (.v 0)),(.v 0)]),(.tup [(.bin .Add (.bin .Add (.bin .Add (.bin .Add (.k (.str "...")) (.v 0)) (.k (.str "..."))) (.slc (.v 0) (some (.k (.int 1))) none)) (.k (.str "..."))),(.v 0)]),(.tup [(.bin .Add (.bin .Add (.bin .Add (.bin .Add (.k (.str "...")) (.v 0)) (.k (.str "..."))) (.v 1)) (.k (.str "..."))),(.bin .Add (.bin .Add (.v 0) (.v 1)) (.v 0))]),(.tup [(.bin .Add (.bin .Add (.bin .Add (.bin .Add (.v 0) (.k (.str "..."))) (.v 1)) (.k (.str "..."))) (.v 1)),(.bin .Add (.v 0) (.v 1))]),(.tup [(.bin .Add (.k (.str "...")) (.slc (.v 0) (some (.k (.int 1))) none)),(.v 0)]),(.tup [(.bin .Add (.bin .Add (.v 0) (.k (.str "......"))) (.v 1)),(.bin .Add (.v 0) (.v 1))]),(.tup [(.bin .Add (.v 0) (.k (.str "..."))),(.bin .Add (.v 1) (.v 0))]),(.tup [(.bin .Add (.k (.str "...")) (.v 0)),(.bin .Add (.v 0) (.v 1))]),(.tup [(.v 0),(.bin .Add (.v 0) (.v 1))]),(.tup [(.bin .Add (.v 0) (.v 1)),(.v 0)]),(.tup [(.v 0),(.v 0)])])),
 (.ret (.call 7 "_law_told" [(.lc (.call 3 "_ellipsis_match" [(.v 0),(.v 1)]) (.tup [0,1]) (.x (.v 2)) none HV),(.lst [(.k (.bool false)),(.k (.bool false)),(.k (.bool true)),(.k (.bool false)),(.k (.bool true)),(.k (.bool true)),(.k (.bool false)),(.k (.bool false)),(.k (.bool false)),(.k (.bool false)),(.k (.bool true))])]))]
noncomputable def sh:FD:=mI "_law_dots" 2 [VL "a",VL "b",VL "asked"] kL (mK 0 15) ["_law_told"]
noncomputable def jX:List S:=[
 (.asg (.v 1) (.cell [(.bin .Add (.v 0) (.k (.str "\"\\"))),(.bin .Add (.slc (.v 0) none (some (.neg (.k (.int 1))))) (.k (.str "\")"))),(.bin .Add (.bin .Add (.k (.str "\"(\"")) (.v 0)) (.k (.str "\")\""))),(.bin .Add (.k (.str "\"\\\"(\"")) (.v 0)),(.bin .Add (.bin .Add (.k (.str ")")) (.v 0)) (.k (.str "(")))])),
 (.ret (.call 7 "_law_told" [(.lc (.call 6 "_check_parenthesis" [(.v 0)]) (.v 0) (.x (.v 1)) none HW),(.lst [(.k (.bool true)),(.k (.bool true)),(.k (.bool true)),(.k (.bool true)),(.k (.bool false))])]))]
noncomputable def p5:FD:=mI "_law_looks" 1 [VL "nest",VL "asked"] jX (mK 0 16) ["_law_told"]
noncomputable def xm:List S:=[(.asg (.v 6) (.bin .Mod (.bin .FloorDiv (.v 1) (.bin .Pow (.k (.int 7)) (.v 4))) (.k (.int 7)))),(.ex (.meth .append (.v 2) [(.idx (.lst [(.tup [(.k (.str "x")),(.bin .Add (.v 4) (.k (.int 1))),(.v 5)]),(.tup [(.k (.str "~")),(.bin .Add (.v 4) (.k (.int 1))),(.v 5)]),(.tup [(.k (.str "x")),(.k (.int 0)),(.bin .Add (.bin .Add (.k (.str "<")) (.v 5)) (.k (.str ">")))]),(.tup [(.k (.str "~")),(.k (.int 0)),(.bin .Add (.bin .Add (.k (.str "<")) (.v 5)) (.k (.str ">")))]),(.tup [(.k (.str "~")),(.k (.int 0)),(.v 5)]),(.tup [(.k (.str "~")),(.k (.int 0)),(.bin .Add (.k (.str "<")) (.v 5))]),(.tup [(.k (.str "~")),(.k (.int 0)),(.bin .Add (.v 5) (.k (.str ">")))])]) (.v 6))])),(.ex (.meth .append (.v 3) [(.idx (.lst [(.bin .Add (.bin .Add (.bin .Add (.bin .Add (.k (.str "x:")) (.bi .str (.bin .Add (.v 4) (.k (.int 1))))) (.k (.str "("))) (.v 5)) (.k (.str ")"))),(.bin .Add (.bin .Add (.bin .Add (.bin .Add (.k (.str "~:")) (.bi .str (.bin .Add (.v 4) (.k (.int 1))))) (.k (.str "("))) (.v 5)) (.k (.str ")"))),(.bin .Add (.bin .Add (.k (.str "x:0(<")) (.v 5)) (.k (.str ">)"))),(.bin .Add (.bin .Add (.k (.str "{")) (.v 5)) (.k (.str "}"))),(.v 5),(.bin .Add (.k (.str "<")) (.v 5)),(.bin .Add (.v 5) (.k (.str ">")))]) (.v 6))]))]
noncomputable def dS:List S:=[
 (.asgS [2,3] [(.cell []),(.cell [])]),
 (.for (.tup [4,5]) (.enu (.v 0)) xm),
 (.ret (.tup [(.v 2),(.v 3)]))]
noncomputable def kl:FD:=mI "_law_functions" 2 [VL "names",VL "forms",VL "told",VL "due",VL "k",VL "name",VL "form"] dS (mK 0 17) ["enumerate","str"]
noncomputable def gr:List S:=[(.ex (.meth .append (.v 3) [(.tup [(.v 5),(.bin .Add (.slc (.v 5) none (some (.k (.int 4)))) (.tup [(.dc (.v 0) (.idx (.idx (.v 1) (.k (.int 4))) (.v 0)) (.v 0) (.x (.idx (.v 5) (.k (.int 4)))) HX)]))])]))]
noncomputable def mV:List S:=[
 (.asg (.v 4) (.meth .get (.v 0) [(.v 1),(.tup [(.k (.int 0)),(.k (.int 0)),(.k (.int 0)),(.k (.int 0)),(.dct [] [])])])),
 (.for (.v 5) (.x (.tup [(.v 4),(.v 2)])) gr),
 (.asgI (.v 0) (.v 1) (.call 1 "add_func_stats" [(.v 4),(.v 2)]))]
noncomputable def vk:FD:=mI "_law_add" 4 [VL "table",VL "name",VL "entry",VL "handed",VL "target",VC "one"] mV (mK 0 18) ["add_func_stats"]
noncomputable def kO:List S:=[
 (.asg (.tup [5,6,7,8,9]) (.v 1)),
 (.asg (.v 10) (.ite (.cmp .Eq (.v 4) (.k (.str "-1"))) (.idx (.v 7) (.k (.int 0))) (.idx (.v 7) (.k (.int 1))))),
 (.asg (.v 11) (.tup [(.ite (.cmp .Eq (.v 4) (.k (.str "-1"))) (.k (.int 1)) (.k (.int 0))),(.k (.int 1)),(.ite (.cmp .Eq (.v 4) (.k (.str "0"))) (.k (.int 1)) (.k (.int 0))),(.idx (.v 6) (.v 3)),(.dct [(.idx (.v 5) (.v 3))] [(.ite (.v 8) (.tup [(.v 10),(.idx (.v 6) (.v 3))]) (.v 10))])])),
 (.ex (.call 11 "_law_add" [(.v 0),(.idx (.v 5) (.v 2)),(.v 11),(.v 9)]))]
noncomputable def sj:FD:=mI "_law_note" 5 [VL "table",VL "world",VL "node",VL "new",VL "said",VL "texts",VL "costs",VL "ways",VL "both",VL "handed",VL "way",VL "entry"] kO (mK 0 19) ["_law_add"]
noncomputable def fE:List S:=[(.asg (.v 9) (.bi .str (.cmpr 20 (.v 1) (.idx (.v 0) (.v 6)) (.idx (.v 0) (.v 7))))),(.ex (.call 12 "_law_note" [(.v 2),(.v 3),(.v 7),(.v 6),(.v 9)])),(.asg (.v 10) (.ite (.cmp .Eq (.v 9) (.k (.str "-1"))) (.v 4) (.v 5))),(.ite (.cmp .Is (.idx (.v 10) (.v 7)) (.k .none)) [(.asgI (.v 10) (.v 7) (.v 6)),.brk] []),(.asg (.v 7) (.idx (.v 10) (.v 7)))]
noncomputable def ph:List S:=[(.asg (.v 7) (.k (.int 0))),(.for (.v 8) (.rng [(.k (.int 6))]) fE)]
noncomputable def hZ:List S:=[
 (.asgS [4,5] [(.nones 6),(.nones 6)]),
 (.for (.v 6) (.rng [(.k (.int 1)),(.k (.int 6))]) ph),
 (.ret (.tup [(.v 4),(.v 5)]))]
noncomputable def sn:FD:=mI "_law_tree" 4 [VL "keys",VL "order",VL "table",VL "world",VL "low",VL "high",VL "new",VL "node",VL "_",VL "said",VL "side"] hZ (mK 0 20) ["range","str","_law_note"]
noncomputable def tn:List S:=[(.asg (.v 8) (.bi .str (.cmpr 20 (.v 2) (.idx (.v 1) (.idx (.v 0) (.k (.int 0)))) (.idx (.v 1) (.v 7))))),(.asg (.v 9) (.meth .get (.dct [(.k (.str "1")),(.k (.str "-1"))] [(.k (.str "-1")),(.k (.str "1"))]) [(.v 8),(.v 8)])),(.ex (.call 12 "_law_note" [(.v 3),(.v 4),(.idx (.v 0) (.k (.int 0))),(.v 7),(.v 9)])),(.ite (.cmp .Eq (.v 9) (.k (.str "-1"))) [(.ex (.meth .append (.v 5) [(.v 7)]))] [(.ex (.meth .append (.v 6) [(.v 7)]))])]
noncomputable def ji:List S:=[(.ite (.cmp .NotEq (.v 10) (.lst [])) [(.ex (.call 14 "_law_sort" [(.v 10),(.v 1),(.v 2),(.v 3),(.v 4)]))] [])]
noncomputable def em:List S:=[
 (.asgS [5,6] [(.cell []),(.cell [])]),
 (.for (.v 7) (.x (.slc (.v 0) (some (.k (.int 1))) none)) tn),
 (.for (.v 10) (.x (.tup [(.v 5),(.v 6)])) ji)]
noncomputable def sk:FD:=mI "_law_sort" 5 [VL "some",VL "keys",VL "order",VL "table",VL "world",VL "low",VL "high",VL "new",VL "told",VL "said",VL "part"] em (mK 0 21) ["str","_law_note","_law_sort"]
noncomputable def kM:List S:=[
 (.ret (.ite (.cmp .Is (.v 0) (.k .none)) (.k (.str "")) (.bin .Add (.bin .Add (.bin .Add (.bin .Add (.k (.str "(")) (.idx (.v 3) (.v 0))) (.call 15 "_law_nest" [(.idx (.v 1) (.v 0)),(.v 1),(.v 2),(.v 3)])) (.call 15 "_law_nest" [(.idx (.v 2) (.v 0)),(.v 1),(.v 2),(.v 3)])) (.k (.str ")")))))]
noncomputable def si:FD:=mI "_law_nest" 4 [VL "node",VL "low",VL "high",VL "names"] kM (mK 0 22) ["_law_nest"]
noncomputable def tV:List S:=[(.ite (.bop .And [(.cmp .Eq (.idx (.v 0) (.bin .Sub (.v 2) (.k (.int 1)))) (.k (.str ")"))),(.cmp .Is (.call 6 "_check_parenthesis" [(.slc (.v 0) (some (.v 1)) (some (.v 2)))]) (.k (.bool true)))]) [(.ret (.v 2))] [])]
noncomputable def mX:List S:=[
 (.for (.v 2) (.rng [(.bin .Add (.v 1) (.k (.int 1))),(.bin .Add (.bi .len (.v 0)) (.k (.int 1)))]) tV)]
noncomputable def vm:FD:=mI "_law_end" 2 [VL "nest",VL "first",VL "e"] mX (mK 0 23) ["range","len","_check_parenthesis"]
noncomputable def wL:List S:=[(.ite (.bop .And [(.cmp .NotEq (.v 7) (.v 0)),(.cmp .IsNot (.call 3 "_ellipsis_match" [(.bin .Add (.bin .Add (.bin .Add (.bin .Add (.ite (.cmp .Eq (.v 0) (.k (.int 0))) (.k (.str "")) (.k (.str "..."))) (.idx (.v 3) (.v 0))) (.k (.str "..."))) (.idx (.v 3) (.v 7))) (.ite (.cmp .Eq (.v 7) (.k (.int 5))) (.k (.str "")) (.k (.str "...")))),(.v 4)]) (.k (.bool true)))]) [(.ret (.k (.bool false)))] [])]
noncomputable def eM:List S:=[
 (.asg (.tup [5,6]) (.bi .sorted (.lst [(.meth .index (.v 2) [(.v 0)]),(.meth .index (.v 2) [(.v 1)])]))),
 (.for (.v 7) (.x (.slc (.v 2) (some (.v 5)) (some (.bin .Add (.v 6) (.k (.int 1)))))) wL),
 (.ret (.cmp .NotEq (.v 0) (.v 1)))]
noncomputable def jC:FD:=mI "_law_came_first" 5 [VL "x",VL "y",VL "row",VL "lines",VL "page",VL "i",VL "j",VL "z"] eM (mK 0 24) ["sorted","_ellipsis_match"]
noncomputable def w4:List S:=[(.asg (.v 11) (.lc (.v 0) (.v 0) (.x (.idx (.v 0) (.v 10))) (some (.cmp .Lt (.meth .index (.v 1) [(.v 0)]) (.meth .index (.v 1) [(.v 2)]))) Hs)),(.asgC 12 (.lc (.v 0) (.v 0) (.x (.idx (.v 0) (.v 10))) (some (.cmp .Eq (.idx (.v 1) (.v 0)) (.idx (.v 1) (.v 2)))) Ht)),(.asgC 13 (.lc (.tup [(.idx (.v 3) (.v 0)),(.ite (.cmp .In (.v 0) (.v 2)) (.idx (.v 4) (.k (.int 0))) (.idx (.v 4) (.k (.int 1)))),(.idx (.v 1) (.v 0))]) (.v 0) (.x (.idx (.v 0) (.v 10))) none Hu)),(.ite (.cmp .NotEq (.v 13) (.lst [])) [(.asgI (.v 9) (.idx (.v 4) (.v 10)) (.tup [(.bi .len (.v 11)),(.bi .len (.v 13)),(.bi .len (.v 12)),(.bi .sum (.lc (.idx (.v 1) (.v 0)) (.v 0) (.x (.idx (.v 0) (.v 10))) none Hw)),(.dc (.v 0) (.ite (.v 3) (.tup [(.v 1),(.v 2)]) (.v 1)) (.tup [0,1,2]) (.x (.v 13)) Hy)]))] [])]
noncomputable def mW:List S:=[
 (.asg (.tup [4,5,6,7,8]) (.v 3)),
 (.asg (.v 9) .dnew),
 (.for (.v 10) (.rng [(.k (.int 6))]) w4),
 (.ret (.v 9))]
noncomputable def vl:FD:=mI "_law_due" 4 [VL "under",VC "row",VC "keys",VL "world",VC "texts",VC "costs",VC "ways",VC "both",VL "handed",VL "due",VC "x",VC "left",VL "like",VL "calls"] mW (mK 0 25) ["range","len","sum"]
noncomputable def w2:List S:=[(.augI (.v 1) (.bin .Mod (.v 2) (.k (.int 9))) .Add (.bin .Mod (.v 3) (.bin .Pow (.k (.int 10)) (.k (.int 6)))))]
noncomputable def CP:List S:=[(.asg (.v 29) (.call 15 "_law_nest" [(.k (.int 0)),(.v 22),(.v 23),(.v 7)])),(.ite (.not (.call 9 "_law_looks" [(.v 29)])) [(.ret (.k (.bool false)))] []),(.asg (.v 30) (.lc (.meth .index (.v 1) [(.bin .Add (.k (.str "(")) (.v 0))]) (.v 0) (.x (.v 7)) none GA)),(.asg (.v 31) (.bin .Add (.lst [(.bi .len (.v 29))]) (.lc (.call 16 "_law_end" [(.v 2),(.idx (.v 1) (.v 0))]) (.v 0) (.rng [(.k (.int 1)),(.k (.int 6))]) none GB))),(.ret (.cmp .Eq (.v 25) (.lc (.lc (.v 0) (.v 0) (.rng [(.k (.int 6))]) (some (.bop .And [(.cmp .Lt (.idx (.v 2) (.v 3)) (.idx (.v 2) (.v 0))),(.cmp .LtE (.idx (.v 1) (.v 0)) (.idx (.v 1) (.v 3)))])) Eh) (.v 0) (.rng [(.k (.int 6))]) none GC)))]
noncomputable def AB:List S:=(.asg (.v 26) (.call 18 "_law_due" [(.v 25),(.v 15),(.v 4),(.tup [(.v 10),(.lc (.bin .Sub (.k (.int 11)) (.v 0)) (.v 0) (.x (.v 5)) none Gw),(.tup [(.k (.int 4)),(.k (.int 7))]),(.v 14),(.v 19)])]))::(.asgC 27 (.dc (.v 0) (.bin .Add (.bi .tuple (.lc (.bin .Mult (.k (.int 2)) (.v 0)) (.v 0) (.x (.slc (.idx (.v 1) (.v 0)) none (some (.k (.int 3))))) none B6)) (.slc (.idx (.v 1) (.v 0)) (some (.k (.int 3))) none)) (.v 0) (.x (.v 26)) Gx))::(.asgC 28 (.dc (.v 0) (.call 1 "add_func_stats" [(.idx (.v 1) (.v 0)),(.meth .get (.v 2) [(.v 0),(.tup [(.k (.int 0)),(.k (.int 0)),(.k (.int 0)),(.k (.int 0)),(.dct [] [])])])]) (.v 0) (.x (.v 17)) Gy))::(.ite (.bop .Or [(.cmp .NotEq (.v 28) (.v 27)),(.cmp .NotEq (.v 17) (.call 18 "_law_due" [(.v 25),(.v 15),(.v 4),(.v 20)])),(.cmp .NotEq (.v 18) (.call 18 "_law_due" [(.v 25),(.v 15),(.v 4),(.v 21)])),(.cmp .NotEq (.lc (.v 0) (.tup [0,1]) (.x (.v 19)) (some (.cmp .NotEq (.v 0) (.v 1))) Gz) (.lst []))]) [(.ret (.k (.bool false)))] [])::CP
noncomputable def CO:List S:=(.asg (.tup [22,23]) (.call 13 "_law_tree" [(.v 4),(.v 16),(.v 17),(.v 20)]))::(.ex (.call 14 "_law_sort" [(.lst [(.k (.int 0)),(.k (.int 1)),(.k (.int 2)),(.k (.int 3)),(.k (.int 4)),(.k (.int 5))]),(.v 4),(.v 16),(.v 18),(.v 21)]))::(.asg (.v 24) (.meth .join (.k (.str "")) [(.v 11)]))::(.asgC 25 (.lc (.lc (.v 0) (.v 0) (.rng [(.k (.int 6))]) (some (.call 17 "_law_came_first" [(.v 4),(.v 0),(.v 3),(.v 1),(.v 2)])) Eg) (.v 0) (.rng [(.k (.int 6))]) none Gv))::AB
noncomputable def GX:List S:=(.asg (.tup [12,13,14]) (.tup [(.bin .Sub (.bin .Mult (.bin .Mod (.bin .FloorDiv (.bi .sum (.v 1)) (.k (.int 2))) (.k (.int 2))) (.k (.int 2))) (.k (.int 1))),(.bin .Sub (.bin .Mult (.bin .Mod (.bin .FloorDiv (.bi .sum (.v 1)) (.k (.int 4))) (.k (.int 2))) (.k (.int 2))) (.k (.int 1))),(.cmp .Eq (.bin .Mod (.bi .sum (.v 1)) (.k (.int 2))) (.k (.int 1)))]))::(.asg (.v 15) (.lc (.idx (.v 0) (.k (.int 2))) (.v 0) (.x (.bi .sorted (.lc (.tup [(.bin .Mult (.v 2) (.idx (.idx (.v 1) (.v 0)) (.k (.int 1)))),(.bin .Mult (.v 3) (.idx (.idx (.v 1) (.v 0)) (.k (.int 0)))),(.v 0)]) (.v 0) (.rng [(.k (.int 6))]) none Gr))) none Gs))::(.asg (.tup [16,17,18,19]) (.tup [(.mk (.lst [(.tup [(.k (.int 1)),(.v 12)]),(.tup [(.k (.int 0)),(.v 13)])])),.dnew,.dnew,(.cell [])]))::(.asgS [20,21] [(.tup [(.v 10),(.v 5),(.tup [(.k (.int 1)),(.k (.int 2))]),(.v 14),(.v 19)]),(.tup [(.v 10),(.lc (.bin .Sub (.k (.int 11)) (.bin .Mult (.k (.int 2)) (.v 0))) (.v 0) (.x (.v 5)) none Gu),(.tup [(.k (.int 3)),(.k (.int 5))]),(.v 14),(.v 19)])])::CO
noncomputable def GW:List S:=(.ite (.bop .Or [(.cmp .NotEq (.lc (.call 4 "_strip_exception_details" [(.v 0)]) (.v 0) (.x (.v 8)) none Gp) (.v 7)),(.cmp .NotEq (.lc (.call 0 "func_std_string" [(.v 0)]) (.v 0) (.x (.v 9)) none Gq) (.v 10)),(.not (.call 8 "_law_dots" [(.idx (.v 11) (.k (.int 0))),(.idx (.v 11) (.k (.int 1)))]))]) [(.ret (.k (.bool false)))] [])::GX
noncomputable def F1:List S:=(.asg (.tup [4,5]) (.tup [(.lc (.tup [(.bin .Mod (.bin .FloorDiv (.v 0) (.k (.int 3))) (.k (.int 3))),(.bin .Mod (.v 0) (.k (.int 3)))]) (.v 0) (.x (.slc (.v 1) none (some (.k (.int 6))))) none Gk),(.lc (.bin .Sub (.v 0) (.k (.int 50))) (.v 0) (.x (.slc (.v 1) none (some (.k (.int 6))))) none Gl)]))::(.asg (.v 6) (.cell [(.k (.str "")),(.k (.str "\\)")),(.k (.str "\"(\"")),(.k (.str "\\(")),(.k (.str "\\\"")),(.k (.str "\\\\")),(.k (.str "\"\\\"(\"")),(.k (.str ""))]))::(.asgC 7 (.lc (.bin .Add (.idx (.k (.str "abcdef")) (.v 0)) (.idx (.v 2) (.bin .Mod (.bin .FloorDiv (.idx (.v 1) (.k (.int 6))) (.bin .Pow (.k (.int 8)) (.v 0))) (.k (.int 8))))) (.v 0) (.rng [(.k (.int 6))]) none Gm))::(.asgC 8 (.lc (.idx (.lst [(.v 1),(.bin .Add (.k (.str "x.")) (.v 1)),(.bin .Add (.bin .Add (.k (.str "x.y.")) (.v 1)) (.k (.str ": no.x: y"))),(.bin .Add (.v 1) (.k (.str "\nx.y: z"))),(.bin .Add (.bin .Add (.k (.str "x.")) (.v 1)) (.k (.str ":\n"))),(.bin .Add (.v 1) (.k (.str ": x"))),(.bin .Add (.bin .Add (.k (.str "x.")) (.v 1)) (.k (.str "\ny.z\nw: v")))]) (.bin .Mod (.bin .FloorDiv (.idx (.v 2) (.k (.int 8))) (.bin .Pow (.k (.int 7)) (.v 0))) (.k (.int 7)))) (.tup [0,1]) (.enu (.v 7)) none Gn))::(.asg (.tup [9,10]) (.call 10 "_law_functions" [(.v 7),(.idx (.v 1) (.k (.int 7)))]))::(.asg (.v 11) (.lc (.bin .Add (.v 0) (.k (.str "\n"))) (.v 0) (.x (.v 10)) none Go))::GW
noncomputable def tL:List S:=(.asg (.v 1) (.cell [(.k (.int 31)),(.k (.int 15)),(.k (.int 49)),(.k (.int 20)),(.k (.int 66)),(.k (.int 43)),(.k (.int 214024)),(.k (.int 46185)),(.k (.int 88125))]))::(.for (.tup [2,3]) (.enu (.slc (.v 0) none (some (.k (.int 60))))) w2)::F1
noncomputable def iO:FD:=mI "law" 1 [VL "script",VC "draws",VL "place",VL "x",VC "keys",VL "costs",VC "hidden",VL "names",VL "said",VL "told",VL "texts",VC "lines",VC "one",VC "two",VL "both",VC "row",VL "order",VC "grown",VC "parted",VL "handed",VL "grow",VL "part",VL "low",VL "high",VC "page",VL "under",VC "sums",VL "due",VL "joined",VC "nest",VC "first",VC "behind"] tL (mK 0 26) ["enumerate","range","_law_functions","_law_dots","sum","sorted","TupleComp","_law_tree","_law_sort","_law_due","_law_nest","_law_looks","len"]
noncomputable def mU:List S:=[
 (.for (.tup [3,4]) (.x (.attr (.v 0))) [(.asg (.v 5) (.idx (.v 1) (.v 3))),(.asg (.v 6) (.idx (.v 2) (.v 3))),(.ite (.cmp .Lt (.v 5) (.v 6)) [(.ret (.neg (.v 4)))] []),(.ite (.cmp .Gt (.v 5) (.v 6)) [(.ret (.v 4))] [])]),
 (.ret (.k (.int 0)))]
noncomputable def nf:FD:=mI "compare" 3 [VL "self",VL "left",VL "right",VL "index",VL "direction",VL "l",VL "r"] mU (mK 1 1) []
noncomputable def aH:List FD:=[iN,jA,hH,jB,ez,eJ,gV,sl,sh,p5,kl,vk,sj,sn,sk,si,vm,jC,vl,iO,nf]
end
noncomputable def Is{c:Type}(b:c)(d:bo):c->bo->Prop:=λe a=>e=b/\a=d
section
variable{F:Fx}{g g':G}{ρ ρ':List Addr}{s s':Shared}{σ σ':bo}
structure bw(F:Fx)(g:G)(ρ:List Addr)(s:Shared)(g':G)(ρ':List Addr)(s':Shared):Prop where
 pre:ρ<+:ρ'
 nw:∀x∈ρ',x∈ρ\/s.heap.get? x=none
 st:St F.B (F.own++ρ) g g' s s'
theorem aC.iff{c d:Type}{R:G->List Addr->d->c->Prop}{Q:d->bo->Prop}{a:c}:aC F g ρ s R Q a s'↔∃g' ρ' b σ',bw F g ρ s g' ρ' s'/\aF F g' ρ' s' σ'/\R g' ρ' b a/\Q b σ':=
 ⟨λ⟨g',ρ',b,σ',p,n,t,I,r,q⟩=>⟨g',ρ',b,σ',⟨p,n,t⟩,I,r,q⟩,λ⟨g',ρ',b,σ',⟨p,n,t⟩,I,r,q⟩=>⟨g',ρ',b,σ',p,n,t,I,r,q⟩⟩
theorem bw.refl:bw F g ρ s g ρ s:=⟨List.prefix_refl _,λ_ h=>.inl h,St.refl s⟩
theorem bw.le(S:bw F g ρ s g' ρ' s'):∀b o,g b=some o->g' b=some o:=S.st.le
theorem bw.rv(S:bw F g ρ s g' ρ' s'){v:V}{a:Value}(r:Rv F.B g ρ v a):Rv F.B g' ρ' v a:=r.mono S.st.le S.pre
theorem bw.rvs(S:bw F g ρ s g' ρ' s'){v:List V}{a:List Value}(r:aM F.B g ρ v a):aM F.B g' ρ' v a:=r.mono S.st.le S.pre
section
variable{α β γ δ:Type}{R:G->List Addr->β->α->Prop}{Q:β->bo->Prop}{M:Model}{A:Around}{R':G->List Addr->δ->γ->Prop}{Q':δ->bo->Prop}{E:Value->Shared->Prop}
noncomputable def Cl{α:Type}(F:Fx)(D:G->List Addr->Shared->α->Shared->Prop):Prop:=∀g ρ s g' ρ' s',bw F g ρ s g' ρ' s'->(∃σ,aF F g' ρ' s' σ)->∀a s'',D g' ρ' s' a s''->D g ρ s a s''
theorem pH:Cl F λg ρ s=>aC F g ρ s R Q:=λ_ _ _ _ _ _ S _ _ _ h=>h.after S.pre S.nw S.st
theorem jZ{m:α->Sem γ}{D:α->G->List Addr->Shared->γ->Shared->Prop}(h:∀a,Cl F (D a)):Cl F λg ρ s a s'=>wpAny M A (m a) (D a g ρ s) E s':=
 λg ρ s g' ρ' s' S I a s'' hw=>wpAny_mono hw (λc b d=>h a g ρ s g' ρ' s' S I c b d) λ_ _ e=>e
theorem aC.elim{a:α}{b:β}{c:bo}{P:Prop}(h:aC F g ρ s R (Is b c) a s')(k:∀g' ρ',bw F g ρ s g' ρ' s'->aF F g' ρ' s' c->R g' ρ' b a->P):P:=by obtain⟨i,d,b,e,p,n,t,f,r,rfl,rfl⟩:=h;exact k _ _ ⟨p,n,t⟩ f r
theorem aC.toI{a:α}{b:β}{j:bo}(h:aC F g ρ s R (Is b j) a s'){e:G->List Addr->δ->γ->Prop}{f:δ->bo->Prop}{c:γ}(k:∀g' ρ',bw F g ρ s g' ρ' s'->aF F g' ρ' s' j->R g' ρ' b a->∃d,e g' ρ' d c/\f d j):aC F g ρ s e f c s':=by refine aG λl=>?_;obtain⟨m,i,b,q,p,n,t,o,r,rfl,rfl⟩:=h;refine aK (k m i ⟨p,n,t⟩ o r) λd u=>?_;obtain⟨r',v⟩:=u;exact l ⟨m,i,d,_,p,n,t,o,r',v⟩
theorem b7{m:Sem α}{b:β}{d:bo}{D:G->List Addr->Shared->α->Shared->Prop}(i:Cl F D)(h:wpAny M A m (aC F g ρ s R (Is b d)) E0 s)(j:∀g' ρ' s' a,bw F g ρ s g' ρ' s'->aF F g' ρ' s' d->R g' ρ' b a->D g' ρ' s' a s'):wpAny M A m (D g ρ s) E s:=
 wpAny_mono h (λa s' k=>k.elim λl c S f r=>i _ _ _ _ _ _ S ⟨_,f⟩ _ _ (j l c s' a S f r)) λ_ _ e=>e.elim
theorem aC.is{a:α}{b:β}(I:aF F g ρ s σ)(r:R g ρ b a):aC F g ρ s R (Is b σ) a s:=aC.now I r ⟨rfl,rfl⟩
end
theorem tM{st:List aA}{i:Nat}{c:aA}(h:aI st i=some c):i<st.length:=(List.getElem?_eq_some_iff.mp ((bn st i).symm.trans h)).1
theorem jY(st:List aA)(i:Nat)(c:aA):(aT st i c).length=st.length:=by rw[fV,List.length_set]
theorem nB{b:Type}{l:List b}(h:l.Nodup){i j:Nat}{a:b}(c:l[i]?=some a)(d:l[j]?=some a):i=j:=
 (List.getElem?_inj (List.getElem?_eq_some_iff.mp c).1 h).mp (c.trans d.symm)
theorem q1{b:Type}:∀{l:List b}{i:Nat}{a:b},l[i]?=some a->l.set i a=l
 |[],_,_,_=>rfl
 |x::l,0,a,h=>by simp only[List.getElem?_cons_zero,Option.some.injEq]at h;subst h;rfl
 |x::l,i+1,a,h=>by simp only[List.getElem?_cons_succ]at h;rw[List.set_cons_succ,q1 h]
theorem rP(I:aF F g ρ s σ){i:Nat}{a:Addr}{c:aA}(z:ρ[i]?=some a)(hc:aI σ.st i=some c):
  ∃g',bw F g ρ s g' ρ s/\aF F g' ρ s {σ with st:=aT σ.st i (.froz c.data)}/\Rd F.B.prog F.B.w g' (.ref a) c.data:=by
 have l:=I.st i a c z ((bn _ _).symm.trans hc);have key:∀o:Obj,g a=none->s.heap.get? a=some o->Rd F.B.prog F.B.w (g.put a o) (.ref a) c.data->
   ∃g',bw F g ρ s g' ρ s/\aF F g' ρ s {σ with st:=aT σ.st i (.froz c.data)}/\Rd F.B.prog F.B.w g' (.ref a) c.data:=by
  intro o p C K;have D:a∈ρ:=List.mem_of_getElem? z;have u:=G.put_le (g:=g) (o:=o) p;have st:St F.B (F.own++ρ) g (g.put a o) s s:=⟨u,λ_ _ _ e=>e,λb A e=>by
   by_cases k:b=a
   ·exact k▸(.inr (.inl (List.mem_append_right _ D)))
   ·rw[G.put_ne g o k]at e;exact .inl e,id,rfl,⟨Nat.le_refl _,λ_ _=>rfl⟩,id⟩
  have E:∀b,b≠a->g b=none->(g.put a o) b=none:=λb k e=>by rw[G.put_ne g o k];exact e
  refine⟨g.put a o,⟨List.prefix_refl _,λ_ h=>.inl h,st⟩,⟨⟨λb A e=>?_,λb A e=>u _ _ (I.so.base b A e),λb k=>E b (λq=>I.so.rno b k (q▸D)) (I.so.gno b k),I.so.rno,I.so.rhi,I.so.ohi,I.so.lown,I.so.lhi,
   λx w=>⟨(I.so.chi x w).1,(I.so.chi x w).2.1,E _ (λq=>(I.so.chi x w).2.2.2 (q▸D)) (I.so.chi x w).2.2.1,(I.so.chi x w).2.2.2⟩,I.so.cap,I.so.rn,I.so.olt,I.so.rlt,I.so.clt⟩,
   I.old,I.bare,I.tab,⟨I.fr.len,?_,?_⟩,by rw[jY];exact I.stl,λj b c' k f=>?_⟩,K⟩
  ·by_cases k:b=a
   ·subst k;rw[G.put_self]at e;exact(Option.some.inj e)▸(C)
   ·rw[G.put_ne g o k]at e;exact I.so.sub b A e
  ·refine aK (I.fr.loc) λm B=>?_;have L:=B.2;exact⟨m,(B.1),λi x b v H y=>(L i x b v H y).mono u (List.prefix_refl _)⟩
  ·intro i x b v H y;exact aG λr=>bd (I.fr.cel i x b v H y) λc M B=>ko B λe1 N O P=>r (j7 c M ⟨e1,N,O.mono u (List.prefix_refl _),P⟩)
  ·dsimp only at f
   rw[fV]at f;by_cases t:i=j
   ·subst t;have e:=Option.some.inj (z.symm.trans k);subst e;replace f:=Eq.trans (Eq.symm (List.getElem?_set_self (tM hc))) f;exact(Option.some.inj f)▸(K)
   ·replace f:=Eq.trans (Eq.symm (List.getElem?_set_ne t)) f;exact(I.st j b c' k f).mono u (E b ((λq=>by subst q;exact t (nB I.so.rn z k):b≠a))) λ_ e=>e
 induction c using aA.casesOn with
 |list vs=>obtain⟨p,xs,n,y,J⟩:=l;exact key _ p y (.list (G.put_self ..) (J.mono (G.put_le p)))
 |dict ks ds=>refine aG λr=>?_;obtain⟨p,hs,vs,Q,R,J⟩:=l;obtain⟨o,C,S⟩:=Heap.dictOf_iff.mp R;exact r (key o p C (.dict (G.put_self ..) S Q hs (J.mono (G.put_le p))))
 |froz d=>
  have e:aT σ.st i (.froz d)=σ.st:=by rw[fV];exact q1 ((bn _ _).symm.trans hc)
  refine⟨g,bw.refl,?_,l⟩;show aF F g ρ s {σ with st:=aT σ.st i (.froz d)};exact aB e I
end
section
variable{F:Fx}{g g':G}{ρ ρ':List Addr}{s s':Shared}{σ σ':bo}
theorem bw.trans{c:G}{a:List Addr}{s₂:Shared}(x:bw F g ρ s g' ρ' s')(I:aF F g' ρ' s' σ')(y:bw F g' ρ' s' c a s₂)(d:∃σ,aF F c a s₂ σ):bw F g ρ s c a s₂:=by
 refine aK d λi d=>⟨x.pre.trans y.pre,λz f=>?_,?_⟩
 ·rcases y.nw z f with h|h
  ·exact x.nw z h
  ·by_cases hw:z∈F.own++ρ
   ·rcases List.mem_append.mp hw with e|e
    ·exact((d.so.rno z e) f).elim
    ·exact .inl e
   ·cases q:s.heap.get? z with
    |none=>exact .inr rfl
    |some o=>rw[x.st.kept z o hw q]at h;exact iu h
 ·refine x.st.trans y.st λb j=>?_;rcases List.mem_append.mp j with h|h
  ·exact .inl (List.mem_append_left _ h)
  ·rcases x.nw b h with h|h
   ·exact .inl (List.mem_append_right _ h)
   ·exact .inr h
noncomputable def Gb(F:Fx)(ρ:List Addr)(s:Shared)(v:V):Prop:=∀(g:G)(σ:bo)(b:Value)(d:PyData)(a:List aA),aF F g ρ s σ->Rv F.B g ρ v b->fz v σ.st=some (d,a)->∃g',bw F g ρ s g' ρ s/\aF F g' ρ s {σ with st:=a}/\Rd F.B.prog F.B.w g' b d
noncomputable def FL(F:Fx)(ρ:List Addr)(s:Shared)(vs:List V):Prop:=∀(g:G)(σ:bo)(a:List Value)(ds:List PyData)(b:List aA),aF F g ρ s σ->aM F.B g ρ vs a->vr vs σ.st=some (ds,b)->∃g',bw F g ρ s g' ρ s/\aF F g' ρ s {σ with st:=b}/\aD F.B.prog F.B.w g' a ds
theorem zY:FL F ρ s []:=λg σ c ds d I r h=>by refine cx (Prod.mk.inj (Option.some.inj h)) λa b=>?_;obtain rfl:=a;obtain rfl:=b;exact r.eNil ⟨g,bw.refl,I,.nil⟩
theorem xr{v:V}{vs:List V}(k:Gb F ρ s v)(hs:FL F ρ s vs):FL F ρ s (v::vs):=λg σ a ds d I r h=>by
 change(match fz v σ.st with|some r=>(match vr vs r.2 with|some q=>some (r.1::q.1,q.2)|none=>none)|none=>none)=some (ds,d)at h;cases e:fz v σ.st with
 |none=>rw[e]at h;exact aN h
 |some p=>
  replace h:=e▸h
  dsimp only at h
  cases f:vr vs p.2 with
  |none=>rw[f]at h;exact aN h
  |some q=>replace h:=f▸h;refine cx (Prod.mk.inj (Option.some.inj h)) λi j=>?_;obtain rfl:=i;obtain rfl:=j;exact r.eCons λl a r m=>(k g σ l _ _ I r e).elim λn b=>(hs n {σ with st:=p.2} a _ _ b.2.1 (b.1.rvs m) f).elim λo c=>⟨o,b.1.trans b.2.1 c.1 ⟨_,c.2.1⟩,c.2.1,.cons (b.2.2.mono c.1.st.le) c.2.2⟩
theorem zZ(v:V):Gb F ρ s v:=
 V.rec (motive_1:=Gb F ρ s) (motive_2:=FL F ρ s)
  (λx g σ k d a I r h=>by
   obtain⟨rfl,rfl⟩:=Prod.mk.inj (Option.some.inj h);exact⟨g,bw.refl,I,r.eD λr=>r⟩)
  (λi g σ k d a I r h=>by
   change(match aI σ.st i with|some c=>some (c.data,aT σ.st i (.froz c.data))|none=>none)=some (d,a)at h;cases hc:aI σ.st i with
   |none=>rw[hc]at h;exact aN h
   |some c=>
    replace h:=hc▸h;refine cx (Prod.mk.inj (Option.some.inj h)) λb e=>?_;obtain rfl:=b;obtain rfl:=e;exact r.eRef λ_ l=>rP I l hc)
  (λvs m g σ k d a I r h=>by
   change(match vr vs σ.st with|some r=>some (.tuple r.1,r.2)|none=>none)=some (d,a)at h;cases f:vr vs σ.st with
   |none=>rw[f]at h;exact aN h
   |some q=>
    rw[f]at h;refine cx (Prod.mk.inj (Option.some.inj h)) λb e=>?_;obtain rfl:=b;obtain rfl:=e;refine aG λj=>?_;cases r with
    |tup n o=>refine j ?_;exact(m g σ _ _ _ I o f).elim λg' H=>⟨g',H.1,H.2.1,.tuple (H.1.st.le _ _ n) H.2.2⟩)
  (λ_ _ _ _ _ _ _ _ _ h=>aN h)
  (λ_ _ _ _ _ _ _ h=>aN h)
  zY (λ_ _ p hs=>xr p hs) v
theorem b5(v:V){g:G}{σ:bo}{b:Value}{d:PyData}{a:List aA}(I:aF F g ρ s σ)(r:Rv F.B g ρ v b)(h:fz v σ.st=some (d,a)):
  ∃g',bw F g ρ s g' ρ s/\aF F g' ρ s {σ with st:=a}/\Rd F.B.prog F.B.w g' b d:=zZ v g σ b d a I r h
theorem el{vs:List V}{a:List Value}(r:aM F.B g ρ vs a):∀{ds:List PyData},gM vs=some ds->aD F.B.prog F.B.w g a ds:=by
 induction r using aM.ind with
 |nil=>exact λh=>Option.some.inj h▸.nil
 |@cons x v xs vs r c b=>
  intro ds h;induction r using Rv.casesOn with
  |d r=>exact bM h λds h e=>e▸.cons r (b h)
  |_=>exact aN h
theorem qB{vs:List V}{b:Array Value}{a:Addr}{n:Nat}(c:g a=some {cls:=.type "tuple",data:=.seq b n})(r:aM F.B g ρ vs b.toList):Rv F.B g ρ (lX vs) (.ref a):=by
 unfold lX;cases h:gM vs with
 |none=>exact .tup c r
 |some ds=>exact .d (.tuple c (el r h))
theorem zj.weak{h:Heap}{env env':List V}(d:zj F g ρ h env)(hl:env'.length=env.length)(hw:∀i:Nat,env'[i]?=some .unb\/env'[i]?=env[i]?):zj F g ρ h env':=by
 refine⟨hl.trans d.len,?_,?_⟩
 ·obtain⟨m,k,l⟩:=d.loc;refine⟨m,k,λi x b v f a=>?_⟩;refine Or.elim (hw i) (λe=>?_) λe=>?_
  ·replace a:=e▸a;obtain rfl:=Option.some.inj a;trivial
  ·exact l i x b v f (e▸a)
 ·intro i x b v f a;have j:i<env.length:=by rw[<-hl];exact(List.getElem?_eq_some_iff.mp a).1
  refine bd (d.cel i x b _ f (List.getElem?_eq_getElem j)) λc n o=>?_;refine ko o λe1 p q r=>j7 c n ⟨e1,p,?_,r⟩;refine Or.elim (hw i) (λe=>?_) λe=>?_
  ·rw[e]at a;obtain rfl:=Option.some.inj a;trivial
  ·rw[e,List.getElem?_eq_getElem j]at a;exact(Option.some.inj a)▸(q)
theorem aF.weak(I:aF F g ρ s σ){env':List V}(hl:env'.length=σ.env.length)(hw:∀i:Nat,env'[i]?=some .unb\/env'[i]?=σ.env[i]?):aF F g ρ s ⟨env',σ.st⟩:=
 ⟨I.so,I.old,I.bare,I.tab,I.fr.weak hl hw,I.stl,I.st⟩
theorem aF.reframe{F':Fx}(I:aF F g ρ s σ)(y:F'.B=F.B)(n:∀b∈F'.own,s.heap.get? b=none\/b=F.B.P0)(S:bw F' g ρ s g' ρ' s')(a:aF F' g' ρ' s' σ'):aF F g' ρ' s' ⟨σ.env,σ'.st⟩:=by
 obtain⟨B,O,env',r⟩:=F'
 dsimp only at y
 subst y;have C:∀b∈r,b≠F.B.P0->s.heap.get? b=none:=λb d h=>(n b d).resolve_right h;have z:∀b,s.heap.get? b≠none->b∉ρ->b∉ρ':=λb f j l=>by
  rcases S.nw b l with h|h
  ·exact j h
  ·exact f h
 have A:∀b,s.heap.get? b≠none->b∉ρ->g b=none->g' b=none:=λb f j l=>by
  cases q:g' b with
  |none=>rfl
  |some o=>
   rcases S.st.newg b o q with h|h|h
   ·rw[l]at h;exact aN h
   ·rcases List.mem_append.mp h with h|h
    ·rw[a.so.gno b h]at q;exact aN q
    ·exact(j h).elim
   ·exact(f h).elim
 refine aG λp=>?_;have kp:∀b o,b≠F.B.P0->b∉ρ->s.heap.get? b=some o->s'.heap.get? b=some o:=λb o f j l=>S.st.kept b o (λu=>by
  rcases List.mem_append.mp u with h|h
  ·rw[C b h f]at l;exact aN l
  ·exact j h) l
 have w:∀b,F.B.h₀.get? b=none->b≠F.B.P0:=λb h q=>F.B.hP0 (q▸h);have lv:∀b,b≠F.B.P0->b∉ρ->s.heap.get? b≠none->s'.heap.get? b≠none:=λb f j l=>by
  cases q:s.heap.get? b with
  |none=>exact absurd q l
  |some o=>rw[kp b o f j q];exact λq=>nomatch q
 refine aK (a.tab) λmore t=>?_;obtain⟨u,_⟩:=t;refine p ?_;refine⟨⟨a.so.sub,a.so.base,λb d=>A b (I.so.olt b d) (I.so.rno b d) (I.so.gno b d),λb d=>z b (I.so.olt b d) (I.so.rno b d),a.so.rhi,I.so.ohi,I.so.lown,I.so.lhi,
  λx k=>⟨(I.so.chi x k).1,(I.so.chi x k).2.1,A _ (I.so.clt x k) (I.so.chi x k).2.2.2 (I.so.chi x k).2.2.1,z _ (I.so.clt x k) (I.so.chi x k).2.2.2⟩,I.so.cap,a.so.rn,λb d=>?_,a.so.rlt,λx k=>lv _ (w _ (I.so.chi x k).1) (I.so.chi x k).2.2.2 (I.so.clt x k)⟩,
  a.old,a.bare,a.tab,⟨I.fr.len,?_,?_⟩,a.stl,a.st⟩
 ·by_cases h:b=F.B.P0
  ·subst h;rw[u];exact λq=>(iu q)
  ·exact lv b h (I.so.rno b d) (I.so.olt b d)
 ·obtain⟨m,D,E⟩:=I.fr.loc;exact⟨m,dF D λo e=>kp _ o (w _ I.so.lhi) (I.so.rno _ I.so.lown) e,λi x b v f j=>(E i x b v f j).mono S.st.le S.pre⟩
 ·intro i x b v f j;refine aG λp=>bd (I.fr.cel i x b v f j) λc H t=>ko t λe1 J K L=>aK J λo t=>?_;obtain⟨M,N⟩:=t;have hc:=mem_of_lookup e1;exact p (j7 c H ⟨e1,⟨o,kp _ o (w _ (I.so.chi _ hc).1) (I.so.chi _ hc).2.2.2 M,N⟩,K.mono S.st.le S.pre,L⟩)
theorem bw.reframe{F':Fx}(c:F'.B=F.B)(d:F.B.P0∈F.own)(a:∀b∈F'.own,s.heap.get? b=none\/b=F.B.P0)(S:bw F' g ρ s g' ρ' s'):bw F g ρ s g' ρ' s':=by
 obtain⟨B,k,env',f⟩:=F'
 dsimp only at c
 subst c;refine⟨S.pre,S.nw,⟨S.st.le,λb o i e=>S.st.kept b o (λj=>?_) e,λb o e=>?_,S.st.old,S.st.os,S.st.gens,S.st.bare⟩⟩
 ·rcases List.mem_append.mp j with h|h
  ·rcases a b h with h|h
   ·replace e:=Eq.trans (Eq.symm h) e;exact aN e
   ·exact i (h▸List.mem_append_left _ d)
  ·exact i (List.mem_append_right _ h)
 ·rcases S.st.newg b o e with h|h|h
  ·exact .inl h
  ·rcases List.mem_append.mp h with h|h
   ·rcases a b h with h|h
    ·exact .inr (.inr h)
    ·exact .inr (.inl (h▸List.mem_append_left _ d))
   ·exact .inr (.inl (List.mem_append_right _ h))
  ·exact .inr (.inr h)
theorem aF.frame{F':Fx}{env':List V}(I:aF F g ρ s σ)(v:F'.B=F.B)(w:F.B.P0∈F.own)(a:∀b∈F'.own,s.heap.get? b=none\/b=F.B.P0)(st:St F.B [] g g s s')(f:F'.env.locals∈F'.own)(i:s.heap.get? F'.env.locals=none)(j:∀b∈F'.own,s'.heap.get? b≠none)(k:∀x∈F'.env.cells,(x.2∈F'.own/\s.heap.get? x.2=none/\x.2≠F'.env.locals)\/∃y∈F.env.cells,y.2=x.2)(r:F'.env.cells.Pairwise λx y=>x.2≠y.2)(H:zj F' g ρ s'.heap env'):aF F' g ρ s' ⟨env',σ.st⟩:=by
 obtain⟨B,K,n,z⟩:=F'
 dsimp only at v
 subst v;have c:aF F g ρ s' σ:=I.grow st λb o e=>st.kept b o (λh=>nomatch h) (I.so.sub b o e);have t:∀b,s.heap.get? b=none->F.B.h₀.get? b=none:=λb h=>by
  cases q:F.B.h₀.get? b with
  |none=>rfl
  |some o=>obtain⟨L,l⟩:=I.old.there b o q;rw[h]at l;exact aN l
 have A:∀b,s.heap.get? b=none->g b=none:=λb h=>by
  cases q:g b with
  |none=>rfl
  |some o=>rw[I.so.sub b o q]at h;exact iu h
 have C:∀b,s.heap.get? b=none->b∉ρ:=λb h J=>I.so.rlt b J h;refine⟨⟨c.so.sub,c.so.base,λb m=>?_,λb m=>?_,c.so.rhi,λb m=>?_,f,t _ i,λx u=>?_,r,c.so.rn,j,c.so.rlt,λx u=>?_⟩,c.old,c.bare,c.tab,H,c.stl,c.st⟩
 ·rcases a b m with h|h
  ·exact A b h
  ·subst h;exact I.so.gno _ w
 ·rcases a b m with h|h
  ·exact C b h
  ·subst h;exact I.so.rno _ w
 ·rcases a b m with h|h
  ·exact .inr (t b h)
  ·exact .inl h
 ·rcases k x u with⟨D,p,E⟩|⟨y,d,e⟩
  ·exact⟨t _ p,E,A _ p,C _ p⟩
  ·refine aB (Eq.symm (e)) ⟨(I.so.chi y d).1,λq=>I.so.clt y d (q▸i),(I.so.chi y d).2.2.1,(I.so.chi y d).2.2.2⟩
 ·rcases k x u with⟨D,p,E⟩|⟨y,d,e⟩
  ·exact j _ D
  ·exact aB (Eq.symm (e)) (c.so.clt y d)
end
theorem aD.getV{prog:Program}{w:World}{g:G}{vs:List Value}{ds:List PyData}(r:aD prog w g vs ds){i:Nat}{d:PyData}(h:ds[i]?=some d):∃v,vs[i]?=some v/\Rd prog w g v d:=r.get h
section
variable{F:Fx}{g g':G}{ρ ρ':List Addr}{s s':Shared}{σ σ':bo}{A:Around}{n:Nat}
inductive Hb(prog:Program)(w:World)(g:G):Value->List (PyData×PyData)->Prop
 |mk (a:Addr) (o:Obj) (ks:List Str) (vs:List Value) (ds:List PyData) (hg:g a=some o) (ho:o.IsDictOf (strKind prog w) (List.zip ks vs)) (hl:ks.length=vs.length) (hs:(a==sysModules)=false) (rs:aD prog w g vs ds):Hb prog w g (.ref a) ((ks.map PyData.str).zip ds)
theorem Rd.dictOf{prog:Program}{w:World}{g:G}{v:Value}{kvs:List (PyData×PyData)}(r:Rd prog w g v (.dict kvs)):Hb prog w g v kvs:=by
 cases r with
 |dict a b c d e=>exact⟨_,_,_,_,_,a,b,c,d,e⟩
theorem gm{v:V}{c:Value}{b:Bool}(I:aF F g ρ s σ)(r:Rv F.B g ρ v c)(h:aZ v=some b):
  wpAny (model F.B.prog F.B.w) A (truthy c) (aC F g ρ s (λ_ _ e a=>a=e) (Is b σ)) E0 s:=by
 induction r using Rv.casesOn with
 |d r=>
  induction r using Rd.casesOn with
  |bool b=>obtain rfl:=Option.some.inj h;exact wpAny_truthy_bool (aC.is I rfl)
  |str x t=>refine bC h λf h=>?_;obtain rfl:=Option.some.inj h;exact P.truthy_str (by have:sizeLine=2^24:=rfl;lia) (aC.by (St.toks s _) (I.toks _) rfl ⟨rfl,rfl⟩)
  |_=>exact aN h
 |_=>exact aN h
theorem yP(e:Expr)(o i:Value):∃f,subscripted e false o i=operate f (getItem o i):=by
 induction e using Expr.casesOn with
 |Slice a b c d=>induction c using Option.casesOn<;>exact⟨_,rfl⟩
 |_=>exact⟨_,rfl⟩
theorem uG{M:Model}{b a:Expr}{o i:Value}{prog:Program}{w:World}{Q:Value->Shared->Prop}{E:Value->Shared->Prop}(d:∃T id,s.TypeIs o T/\typeLookup (.type T) "__getitem__"=pure (some (.builtin id)))(h:wpAny (model prog w) A (getItem o i) Q E s):wpAny (model prog w) A (subscriptTail b a o i) Q E s:=by refine bd d λT id c=>?_;have e:=c.1;have hl:=c.2;exact aK (yP a o i) λf hs=>tail_any e hl h hs
theorem jJ{a:Type}{xs:List a}{i:Int}{x:a}(h:bV xs i=some x):-4611686018427387904<=i/\i<4611686018427387904/\∃k,seqIndex? i xs.length=some k/\xs[k]?=some x:=by
 induction i using Int.casesOn with
 |ofNat k=>
  change(if k<=1000000 then xs[k]?else none)=some x at h;split at h
  ·have b:=(List.getElem?_eq_some_iff.mp h).1;exact⟨by simp only[Int.ofNat_eq_natCast];lia,by simp only[Int.ofNat_eq_natCast];lia,k,StrLaws.seqIndex_nonneg (by simp only[Int.ofNat_eq_natCast];lia) (by simp only[Int.ofNat_eq_natCast];lia),h⟩
  ·exact aN h
 |negSucc k=>
  induction k using Nat.casesOn with
  |zero=>have b:=(List.getElem?_eq_some_iff.mp h).1;refine⟨by decide,by decide,xs.length -1,?_,h⟩;have e:=StrLaws.seqIndex_neg (i:=-1) (n:=xs.length) (by lia) (by lia);rw[show((-1:Int)+(xs.length:Nat)).toNat=xs.length -1 by lia]at e;exact e
  |succ k=>exact aN h
theorem A3{k a j:Nat}(h:seqIndex? (Int.ofNat k) a=some j):j=k:=by
 unfold seqIndex? at h;have e:¬(Int.ofNat k<0):=by simp
 simp only[e,if_false]at h;split at h
 ·exact(Option.some.inj h).symm
 ·exact aN h
theorem mH{prog:Program}{w:World}{E:Value->Shared->Prop}{l:Addr}{items:Array Value}{m:Nat}{i:Int}{t:Tok}{k:Nat}{x:Value}{Q:Value->Shared->Prop}(hl:IsL s.heap l items m)(d:-4611686018427387904<=i)(f:i<4611686018427387904)(b:seqIndex? i items.size=some k)(c:items[k]?=some x)(h:Q x s):wpAny (model prog w) A (getItem (.ref l) (.int i t)) Q E s:=by
 have a:Builtin.List.listFitsIndex i=true:=by unfold Builtin.List.listFitsIndex;simp;lia
 unfold getItem
 try with_reducible refine wpAny_holding ?_
 first|refine wpAny_bind (wpAny_pure ?_)|skip
 refine wpAny_bind (wpAny_sequenceKey hl.isList.typeIs rfl ?_);refine wpAny_bind (wpAny_callSpecial?_slot (name:=Str.ofString "__getitem__") hl.isList.typeIs PySem.slot_list_getitem
  (wpAny_call_entry PySem.slot_list_getitem hl.isList.typeIs PySem.entry_list_getitem ?_ (PySem.args_list_getitem _ _)))
 show wpAny _ _ (Builtin.List.listSubscript? (.int i t)>>=_) _ _ s;refine wpAny_bind (wpAny_listSubscript_int a ?_);clear a d f;induction i using Int.casesOn with
 |ofNat j=>
  have e:=A3 b;subst e;refine wpAny_bind (wpAny_bind (wpAny_seqItemAt hl rfl (wpAny_pure ?_)));refine aB c ?_;first
   |exact wpAny_bind (wpAny_pure (wpAny_pure ⟨x,rfl,wpAny_pure h⟩))
   |exact wpAny_pure ⟨x,rfl,wpAny_pure h⟩
 |negSucc j=>
  refine wpAny_bind (wpAny_bind ?_);refine wpAny_bind (wpAny_seqItems hl rfl (wpAny_pure (wpAny_pure ?_)));simp only[b,Option.bind_some,c,Option.map_some];first
   |exact wpAny_bind (wpAny_pure (wpAny_pure ⟨x,rfl,wpAny_pure h⟩))
   |exact wpAny_pure ⟨x,rfl,wpAny_pure h⟩
theorem eb{prog:Program}{w:World}{g:G}(ks:List Str):∀(vs:List Value)(ds:List PyData),ks.length=vs.length->aD prog w g vs ds->∀k d,cQ ks ds k=some d->∃v,valueAt (ks.zip vs) k=some v/\Rd prog w g v d:=by
 induction ks with
 |nil=>exact λ_ _ _ _ _ _ h=>aN h
 |cons a ks b=>
  intro vs ds hl r k d h;induction r using aD.casesOn with
  |nil=>exact nomatch hl
  |@cons v c vs ds r f=>
   change(if a=k then some c else cQ ks ds k)=some d at h;unfold valueAt;simp only[List.zip_cons_cons,List.find?_cons];by_cases e:a=k
   ·rw[if_pos e]at h;simp only[e,decide_true];exact⟨v,rfl,Option.some.inj h▸r⟩
   ·rw[if_neg e]at h;simp only[e,decide_false];exact b vs ds (Nat.succ.inj hl) f k d h
theorem jm(ks:List Str):∀(vs:List Value)(ds:List PyData),ks.length=vs.length->vs.length=ds.length->∀k,cQ ks ds k=none->valueAt (ks.zip vs) k=none:=by
 induction ks with
 |nil=>exact λ_ _ _ _ _ _=>rfl
 |cons b ks c=>
  intro vs ds hl a k h;induction vs using List.casesOn with
  |nil=>exact nomatch hl
  |cons v vs=>
   induction ds using List.casesOn with
   |nil=>exact nomatch a
   |cons d ds=>
    change(if b=k then some d else cQ ks ds k)=none at h;unfold valueAt;simp only[List.zip_cons_cons,List.find?_cons];by_cases e:b=k
    ·rw[if_pos e]at h;exact iu h
    ·rw[if_neg e]at h;simp only[e,decide_false];exact c vs ds (Nat.succ.inj hl) (Nat.succ.inj a) k h
theorem ib(ks:List Str):∀(ds:List PyData)(k:Str),dN ((ks.map PyData.str).zip ds) k=cQ ks ds k:=by
 induction ks with
 |nil=>exact λ_ _=>rfl
 |cons a ks b=>
  intro ds k;induction ds using List.casesOn with
  |nil=>rfl
  |cons d ds=>show(if a=k then some d else dN ((ks.map PyData.str).zip ds) k)=(if a=k then some d else cQ ks ds k);exact aB (b ds k) rfl
theorem qi{l:Addr}{items:Array Value}{m:Nat}(h:IsL s.heap l items m):∃T id,s.TypeIs (.ref l) T/\typeLookup (.type T) "__getitem__"=pure (some (.builtin id)):=⟨_,_,⟨_,h,rfl⟩,PySem.slot_list_getitem.lookup⟩
theorem jI{l:Addr}{items:Array Value}{m:Nat}(h:IsT s.heap l items m):∃T id,s.TypeIs (.ref l) T/\typeLookup (.type T) "__getitem__"=pure (some (.builtin id)):=⟨_,_,⟨_,h,rfl⟩,F.slot_tuple_getitem.lookup⟩
theorem ud{x:Str}{t:Tok}:∃T id,s.TypeIs (.str x t) T/\typeLookup (.type T) "__getitem__"=pure (some (.builtin id)):=⟨_,_,typeIs_str s x t,F.slot_str_getitem.lookup⟩
theorem xF{K:Type}[DecidableEq K]{prog:Program}{w:World}{knd:KeyKind prog w K}{d:Addr}{kvs:List (K×Value)}(h:s.heap.DictOf knd d kvs):∃T id,s.TypeIs (.ref d) T/\typeLookup (.type T) "__getitem__"=pure (some (.builtin id)):=
 ⟨_,_,h.mapOf.typeIs,PySem.slot_dict_getitem.lookup⟩
theorem jO{prog:Program}{w:World}{g:G}{v:Value}{x:Str}(r:Rd prog w g v (.str x)):(strKind prog w).is x v=true:=by exact r.eStr λt=>by exact strKind_is _ _ _ _
noncomputable def wx(s:Shared)(a:Value):Prop:=∃T id,s.TypeIs a T/\typeLookup (.type T) "__getitem__"=pure (some (.builtin id))
theorem qk{a:Addr}{c:Array Value}{m:Nat}{xs:List PyData}{i:Int}{t:Tok}{v:V}(I:aF F g ρ s σ)(f:IsL s.heap a c m)(j:aD F.B.prog F.B.w g c.toList xs)(h:(bV xs i).map V.d=some v):
  wx s (.ref a)/\wpAny (model F.B.prog F.B.w) A (getItem (.ref a) (.int i t)) (aC F g ρ s (Rv F.B) (Is v σ)) E0 s:=bM h λd l h=>by
 subst h;refine aG λe=>eY (jJ l) λo p q=>?_;obtain⟨k,r,u⟩:=q;obtain⟨x,b,w⟩:=j.getV u;have hl:=j.length;simp only[Array.length_toList]at hl;refine e ?_;replace b:=Eq.trans (Eq.symm (Array.getElem?_toList)) b;exact⟨qi f,mH f o p (by rw[hl];exact r) b (aC.is I (.d w))⟩
theorem qj{a:Addr}{ks:List Str}{vs:List Value}{ds:List PyData}{k:Str}{t:Tok}{v:V}(I:aF F g ρ s σ)(b:s.heap.DictOf (strKind F.B.prog F.B.w) a (ks.zip vs))(hl:ks.length=vs.length)(c:aD F.B.prog F.B.w g vs ds)(h:(cQ ks ds k).map V.d=some v):
  wx s (.ref a)/\wpAny (model F.B.prog F.B.w) A (getItem (.ref a) (.str k t)) (aC F g ρ s (Rv F.B) (Is v σ)) E0 s:=bM h λd e h=>by
 subst h;obtain⟨x,f,i⟩:=eb ks vs ds hl c k d e;exact⟨xF b,wpAny_getItem_of (jO (Rd.str (g:=g) k t)) b.mapOf f (dm I (.d i) ⟨rfl,rfl⟩ _)⟩
theorem nk{a i v:V}{r B:Value}(I:aF F g ρ s σ)(w:Rv F.B g ρ a r)(j:Rv F.B g ρ i B)(h:cW σ.st a i=some v):
  wx s r/\wpAny (model F.B.prog F.B.w) A (getItem r B) (aC F g ρ s (Rv F.B) (Is v σ)) E0 s:=by
 induction w using Rv.casesOn with
 |ref C=>
  induction j using Rv.casesOn with
  |d j=>
   induction j using Rd.casesOn with
   |int i t=>refine mL h λxs hc h=>aG λb=>?_;obtain⟨D,E,m,o,f⟩:=I.st _ _ _ C ((bn _ _).symm.trans hc);exact b (qk I o f h)
   |str k t=>refine mD h λks ds hc h=>?_;obtain⟨D,hs,vs,hl,H,f⟩:=I.st _ _ _ C ((bn _ _).symm.trans hc);exact qj I H hl f h
   |_=>exact aN h
  |_=>exact aN h
 |d w=>
  induction w using Rd.casesOn with
  |list e f=>refine bI j h λi t h=>?_;exact qk I (I.so.sub _ _ e) f h
  |tuple e f=>refine bI j h λi t h=>bM h λd y h=>?_;subst h;refine aG λb=>eY (jJ y) λJ K z=>?_;obtain⟨k,p,q⟩:=z;obtain⟨x,l,L⟩:=f.getV q;have o:=I.so.sub _ _ e;have hl:=f.length;simp only[Array.length_toList]at hl;refine b ?_;replace l:=Eq.trans (Eq.symm (Array.getElem?_toList)) l;exact⟨jI o,P.getItem_tuple o (by lia) (by lia) (by rw[hl];exact p) l (aC.is I (.d L))⟩
  |str x u=>
   refine bI j h λi t h=>bM h λd y h=>?_;subst h;refine aG λb=>eY (jJ y) λJ K z=>?_;obtain⟨k,p,q⟩:=z;refine b ⟨ud,P.getItem_str (c:=d) ?_ ?_ (dm I (.d (.str _ _)) ⟨rfl,rfl⟩ _)⟩
   ·refine aB (decide_eq_false (by lia)) (aB (decide_eq_false (by lia)) ?_);rfl
   ·simp only[Array.length_toList]at p;show(seqIndex? _ (Str.length _)).bind _=_;refine aB p ?_;rw[Option.bind_some];rw[Array.getElem?_toList]at q;exact q
  |dict e1 M N Q O=>refine bS j h λk t h=>?_;rw[ib]at h;exact qj I (Heap.dictOf_iff.mpr ⟨_,I.so.sub _ _ e1,M⟩) N O h
  |_=>exact aN h
 |_=>exact aN h
end
section
variable{prog:Program}{w:World}{A:Around}{E:Value->Shared->Prop}{s:Shared}
theorem pu(b n:Nat)(d:b<=n):Builtin.Slice.sliceAdjust none (some (b:Int)) 1 (n:Int)=(0,(b:Int)):=by
 unfold Builtin.Slice.sliceAdjust;have a:¬((1:Int)<0):=by lia
 have c:¬((b:Int)<0):=by lia
 simp only[a,c,if_false]
 congr 1
 lia
theorem qS(b:Nat):Builtin.Slice.slicePlaces 0 (b:Int) 1=b:=by
 unfold Builtin.Slice.slicePlaces;have a:(1:Int)>0:=by lia
 simp only[a,if_true,Int.ediv_one];split<;>lia
theorem jf{e:Addr}{b n:Nat}{u:Tok}{Q:Int×Int×Nat->Shared->Prop}(hs:s.heap.IsSliceOf e .none (.int b u) .none)(f:b<=n)(h:Q (0,1,b) s):
  wpAny (model prog w) A (Builtin.Slice.sliceApplied (.ref e) (pure (n:Int))) Q E s:=by
 refine aG λd=>aK (id hs) λj g=>?_;obtain⟨a,i,c⟩:=g;refine d (wpAny_bind (wpAny_bind (wpAny_field a c (x:=.none) rfl (wpAny_bind (wpAny_field a c (x:=.int b u) rfl (wpAny_bind (wpAny_field a c (x:=.none) rfl (wpAny_pure ?_))))))));refine wpAny_bind (slicePart_none ?_);refine aB (if_neg (by decide)) (wpAny_bind (slicePart_none (wpAny_bind (slicePart_int (wpAny_bind (wpAny_pure ?_))))));refine aB (pu b n f) ?_;show wpAny _ _ (pure ((0:Int),(1:Int),Builtin.Slice.slicePlaces 0 (b:Int) 1)) _ _ s;exact aB (qS b) (wpAny_pure h)
theorem vW(xs:Array Value)(b:Nat):((List.range b).filterMap λ(k:Nat)=>xs[((0:Int)+(k:Int)*1).toNat]?).toArray=(xs.toList.take b).toArray:=by
 have e:(λ(k:Nat)=>xs[((0:Int)+(k:Int)*1).toNat]?)=λk=>xs[0+k]?:=by
  funext k
  have:((0:Int)+(k:Int)*1).toNat=0+k:=by lia
  exact aB this rfl
 refine aB e ?_;have:=pick_run xs 0 b;rw[List.filterMap_map]at this;have a:((λx=>xs[x]?)∘λx=>0+x)=λk=>xs[0+k]?:=rfl;rw[a]at this;exact aB this (aB (List.drop_zero) rfl)
theorem ii{t d:Addr}{items:Array Value}{b:Nat}{u:Tok}{Q:Value->Shared->Prop}(c:IsTup s.heap t items)(hs:s.heap.IsSliceOf d .none (.int b u) .none)(k:b<items.size)(h:Q (.ref s.heap.objs.size) {s with heap:=s.heap.push {cls:=.type "tuple",data:=.seq (items.toList.take b).toArray}})(hsz:items.size<=sizeLine):wpAny (model prog w) A (getItem (.ref t) (.ref d)) Q E s:=by
 have a:sizeOk (.seq (items.toList.take b).toArray):=by show(items.toList.take b).toArray.size<=sizeLine;refine aB (List.size_toArray) (aB (List.length_take) ?_);refine aB (Array.length_toList) ?_;lia
 refine aG λe=>aK (id hs) λl n=>?_;obtain⟨f,g,o⟩:=n;have i:s.TypeIs (.ref d) "slice":=⟨l,f,g⟩;refine e ?_;unfold getItem
 try with_reducible refine wpAny_holding ?_
 first|refine wpAny_bind (wpAny_pure ?_)|skip
 refine wpAny_bind (wpAny_sequenceKey c.typeIs rfl ?_);refine wpAny_bind (wpAny_callSpecial?_slot (name:=Str.ofString "__getitem__") c.typeIs slot_tuple_getitem
  (wpAny_call_entry slot_tuple_getitem c.typeIs entry_tuple_getitem ?_ (args_tuple_getitem _ _)))
 show wpAny _ _ (Builtin.Tuple.tupleItemsOf (.ref t)>>=_) _ _ s;refine wpAny_bind (tupleItemsOf_ c ?_);refine wpAny_bind (wpAny_typeOf i ?_);refine aB (if_pos rfl) (wpAny_bind (jf hs (Nat.le_of_lt k) ?_));have j:¬(((0:Int)==0&&(1:Int)==1&&b==items.size)=true):=by
  have:(b==items.size)=false:=by rw[beq_eq_false_iff_ne];lia
  refine aB this ?_;decide
 show wpAny _ _ (if((0:Int)==0&&(1:Int)==1&&b==items.size)=true then _ else _) _ _ s;refine aB (if_neg j) (aB (vW items b) ?_);first
  |exact wpAny_bind (m:=Builtin.Tuple.tupleExact _) (wpAny_newObj_type (wpAny_pure ⟨_,rfl,wpAny_pure h⟩) a)
  |exact wpAny_bind (m:=Builtin.Tuple.tupleExact _) (wpAny_newObj_type (wpAny_bind (wpAny_pure (wpAny_pure ⟨_,rfl,wpAny_pure h⟩))) a)
  |exact wpAny_bind (wpAny_bind (m:=Builtin.Tuple.tupleExact _) (wpAny_newObj_type (wpAny_pure (wpAny_pure ⟨_,rfl,wpAny_pure h⟩)) a))
  |exact wpAny_bind (wpAny_bind (m:=Builtin.Tuple.tupleExact _) (wpAny_newObj_type (wpAny_pure ⟨_,rfl,wpAny_pure h⟩) a))
end
theorem AC{s:Shared}{c:Bool}{v:Value}{y:Str}{Q:Value->Shared->Prop}(a:c=true->Q v s)(b:c=false->y.length<=sizeLine/\Q (.str y s.toks) {s with toks:=s.toks+1}):(if c=true then Made.val v else Made.str y).post Q s:=by
 induction c using Bool.casesOn
 ·exact b rfl
 ·exact a rfl
noncomputable def kJ(v:Value):Option Int->Prop
 |none=>v=.none
 |some i=>∃t,v=.int i t
theorem kJ.isPart{v:Value}{o:Option Int}(h:kJ v o):IsPart v o:=by
 induction o using Option.casesOn with
 |none=>cases h;exact .none
 |some i=>obtain⟨t,rfl⟩:=h;exact .int _ _
theorem kJ.part{v:Value}{o:Option Int}(h:kJ v o):∃p:Option (Int×Tok),v=partValue p/\p.map (·.1)=o:=by
 induction o using Option.casesOn with
 |none=>cases h;exact⟨none,rfl,rfl⟩
 |some i=>obtain⟨t,rfl⟩:=h;exact⟨some (i,t),rfl,rfl⟩
section
variable{F:Fx}{g g':G}{ρ ρ':List Addr}{s s':Shared}{σ σ':bo}{A:Around}{n:Nat}
theorem v3{d r:PyData}{o v w:Value}{y:Addr}{p j:Option Int}(I:aF F g ρ s σ)(D:Rd F.B.prog F.B.w g o d)(hs:s.heap.IsSliceOf y v w .none)(pl:kJ v p)(m:kJ w j)(h:iq d p j=some r):
  (∃T id,s.TypeIs o T/\typeLookup (.type T) "__getitem__"=pure (some (.builtin id)))/\wpAny (model F.B.prog F.B.w) A (getItem o (.ref y)) (aC F g ρ s (Rv F.B) (Is (.d r) σ)) E0 s:=by
 induction D using Rd.casesOn with
 |str x t=>
  refine bC h λi h=>?_;obtain rfl:=Option.some.inj h;refine aG λq=>?_;obtain⟨l,rfl,rfl⟩:=pl.part;obtain⟨u,rfl,rfl⟩:=m.part;refine q ⟨ud,wpAny_getItem_str_slice (l:=l) (u:=u) (st:=none) hs rfl ?_⟩;have key:∀z k,aC F g ρ s (Rv F.B) (Is (.d (.str (Txt.slice x (l.map (·.1)) (u.map (·.1))))) σ) (.str (Txt.slice x (l.map (·.1)) (u.map (·.1))) z) {s with toks:=k}:=λz k=>dm I (.d (.str _ _)) ⟨rfl,rfl⟩ _;have a:=Txt.slice_le x (l.map (·.1)) (u.map (·.1));unfold sliceMade;unfold Txt.slice at key a⊢;simp only[slicePicked,Option.map_none,Option.getD_none];refine AC (λhc=>?_) λhc=>?_
  ·simp only[hc,if_true]at key⊢;exact key _ _
  ·simp only[hc,Bool.false_eq_true,if_false]at key a⊢;exact⟨Nat.le_trans a i,key _ _⟩
 |list e c=>refine bC h λi h=>?_;obtain rfl:=Option.some.inj h;have f:IsL s.heap _ _ _:=I.so.sub _ _ e;have hl:=c.length;simp only[Array.length_toList]at hl;refine⟨qi f,wpAny_getItem_list_slice f.isList hs pl.isPart m.isPart .none (by decide) ?_ (by rw[hl];exact i)⟩;refine CZ I ?_ _ ⟨rfl,rfl⟩;rw[slicePick_plain];exact aB hl ((c.drop _).take _)
 |tuple e c=>
  have f:IsT s.heap _ _ _:=I.so.sub _ _ e;have hl:=c.length;simp only[Array.length_toList]at hl;have B:IsTup s.heap _ _:=⟨_,f,rfl,_,rfl⟩;induction p using Option.casesOn with
  |some E=>
   induction j using Option.casesOn with
   |some C=>exact aN h
   |none=>refine bC h λi h=>?_;obtain rfl:=Option.some.inj h;obtain⟨t,rfl⟩:=pl;cases m;obtain⟨b,rfl⟩:=Int.eq_ofNat_of_zero_le (show(0:Int)<=E by lia);refine⟨jI f,getItem_tuple_from B hs (by lia) (by lia) ?_ (by lia)⟩;exact AN I (c.drop _) _ ⟨rfl,rfl⟩
  |none=>
   induction j using Option.casesOn with
   |none=>exact aN h
   |some C=>refine bC h λi h=>?_;obtain rfl:=Option.some.inj h;obtain⟨t,rfl⟩:=m;cases pl;obtain⟨b,rfl⟩:=Int.eq_ofNat_of_zero_le (show(0:Int)<=C by lia);refine⟨jI f,ii B hs (by lia) ?_ (by lia)⟩;exact AN I (c.take _) _ ⟨rfl,rfl⟩
 |_=>exact aN h
end
end Mine
end
noncomputable section
open PySem PySem.Calls PySem.Spec PySem.W PyProof.Rows Builtin.Str
open AutoSeq1 (wpAny_loadPart')
namespace Mine
section
variable{prog:Program}{w:World}{A:Around}{E:Value->Shared->Prop}{s:Shared}
noncomputable def gI(prog:Program)(w:World)(A:Around)(s:Shared)(y x:Value):Prop:=
 ∀(E:Value->Shared->Prop)(Q:Bool->Shared->Prop),Q true s->wpAny (model prog w) A (eqBool y x) Q E s
theorem ru{items a:Array Value}{y x:Value}{b:List (Value×Value)}{i:Nat}(hsz:items.size=a.size)(f:(y,x)::b=(items.toList.zip a.toList).drop i):
  ∃(h:i<items.size)(j:i<a.size),y=items[i]/\x=a[i]/\b=(items.toList.zip a.toList).drop (i+1):=by
 have g:(items.toList.zip a.toList).length=items.size:=by simp[hsz]
 have c:i<(items.toList.zip a.toList).length:=by
  refine Or.elim (Nat.lt_or_ge i (items.toList.zip a.toList).length) (λh'=>?_) λh'=>?_
  ·exact h'
  ·rw[List.drop_of_length_le h']at f;exact Ed f
 rw[List.drop_eq_getElem_cons c]at f;injection f with e d
 refine⟨g▸c,hsz▸g▸c,?_,?_,d⟩
 ·have:=congrArg Prod.fst e;simpa using this
 ·have:=congrArg Prod.snd e;simpa using this
theorem rm(l b:Addr)(items a:Array Value)(n q:Nat)(hsz:items.size=a.size):
  MeetsIn prog w (Builtin.«tuple.__eq__» ⟨[.ref l,.ref b],[]⟩) (λA R s=>s.heap.get? l=some {cls:=.type "tuple",dict:=none,data:=.seq items n,slots:=#[]}/\s.heap.get? b=some {cls:=.type "tuple",dict:=none,data:=.seq a q,slots:=#[]}/\
   (∀j(m:j<items.size)(o:j<a.size),gI prog w A.in1 s items[j] a[j])/\R (.ok (.ret (.bool true))) s):=
 .of_wp λA R s h=>by
  obtain⟨r,g,d,tk,t⟩:=s;refine ko h λhl u v h=>?_;have z:=AutoSeq1.sub_tuple_tuple
  wp_walk using wpAny_loadPart' hl,wpAny_loadPart' u,wpAny_forIn_list _ (λc b s'=>b.1=none/\s'=⟨r,g,d,tk,t⟩/\∃i,c=(items.toList.zip a.toList).drop i) _
  case turn=>
   rintro⟨y,x⟩ c b s' ⟨e,rfl,i,p⟩;refine aG λk=>?_;obtain⟨m,o,rfl,rfl,f⟩:=ru hsz p;refine k (wpAny_bind (v i m o _ _ ?_))
   wp_walk
   exact⟨rfl,rfl,i+1,f⟩
  case fin=>
   rintro⟨B,C⟩ s' ⟨e,rfl,i,p⟩;simp only at e;subst e
   wp_walk
   exact⟨_,rfl,by simpa[Builtin.Tuple.tupleCompareSizes,hsz]using h⟩
  case h=>exact⟨rfl,rfl,0,rfl⟩
theorem ro(l b:Addr)(items a:Array Value)(n q:Nat)(hsz:items.size=a.size):
  MeetsIn prog w (Builtin.«tuple.__ne__» ⟨[.ref l,.ref b],[]⟩) (λA R s=>s.heap.get? l=some {cls:=.type "tuple",dict:=none,data:=.seq items n,slots:=#[]}/\s.heap.get? b=some {cls:=.type "tuple",dict:=none,data:=.seq a q,slots:=#[]}/\
   (∀j(m:j<items.size)(o:j<a.size),gI prog w A.in1 s items[j] a[j])/\R (.ok (.ret (.bool false))) s):=
 .of_wp λA R s h=>by
  obtain⟨r,g,d,tk,t⟩:=s;refine ko h λhl u v h=>?_;have z:=AutoSeq1.sub_tuple_tuple
  wp_walk using wpAny_loadPart' hl,wpAny_loadPart' u,wpAny_forIn_list _ (λc b s'=>b.1=none/\s'=⟨r,g,d,tk,t⟩/\∃i,c=(items.toList.zip a.toList).drop i) _
  case turn=>
   rintro⟨y,x⟩ c b s' ⟨e,rfl,i,p⟩;refine aG λk=>?_;obtain⟨m,o,rfl,rfl,f⟩:=ru hsz p;refine k (wpAny_bind (v i m o _ _ ?_))
   wp_walk
   exact⟨rfl,rfl,i+1,f⟩
  case fin=>
   rintro⟨B,C⟩ s' ⟨e,rfl,i,p⟩;simp only at e;subst e
   wp_walk
   exact⟨_,rfl,by simpa[Builtin.Tuple.tupleCompareSizes,hsz]using h⟩
  case h=>exact⟨rfl,rfl,0,rfl⟩
theorem gI.self(v:Value):gI prog w A s v v:=λE Q h=>SeqAt.EqAt.same v prog w E Q h
theorem gI.of_eq{a b:Addr}(h:∀(E:Value->Shared->Prop)(Q:Value->Shared->Prop),Q (.bool true) s->wpAny (model prog w) A (richCompare .Eq (.ref a) (.ref b)) Q E s):gI prog w A s (.ref a) (.ref b):=λE Q c=>by refine wpAny_holding (wpAny_ite_split (λd=>wpAny_bind (wpAny_rule (wpAny_pure c))) (λ_=>?_));exact wpAny_bind (h E _ (wpAny_truthy_bool c))
theorem ka{l b:Addr}{items a:Array Value}{n c:Nat}{Q:Value->Shared->Prop}(hl:IsT s.heap l items n)(d:IsT s.heap b a c)(hsz:items.size=a.size)(e:A.units<cLine)(f:∀j(g:j<items.size)(i:j<a.size),gI prog w A.in1 s items[j] a[j])(h:Q (.bool true) s):wpAny (model prog w) A (richCompare .Eq (.ref l) (.ref b)) Q E s:=by refine wpAny_richCompare_same_room (op:=.Eq) (T:="tuple") ⟨_,hl,rfl⟩ ⟨_,d,rfl⟩ F.slot_tuple_eq (call_meetsIn F.slot_tuple_eq ⟨_,hl,rfl⟩ F.entry_tuple_eq (F.args_tuple_eq_2 _ _) (rm l b items a n c hsz) ⟨hl,d,f,?_⟩) e;exact⟨(λx=>nomatch x),h⟩
theorem mO{l b:Addr}{items a:Array Value}{n c:Nat}{Q:Value->Shared->Prop}(hl:IsT s.heap l items n)(d:IsT s.heap b a c)(hsz:items.size=a.size)(e:A.units<cLine)(f:∀j(g:j<items.size)(i:j<a.size),gI prog w A.in1 s items[j] a[j])(h:Q (.bool false) s):wpAny (model prog w) A (richCompare .NotEq (.ref l) (.ref b)) Q E s:=by refine wpAny_richCompare_same_room (op:=.NotEq) (T:="tuple") ⟨_,hl,rfl⟩ ⟨_,d,rfl⟩ F.slot_tuple_ne (call_meetsIn F.slot_tuple_ne ⟨_,hl,rfl⟩ F.entry_tuple_ne (F.args_tuple_ne_2 _ _) (ro l b items a n c hsz) ⟨hl,d,f,?_⟩) e;exact⟨(λx=>nomatch x),h⟩
inductive kI(prog:Program)(w:World)(A:Around)(s:Shared)(kb:List (Str×Value)):List (Str×Value)->Prop
 |nil:kI prog w A s kb []
 |cons {k:Str} {v y:Value} {r:List (Str×Value)}:valueAt kb k=some y->gI prog w A s v y->kI prog w A s kb r->kI prog w A s kb ((k,v)::r)
theorem kI.inv{a:List (Str×Value)}{k:Str}{v:Value}{r:List (Str×Value)}(h:kI prog w A s a ((k,v)::r)):∃y,valueAt a k=some y/\gI prog w A s v y/\kI prog w A s a r:=by
 refine aG λb=>?_;cases h with
 |cons c d e=>refine b ?_;exact⟨_,c,d,e⟩
theorem l9{nm:String}{a b:Addr}{F u:List (Str×Value)}{Q:Bool->Shared->Prop}(ha:(a==sysModules)=false)(hb:(b==sysModules)=false)(da:s.heap.DictOf (strKind prog w) a F)(db:s.heap.DictOf (strKind prog w) b u)(hl:F.length=u.length)(I:kI prog w A s u F)(h:Q true s):
  wpAny (model prog w) A (Builtin.Dict.samePairs nm a b) Q E s:=by
 refine aG λc=>cU da λoa es ep S=>Gf S λn _ o T J _=>cU db λob f aa S=>?_;obtain⟨p,_,r,K,G,_⟩:=S;have L:F.length=es.size:=by rw[<-J.length];exact Array.length_toList
 have M:u.length=f.size:=by rw[<-G.length];exact Array.length_toList
 have hsz:es.size=f.size:=by rw[<-L,<-M];exact hl
 have g:∀k,findBy (strKind prog w).is f k=valueAt u k:=λk=>by refine aB (Eq.symm (G.find k)) ?_;clear M G K r p hsz;obtain⟨l⟩:=f;simp[findBy]
 refine c ?_;unfold Builtin.Dict.samePairs Builtin.Dict.showsAll;refine aB (if_neg (show¬(a==sysModules)=true by rw[ha];exact Bool.false_ne_true)) (aB (if_neg (show¬(b==sysModules)=true by rw[hb];exact Bool.false_ne_true)) ?_);refine wpAny_bind (wpAny_pure (wpAny_bind (wpAny_pure ?_)));refine wpAny_bind (wpAny_dictEntries n o ?_);refine wpAny_bind (wpAny_dictEntries p r ?_);refine aB (if_neg (by rw[hsz];simp)) (wpAny_bind (wpAny_dictEpoch n o (wpAny_bind ?_)));rw[Std.Legacy.Range.forIn_eq_forIn_range'];refine wpAny_forIn_list _ (λz q s'=>s'=s/\q=(none,())/\∃i,z=List.range' i (es.size -i)/\kI prog w A s u (F.drop i)) _ ?_ ?_ _ _ ⟨rfl,rfl,0,by simp,I⟩
 ·rintro x z q s' ⟨rfl,rfl,i,N,m⟩;have t:i<es.size:=by
   refine aG λc=>Or.elim (Nat.lt_or_ge i es.size) (λh=>?_) λh=>?_
   ·exact c h
   ·refine c ?_;rw[Nat.sub_eq_zero_of_le h]at N;simp at N
  have e:es.size -i=(es.size -(i+1))+1:=by lia
  simp only[e,List.range'_succ]at N;refine aG λc=>?_;injection N with hx H
  subst hx;refine c (wpAny_bind (wpAny_dictEntries n o ?_));refine aB (Array.getElem?_eq_getElem t) ?_;refine aG λc=>?_;have B:x<F.length:=by rw[L];exact t
  obtain⟨k,v,O⟩:∃k v,F[x]=(k,v):=⟨_,_,rfl⟩;rw[List.drop_eq_getElem_cons B,O]at m;obtain⟨C,P⟩:=J.get? (i:=x) (e:=es[x]) (k:=k) (v:=v) (by rw[Array.getElem?_toList];exact Array.getElem?_eq_getElem t) (by rw[List.getElem?_eq_getElem B,O]);obtain⟨k',U,Z⟩:=T es[x] (Array.getElem_mem t);have V:k'=k:=(strKind prog w).inj _ _ _ U C;simp only[V]at Z;obtain⟨y,R,d,W⟩:=m.inv;refine c ?_;show wpAny _ _ (holding [es[x].key,es[x].val] _>>=_) _ _ _;refine aB Z (wpAny_bind (wpAny_holding (wpAny_bind (wpAny_dictFind_of C p r K ?_))));cases X:f.findIdx? λe=>(strKind prog w).is k e.key with
  |none=>replace R:=Eq.trans (Eq.symm ((by rw[<-g k,findBy_of_findIdx?,X]:valueAt u k=none))) R;exact aN R
  |some j=>
   refine aG λc=>?_;obtain⟨D,_,_⟩:=Array.findIdx?_eq_some_iff_getElem.mp X;have Y:valueAt u k=some f[j].val:=by simp only[<-g k,findBy_of_findIdx?,X];simp[Array.getElem?_eq_getElem D]
   refine c (wpAny_bind (wpAny_dictEntries p r ?_));refine aB (Array.getElem?_eq_getElem D) ?_;have ey:f[j].val=y:=Option.some.inj (Y.symm.trans R);simp only[<-ey]at d;replace d:=(Eq.symm (P))▸d;refine wpAny_holding (d _ _ ?_);show wpAny _ _ (if(!true)=true then _ else _) _ _ _;refine aB (if_neg (by decide)) (wpAny_bind (wpAny_dictEpoch n o ?_));exact aB (if_neg (by simp)) (wpAny_pure ⟨rfl,rfl,x+1,H,W⟩)
 ·rintro q s' ⟨rfl,rfl,i,N,m⟩;exact wpAny_pure h
theorem ma{a b:Addr}{e f:List (Str×Value)}{Q:Value->Shared->Prop}(i:(a==sysModules)=false)(j:(b==sysModules)=false)(d:s.heap.DictOf (strKind prog w) a e)(g:s.heap.DictOf (strKind prog w) b f)(k:A.units<cLine)(hl:e.length=f.length)(c:kI prog w A.in1 s f e)(h:Q (.bool true) s):
  wpAny (model prog w) A (richCompare .Eq (.ref a) (.ref b)) Q E s:=by
 refine wpAny_richCompare_same_room (op:=.Eq) d.typeIs g.typeIs PySem.F.slot_dict_eq (wpAny_call_entry PySem.F.slot_dict_eq d.typeIs PySem.F.entry_dict_eq ?_ (PySem.F.args_dict_eq_2 _ _)) k;refine wpAny_bind (wpAny_bind (wpAny_notOrdered_dict d.typeIs ?_));refine wpAny_pure (wpAny_bind (wpAny_isInstance (T:="dict") g.typeIs PySem.F.sub_dict_dict ?_));refine wpAny_bind (wpAny_pure (wpAny_bind (wpAny_pure (wpAny_bind (l9 i j d g hl c (wpAny_pure ⟨_,rfl,(λx=>nomatch x),?_⟩))))));simpa using h
theorem pi{a b:Addr}{e f:List (Str×Value)}{Q:Value->Shared->Prop}(i:(a==sysModules)=false)(j:(b==sysModules)=false)(d:s.heap.DictOf (strKind prog w) a e)(g:s.heap.DictOf (strKind prog w) b f)(k:A.units<cLine)(hl:e.length=f.length)(c:kI prog w A.in1 s f e)(h:Q (.bool false) s):
  wpAny (model prog w) A (richCompare .NotEq (.ref a) (.ref b)) Q E s:=by
 refine wpAny_richCompare_same_room (op:=.NotEq) d.typeIs g.typeIs PySem.F.slot_dict_ne (wpAny_call_entry PySem.F.slot_dict_ne d.typeIs PySem.F.entry_dict_ne ?_ (PySem.F.args_dict_ne_2 _ _)) k;refine wpAny_bind (wpAny_bind (wpAny_notOrdered_dict d.typeIs ?_));refine wpAny_pure (wpAny_bind (wpAny_isInstance (T:="dict") g.typeIs PySem.F.sub_dict_dict ?_));refine wpAny_bind (wpAny_pure (wpAny_bind (wpAny_pure (wpAny_bind (l9 i j d g hl c (wpAny_pure ⟨_,rfl,(λx=>nomatch x),?_⟩))))));simpa using h
end
end Mine
end
noncomputable section
open PySem PySem.Calls PySem.Spec PySem.W PyProof.Rows Builtin.Str
set_option backward.match.sparseCases false
namespace Mine
section
variable{prog:Program}{w:World}{g:G}
theorem Br{A:Around}{s:Shared}{x y:PyData}{c d:Value}(sub:∀b o,g b=some o->s.heap.get? b=some o)(f:A.units+64<cLine)(i:Rd prog w g c x)(j:Rd prog w g d y)(a:d0 x=true)(e:d0 y=true)(h:PyData.eqv x y=true):gI prog w A s c d:=λE Q k=>by obtain⟨_,p⟩:=eX sub i (dV a);obtain⟨_,q⟩:=eX sub j (dV e);have:=SeqAt.eqAt_reads _ _ A s _ _ _ _ p q (dV a) (dV e) (SeqAt.room_of_shaped a f) prog w E Q;rw[h]at this;exact this k
theorem lH{f:PyData->PyData->Bool}{xs:List PyData}:∀{ys:List PyData},Ck f xs ys=true->xs.length=ys.length/\∀(i:Nat)(x y:PyData),xs[i]?=some x->ys[i]?=some y->f x y=true:=by
 induction xs with
 |nil=>
  intro ys h;induction ys using List.casesOn with
  |nil=>exact⟨rfl,λi x y h=>(aN h)⟩
  |cons _ _=>exact en h
 |cons x xs c=>
  intro ys h;induction ys using List.casesOn with
  |nil=>exact en h
  |cons y ys=>
   replace h:=Bool.and_eq_true_iff.mp h;refine⟨congrArg (·+1) (c h.2).1,λi a b d e=>?_⟩;induction i using Nat.casesOn with
   |zero=>exact Option.some.inj d▸Option.some.inj e▸h.1
   |succ i=>exact(c h.2).2 i a b d e
theorem uf{A:Around}{s:Shared}{f:PyData->PyData->Bool}{a:List Str}{b:List Value}{c:List PyData}(i:a.length=b.length)(j:aD prog w g b c)(p:∀x y o l,f x y=true->Rd prog w g o x->Rd prog w g l y->gI prog w A s o l):
  ∀{ks:List Str}{vs:List Value}{ds:List PyData},ks.length=vs.length->aD prog w g vs ds->vc f ((a.map PyData.str).zip c) ((ks.map PyData.str).zip ds)=true->kI prog w A s (a.zip b) (ks.zip vs):=by
 intro ks;induction ks with
 |nil=>exact λ_ _ _=>.nil
 |cons k ks q=>
  intro vs ds hl m h;induction m using aD.casesOn with
  |nil=>exact nomatch hl
  |@cons v d vs ds r m=>
   change(_&&_)=true at h;rw[Bool.and_eq_true,ib]at h;refine aG λe=>?_;cases n:cQ a c k with
   |none=>refine e ?_;rw[n]at h;exact absurd h.1 Bool.false_ne_true
   |some y=>refine e ?_;rw[n]at h;exact(eb a b c i j k y n).elim λl H=>.cons H.1 (p _ _ _ _ h.1 r H.2) (q (Nat.succ.inj hl) m h.2)
theorem na:∀(n:Nat){A:Around}{s:Shared}{x y:PyData}{i k:Value},(∀b o,g b=some o->s.heap.get? b=some o)->A.units+64+n<cLine->Rd prog w g i x->Rd prog w g k y->ie n x y=true->gI prog w A s i k:=by
 intro B;induction B with
 |zero=>intro A s x y i k sub R l p h;refine aG λc=>?_;rw[ie,Bool.and_eq_true,Bool.and_eq_true]at h;exact c (Br sub (by omega) l p h.1.1 h.1.2 h.2)
 |succ n q=>
  intro A s x y i k sub R l p h;simp only[ie,Bool.or_eq_true]at h;rcases h with h|h
  ·rw[Bool.and_eq_true,Bool.and_eq_true]at h;exact Br sub (by lia) l p h.1.1 h.1.2 h.2
  ·have t:A.in1.units+64+n<cLine:=by rw[Around.in1_units];lia
   induction x using PyData.casesOn with
   |tuple xs=>
    induction y using PyData.casesOn with
    |tuple ys=>obtain⟨a,S,m,C,u⟩:=l.isT sub;obtain⟨b,L,m',f,d⟩:=p.isT sub;refine aG λc=>?_;obtain⟨hl,D⟩:=lH h;refine c ?_;have M:=u.length;have N:=d.length;rw[Array.length_toList]at M N;refine gI.of_eq λE Q F=>ka C f (by lia) (by lia) (λj T U=>?_) F;refine aG λc=>?_;have e1:xs[j]?=some (xs[j]'(by lia)):=List.getElem?_eq_getElem _;have O:ys[j]?=some (ys[j]'(by lia)):=List.getElem?_eq_getElem _;obtain⟨v,P,V⟩:=u.getV e1;obtain⟨v',z,H⟩:=d.getV O;rw[Array.getElem?_toList,Array.getElem?_eq_getElem T,Option.some.injEq]at P;refine c ?_;rw[Array.getElem?_toList,Array.getElem?_eq_getElem U,Option.some.injEq]at z;subst P;subst z;exact q sub t V H (D j _ _ e1 O)
    |_=>exact en h
   |dict xs=>
    induction y using PyData.casesOn with
    |dict ys=>
     change(_&&_)=true at h;rw[Bool.and_eq_true,beq_iff_eq]at h;obtain⟨a,o,ks,vs,ds,D,C,hl,hs,u⟩:=l.dictOf;refine aG λc=>?_;obtain⟨b,W,X,Y,Z,I,f,J,K,d⟩:=p.dictOf;refine c ?_;have M:=u.length;have N:=d.length;have e:=h.1;simp only[List.length_zip,List.length_map]at e;refine gI.of_eq λE Q F=>ma hs K (Heap.dictOf_iff.mpr ⟨o,sub _ _ D,C⟩) (Heap.dictOf_iff.mpr ⟨W,sub _ _ I,f⟩) (by lia) (by simp only[List.length_zip];lia)
      (uf J d (λx y i k hf r r'=>q sub t r r' hf) hl u h.2) F
    |_=>exact en h
   |_=>exact en h
end
section
variable{F:Fx}{g g':G}{ρ ρ':List Addr}{s s':Shared}{σ σ':bo}{A:Around}{n:Nat}
theorem m8{x y:PyData}{J K:Value}{e:Bool}(L:Ok n A)(I:aF F g ρ s σ)(M:Rd F.B.prog F.B.w g J x)(N:Rd F.B.prog F.B.w g K y)(h:fL x y=some e):
  wpAny (model F.B.prog F.B.w) A (compareOp .Eq J K) (aC F g ρ s (Rv F.B) (Is (.d (.bool e)) σ)) E0 s/\wpAny (model F.B.prog F.B.w) A (compareOp .NotEq J K) (aC F g ρ s (Rv F.B) (Is (.d (.bool !e)) σ)) E0 s:=by
 have hu:=L.units;have sub:=I.so.sub;unfold fL at h;split at h
 ·rename_i hd
  simp only[Bool.and_eq_true]at hd;refine aG λc=>?_;obtain rfl:=Option.some.inj h;obtain⟨_,p⟩:=eX sub M (dV hd.1);obtain⟨_,q⟩:=eX sub N (dV hd.2);exact c ⟨SeqAt.compareEq_shaped p q hd.1 hd.2 L.u (aC.is I (.d (.bool _))),SeqAt.compareNe_shaped p q hd.1 hd.2 L.u (aC.is I (.d (.bool _)))⟩
 ·rename_i hd
  split at h
  ·rename_i ht
   obtain rfl:=Option.some.inj h;have Z:∀n,ie n x y=true->¬(d0 x&&d0 y&&PyData.eqv x y)=true:=λn _ l=>by rw[Bool.and_eq_true]at l;exact hd l.1
   rw[ie,Bool.or_eq_true]at ht;replace ht:=ht.resolve_left (λl=>by rw[Bool.and_eq_true]at l;exact hd l.1);have t:A.in1.units+64+7<cLine:=by rw[Around.in1_units];lia
   induction x using PyData.casesOn with
   |tuple xs=>
    induction y using PyData.casesOn with
    |tuple ys=>
     obtain⟨a,u,m,w,z⟩:=M.isT sub;obtain⟨b,k,m',f,i⟩:=N.isT sub;have hl:=(lH ht).1;have H:=(lH ht).2;have S:=z.length;have T:=i.length;rw[Array.length_toList]at S T;have key:∀j(U:j<u.size)(V:j<k.size),gI F.B.prog F.B.w A.in1 s u[j] k[j]:=λj U V=>by refine aG λc=>?_;have e1:xs[j]?=some (xs[j]'(by lia)):=List.getElem?_eq_getElem _;have W:ys[j]?=some (ys[j]'(by lia)):=List.getElem?_eq_getElem _;obtain⟨v,X,rv⟩:=z.getV e1;obtain⟨v',B,O⟩:=i.getV W;rw[Array.getElem?_toList,Array.getElem?_eq_getElem U,Option.some.injEq]at X;refine c ?_;rw[Array.getElem?_toList,Array.getElem?_eq_getElem V,Option.some.injEq]at B;refine aG λc=>?_;subst X;subst B;exact c (na 7 sub t rv O (H j _ _ e1 W))
     exact⟨ka w f (by lia) (by lia) key (aC.is I (.d (.bool _))),mO w f (by lia) (by lia) key (aC.is I (.d (.bool _)))⟩
    |_=>exact en ht
   |dict xs=>
    induction y using PyData.casesOn with
    |dict ys=>
     refine aG λc=>?_;change(_&&_)=true at ht;simp only[Bool.and_eq_true,beq_iff_eq]at ht;obtain⟨a,o,ks,vs,ds,H,w,hl,hs,z⟩:=M.dictOf;obtain⟨b,Y,P,Q,aa,C,f,R,D,i⟩:=N.dictOf;have S:=z.length;have T:=i.length;have e:=ht.1;simp only[List.length_zip,List.length_map]at e;have key:=uf (A:=A.in1) (s:=s) R i (λx y vx vy hf r r'=>na 7 sub t r r' hf) hl z ht.2;have E:(ks.zip vs).length=(P.zip Q).length:=by simp only[List.length_zip];lia
     refine c ?_;exact⟨ma hs D (Heap.dictOf_iff.mpr ⟨o,sub _ _ H,w⟩) (Heap.dictOf_iff.mpr ⟨Y,sub _ _ C,f⟩) (by lia) E key (aC.is I (.d (.bool _))),
      pi hs D (Heap.dictOf_iff.mpr ⟨o,sub _ _ H,w⟩) (Heap.dictOf_iff.mpr ⟨Y,sub _ _ C,f⟩) (by lia) E key (aC.is I (.d (.bool _)))⟩
    |_=>exact en ht
   |_=>exact en ht
  ·exact aN h
theorem vq{a b:V}{d e:Value}{r q:PyData×List aA}(I:aF F g ρ s σ)(k:Rv F.B g ρ a d)(l:Rv F.B g ρ b e)(m:fz a σ.st=some r)(o:fz b r.2=some q):
  ∃g',bw F g ρ s g' ρ s/\aF F g' ρ s {σ with st:=q.2}/\Rd F.B.prog F.B.w g' d r.1/\Rd F.B.prog F.B.w g' e q.1:=by
 refine aG λc=>?_;obtain⟨v,f,h,p⟩:=b5 a I k m;obtain⟨t,i,j,u⟩:=b5 b h (f.rv l) o;exact c ⟨t,f.trans h i ⟨_,j⟩,j,p.mono i.st.le,u⟩
theorem m9{a b:V}{c i:Value}{e:Bool×List aA}{f:Bool->Bool}{op:CmpOp}(I:aF F g ρ s σ)(o:Rv F.B g ρ a c)(p:Rv F.B g ρ b i)(k:∀{g':G}{σ':bo}{x y:PyData}{e:Bool},aF F g' ρ s σ'->Rd F.B.prog F.B.w g' c x->Rd F.B.prog F.B.w g' i y->fL x y=some e->wpAny (model F.B.prog F.B.w) A (compareOp op c i) (aC F g' ρ s (Rv F.B) (Is (.d (.bool (f e))) σ')) E0 s)(ks:∀{x y:Str}{t u:Tok},wpAny (model F.B.prog F.B.w) A (compareOp op (.str x t) (.str y u)) (aC F g ρ s (Rv F.B) (Is (.d (.bool (f (x==y)))) σ)) E0 s)(h:zM f σ.st a b=some e):
  wpAny (model F.B.prog F.B.w) A (compareOp op c i) (aC F g ρ s (Rv F.B) (Is (.d (.bool e.1)) ⟨σ.env,e.2⟩)) E0 s:=by
 have gen:GI f σ.st a b=some e->wpAny (model F.B.prog F.B.w) A (compareOp op c i) (aC F g ρ s (Rv F.B) (Is (.d (.bool e.1)) ⟨σ.env,e.2⟩)) E0 s:=
  λh=>bO h λr v h=>bO h λq w h=>bO h λJ z h=>by obtain rfl:=Option.some.inj h;exact aG λl=>aK (vq I o p v w) λK B=>ko B λS C D E=>l (wpAny_mono (k C D E z) (λ_ _ H=>H.after S.pre S.nw S.st) λ_ _ e=>e)
 unfold zM at h;cases j:vS a with
 |none=>rw[j]at h;exact gen h
 |some x=>
  cases m:vS b with
  |none=>rw[j,m]at h;exact gen h
  |some y=>simp only[j,m]at h;obtain rfl:=Option.some.inj h;clear gen;refine bS (f:=some) o (congrArg (·.bind some) j) λx t h=>?_;obtain rfl:=Option.some.inj h;exact bS (f:=some) p (congrArg (·.bind some) m) λy u h=>(Option.some.inj h)▸(ks)
theorem nr{b:V}{a l:Value}{x:PyData}{f:Bool->Bool}{e:Bool×List aA}{op:CmpOp}(i:∀y,compareOp op a y=(do return Value.bool (f (<-isSame a y))))(I:aF F g ρ s σ)(j:Rd F.B.prog F.B.w g a x)(k:Rv F.B g ρ b l)(h:((vX b).bind λy=>match y with
   |.none=>some (f (lO x),σ.st)
   |.bool b=>some (f (nU b x),σ.st)
   |_=>none)=some e):
  wpAny (model F.B.prog F.B.w) A (compareOp op a l) (aC F g ρ s (Rv F.B) (Is (.d (.bool e.1)) ⟨σ.env,e.2⟩)) E0 s:=
 bX k h λy k h=>by
  rw[i];induction k using Rd.casesOn with
  |none=>obtain rfl:=Option.some.inj h;refine aB (Eq.symm (AS j)) (aB (show isSame a .none=pure (a==.none) by induction a using Value.casesOn<;>rfl) ?_);exact wpAny_bind (wpAny_pure (wpAny_pure (aC.is I (.d (.bool _)))))
  |bool c=>obtain rfl:=Option.some.inj h;refine aB (Eq.symm (AQ _ j)) (aB (qo _ j) ?_);exact wpAny_bind (wpAny_pure (wpAny_pure (aC.is I (.d (.bool _)))))
  |_=>exact aN h
theorem vA{ys:List PyData}{x:PyData}{f i:Value}(k:Ok n A)(I:aF F g ρ s σ)(l:Rd F.B.prog F.B.w g f x)(m:Rd F.B.prog F.B.w g i (.list ys))(h:d0 x=true/\d0 (.list ys)=true):
  wpAny (model F.B.prog F.B.w) A (compareOp .In f i) (aC F g ρ s (Rv F.B) (Is (.d (.bool (ys.any λy=>PyData.eqv y x))) σ)) E0 s:=by
 obtain⟨a,vs,n,o,j⟩:=m.isL I.so.sub;obtain⟨_,q⟩:=eX I.so.sub l (dV h.1)
 classical
 have key:∀(v:Value)(d:PyData),d∈ys->Rd F.B.prog F.B.w g v d->(if b:∃d,d.canLay0=true/\Rd F.B.prog F.B.w g v d then PyData.eqv b.choose x else false)=PyData.eqv d x:=λv d b r=>by have c:∃d,d.canLay0=true/\Rd F.B.prog F.B.w g v d:=⟨d,dV (ll h.2 d b),r⟩;exact aB (dif_pos c) (aB (Rd.fn c.choose_spec.1 (dV (ll h.2 d b)) c.choose_spec.2 r) rfl)
 refine SeqAt.in_listAt (λv=>if b:∃d,d.canLay0=true/\Rd F.B.prog F.B.w g v d then PyData.eqv b.choose x else false) o.isList (λy t=>?_) ?_
 ·refine aG λe=>?_;obtain⟨d,b,r⟩:=j.mem y (Array.mem_toList_iff.mpr t);refine e (aB (key y d b r) ?_);obtain⟨_,p⟩:=eX I.so.sub r (dV (ll h.2 d b));exact SeqAt.eqAt_reads _ _ _ _ _ _ _ _ p q (dV (ll h.2 d b)) (dV h.1) (SeqAt.room_of_shaped (ll h.2 d b) (by have:=k.units;rw[Around.in1_units];lia))
 ·refine aB (Eq.symm (Array.any_toList)) (aB (j.any _ _ key) ?_);exact aC.is I (.d (.bool _))
theorem lg{op:CmpOp}{a b:V}{p q:Value}{e:Bool×List aA}(l:Ok n A)(I:aF F g ρ s σ)(c:Rv F.B g ρ a p)(j:Rv F.B g ρ b q)(h:dt σ.st op a b=some e):
  wpAny (model F.B.prog F.B.w) A (compareOp op p q) (aC F g ρ s (Rv F.B) (Is (.d (.bool e.1)) ⟨σ.env,e.2⟩)) E0 s:=by
 have fin:∀{r:Bool},aC F g ρ s (Rv F.B) (Is (.d (.bool r)) σ) (.bool r) s:=aC.is I (.d (.bool _));induction op using CmpOp.casesOn with
 |Lt=>refine bI c h λx t h=>?_;refine bI j h λy u h=>?_;obtain rfl:=Option.some.inj h;exact P.lt_int fin
 |Gt=>refine bI c h λx t h=>?_;refine bI j h λy u h=>?_;obtain rfl:=Option.some.inj h;exact P.gt_int fin
 |LtE=>refine bI c h λx t h=>?_;refine bI j h λy u h=>?_;obtain rfl:=Option.some.inj h;exact P.le_int fin
 |GtE=>refine bI c h λx t h=>?_;refine bI j h λy u h=>?_;obtain rfl:=Option.some.inj h;exact P.ge_int fin
 |Eq=>exact m9 I c j (λI m o h=>(m8 l I m o h).1) (P.eq_str (by rw[SeqAt.str_beq];exact fin)) h
 |NotEq=>exact m9 I c j (λI m o h=>(m8 l I m o h).2) (P.ne_str (by rw[<-SeqAt.str_beq];exact fin)) h
 |Is=>refine bX c h λx c h=>?_;exact nr (f:=id) (λ_=>rfl) I c j h
 |IsNot=>refine bX c h λx c h=>?_;exact nr (λ_=>rfl) I c j h
 |NotIn=>refine bS c h λx t h=>?_;refine bS j h λy u h=>?_;obtain rfl:=Option.some.inj h;exact P.notIn_str fin
 |In=>
  induction j using Rv.casesOn with
  |d j=>
   induction j using Rd.casesOn with
   |str y u=>refine bS c h λx t h=>?_;obtain rfl:=Option.some.inj h;exact P.in_str fin
   |list e k=>refine bX c h λx c h=>?_;exact bC h λhc h=>by obtain rfl:=Option.some.inj h;exact vA l I c (.list e k) (Bool.and_eq_true_iff.mp hc)
   |_=>exact aN h
  |@ref i _ z=>
    refine bS c h λx t h=>mD h λks ds hc h=>?_;obtain rfl:=Option.some.inj h;obtain⟨D,hs,vs,hl,B,k⟩:=I.st _ _ _ z ((bn _ _).symm.trans hc);refine wpAny_in_of (jO (Rd.str (g:=g) x t)) hs B.mapOf ?_;have e:(valueAt (ks.zip vs) x).isSome=(cQ ks ds x).isSome:=by
     cases w:cQ ks ds x with
     |none=>rw[jm ks vs ds hl k.length x w];rfl
     |some d=>obtain⟨v,C,_⟩:=eb ks vs ds hl k x d w;rw[C];rfl
    exact aB e (dm I (.d (.bool _)) ⟨rfl,rfl⟩ _)
  |_=>exact aN h
end
end Mine
end
noncomputable section
open PySem PySem.Calls PySem.Spec PySem.W PyProof.Rows Builtin.Str
namespace Mine
section
variable{F:Fx}{g g':G}{ρ ρ':List Addr}{s s':Shared}{σ σ':bo}{A:Around}{n:Nat}
theorem St.kept'{B:Bs}{W:List Addr}{g:G}{s s':Shared}(d:∀b o,s.heap.get? b=some o->s'.heap.get? b=some o)(a:s'.os=s.os)(c:s'.gens=s.gens):St B W g g s s':=
 ⟨λ_ _ e=>e,λb o _ e=>d b o e,λ_ _ e=>.inl e,λk=>k.step_keeps d,a,⟨by rw[c];exact Nat.le_refl _,λ_ _=>by rw[c]⟩,λh=>by rw[c];exact h⟩
theorem E7{v:V}{d:Value}{Q:V->bo->Prop}(I:aF F g ρ s σ)(c:∀b o,s.heap.get? b=some o->s'.heap.get? b=some o)(a:s'.os=s.os)(f:s'.gens=s.gens)(r:Rv F.B g ρ v d)(q:Q v σ):aC F g ρ s (Rv F.B) Q d s':=
 aC.by (St.kept' c a f) (I.grow (St.kept' c a f) λb o e=>c b o (I.so.sub b o e)) r q
theorem cH{B:Bs}{xs:List PyData}{vs:List Value}(r:aD B.prog B.w g vs xs):∀{is:List Int},eq xs=some is->IntsAre vs is/\vs.length=is.length:=by
 induction r using aD.ind with
 |nil=>exact λh=>Option.some.inj h▸⟨.nil,rfl⟩
 |@cons v x vs xs r b a=>
  intro is h;induction x using PyData.casesOn with
  |int i=>exact bM h λis h e=>e▸r.eInt λt=>⟨.cons _ t (a h).1,congrArg (·+1) (a h).2⟩
  |_=>exact aN h
noncomputable def Bi.fn:Bi->Value
 |.len=>.builtin "len"
 |.str=>.type "str"
 |.sum=>.builtin "sum"
 |.sorted=>.builtin "sorted"
 |.tuple=>.type "tuple"
theorem gh{n:Nat}(h:n<=sizeLine):(n:Int)<2^63:=by have:sizeLine=2^24:=rfl;lia
theorem sP{a:Int}(h:a.natAbs<2^64):a.natAbs.log2<1920:=by
 by_cases b:a.natAbs=0
 ·refine aB b ?_;decide
 ·have:=(Nat.log2_lt b (k:=64)).mpr h;lia
theorem C3{B:Bs}{g:G}{v:Value}{d:PyData}{xs:List PyData}(r:Rd B.prog B.w g v d)(h:FY d=some xs):Rd B.prog B.w g v (.list xs):=by
 induction r using Rd.casesOn with
 |list e r=>obtain rfl:=Option.some.inj h;exact .list e r
 |_=>exact aN h
theorem wb{a:V}{w:Value}{v:V×List aA}(y:Ok n A)(I:aF F g ρ s σ)(z:Rv F.B g ρ a w)(h:fJ .sum a σ.st=some v):wpAny (model F.B.prog F.B.w) A (call (.builtin "sum") [w]) (aC F g ρ s (Rv F.B) (Is v.1 ⟨σ.env,v.2⟩)) E0 s:=by
 refine bO h λr B h=>bO h λxs C h=>bO h λis D h=>?_;obtain rfl:=Option.some.inj h;refine aG λk=>?_;obtain⟨g',S,x,E⟩:=b5 a I z B;obtain⟨l,p,m,j,H⟩:=(C3 E C).isL x.so.sub;obtain⟨J,hl⟩:=cH H D;simp only[Array.length_toList]at hl;refine k (call_sum_walkAnyS ?_);refine wpAny_pyIter_list j.isList (vg _ _ _ _ ⟨_,_,_,λi=>is.getD i 0,rfl,(Walks.list (A:=A.in1) y.handled s.heap.objs.size l ((λq=>by subst q;exact absurd (Heap.lt_size j) (Nat.lt_irrefl _):l≠s.heap.objs.size)) p).toS,⟨⟨_,Heap.get?_push_size _ rfl,rfl,rfl⟩,(j.isList).push _⟩,λb c=>?_,λi v u=>?_,λs' L f=>?_⟩)
 ·rw[Heap.size_push];rcases List.mem_cons.mp c with rfl|c
  ·exact Nat.lt_succ_self _
  ·cases List.mem_singleton.mp c;exact Nat.lt_succ_of_lt (Heap.lt_size j)
 ·replace u:=Eq.trans (Eq.symm (Eq.symm (Array.getElem?_toList))) u;refine bd (J.at i v u) λm t K=>?_;obtain⟨rfl,f⟩:=K;exact⟨t,by show Value.int m t=Value.int (is.getD i 0) t;rw[List.getD_eq_getElem?_getD,f];rfl⟩
 ·rw[preSum_getD];refine aB hl (aB (List.take_of_length_le (Nat.le_refl _)) ?_);refine aC.after S.pre S.nw S.st (E7 x (λb o e=>f.heap b o (λc=>?_) (Heap.get?_push_of_some _ e)) f.os f.gens (.d (.int _ _)) ⟨rfl,rfl⟩);cases List.mem_singleton.mp c;exact absurd (Heap.lt_size e) (Nat.lt_irrefl _)
theorem ny{a:Addr}{b:Array Value}{m:Nat}{xs:List PyData}{v:V×List aA}(I:aF F g ρ s σ)(c:IsL s.heap a b m)(f:aD F.B.prog F.B.w g b.toList xs)(h:(if xs.length<=sizeLine then some (V.d (.int xs.length),σ.st)else none)=some v):
  wpAny (model F.B.prog F.B.w) A (call (.builtin "len") [.ref a]) (aC F g ρ s (Rv F.B) (Is v.1 ⟨σ.env,v.2⟩)) E0 s:=bC h λhl h=>by
 obtain rfl:=Option.some.inj h;have e:=f.length;simp only[Array.length_toList]at e;refine Calls.call_len_list (IsL.isList c) (by rw[e];exact gh hl) (aB e ?_);exact dm I (.d (.int _ _)) ⟨rfl,rfl⟩ _
theorem wG{b:Bi}{a:V}{q:Value}{v:V×List aA}(r:b≠.sorted)(u:Ok n A)(I:aF F g ρ s σ)(c:Rv F.B g ρ a q)(h:fJ b a σ.st=some v):wpAny (model F.B.prog F.B.w) A (call b.fn [q]) (aC F g ρ s (Rv F.B) (Is v.1 ⟨σ.env,v.2⟩)) E0 s:=by
 induction b using Bi.casesOn with
 |sum=>exact wb u I c h
 |sorted=>exact absurd rfl r
 |len=>
  induction c using Rv.casesOn with
  |ref w=>refine mL h λxs hc h=>?_;obtain⟨z,j,m,k,f⟩:=I.st _ _ _ w ((bn _ _).symm.trans hc);exact ny I k f h
  |d c=>
   induction c using Rd.casesOn with
   |str x t=>refine bC h λhl h=>?_;obtain rfl:=Option.some.inj h;exact P.len_str (by have:=gh hl;lia) (dm I (.d (.int _ _)) ⟨rfl,rfl⟩ _)
   |list e f=>exact ny I (I.so.sub _ _ e) f h
   |_=>exact aN h
  |_=>exact aN h
 |str=>refine bI c h λi t h=>?_;refine bC h λhl h=>?_;obtain rfl:=Option.some.inj h;exact P.str_of_int (sP hl) (dm I (.d (.str _ _)) ⟨rfl,rfl⟩ _)
 |tuple=>refine bL c h λxs c h=>bC h λhl h=>?_;obtain rfl:=Option.some.inj h;obtain⟨l,j,m,k,f⟩:=c.isL I.so.sub;have e:=f.length;simp only[Array.length_toList]at e;refine call_tuple_list k.isList (λh' p=>?_) (by rw[e];exact hl.2);have y:aF F g ρ {s with heap:=h'} σ:=I.grow (St.keeps s s.toks p) λb o e=>p b o (I.so.sub b o e);refine aC.after (List.prefix_refl _) (λ_ h=>.inl h) (St.keeps s s.toks p) (AN (s:={s with heap:=h'}) (n:=0) y f s.toks ⟨rfl,rfl⟩)
end
end Mine
end
noncomputable section
open PySem PySem.Calls PySem.Spec PySem.W PyProof.Rows Builtin.Str
set_option backward.match.sparseCases false
namespace Mine
theorem dC{a:Nat}{i:Int}(h:0<=i):fromIndex a i=i.toNat:=by
 unfold fromIndex;refine aB (if_neg (by lia)) ?_
 congr 1
 lia
theorem qe(x y:Str)(a b:Int)(t u v c:Tok):Gives (Builtin.«str.find» ⟨[.str x t,.str y u,.int a v,.int b c],[]⟩) (.int (match occurrences x y (fromIndex x.length a) (min (fromIndex x.length b) x.length) 1 with|k::_=>(k:Int)|[]=>-1)):=by
 show Gives (match occurrences x y (fromIndex x.length a) (min (fromIndex x.length b) x.length) 1 with|k::_=>retInt k|[]=>(do rule "str.find.not-found";retInt (-1))) _;cases occurrences x y (fromIndex x.length a) (min (fromIndex x.length b) x.length) 1 with
 |nil=>exact .rule (.of_eq rfl)
 |cons k _=>exact .of_eq rfl
theorem oH(x y:Str)(a b:Int)(t u v c:Tok):Gives (Builtin.«str.rfind» ⟨[.str x t,.str y u,.int a v,.int b c],[]⟩) (.int (match lastOccurrence x y (fromIndex x.length a) (min (fromIndex x.length b) x.length)with|some i=>(i:Int)|none=>-1)):=by
 show Gives (match lastOccurrence x y (fromIndex x.length a) (min (fromIndex x.length b) x.length)with|some i=>retInt i|none=>(do rule "str.rfind.not-found";retInt (-1))) _;cases lastOccurrence x y (fromIndex x.length a) (min (fromIndex x.length b) x.length)with
 |none=>exact .rule (.of_eq rfl)
 |some i=>exact .of_eq rfl
section
variable{F:Fx}{g g':G}{ρ ρ':List Addr}{s s':Shared}{σ σ':bo}{A:Around}{n:Nat}
noncomputable def GY(m:Me)(o:V):String:=match m with
 |.append=>"list"
 |.get=>"dict"
 |.index=>(match o with|.d (.str _)=>"str"|_=>"list")
 |_=>"str"
noncomputable def CQ(m:Me)(o:V):String:=match m with
 |.append=>"list.append"
 |.get=>"dict.get"
 |.index=>(match o with|.d (.str _)=>"str.index"|_=>"list.index")
 |.find=>"str.find"
 |.rfind=>"str.rfind"
 |.startswith=>"str.startswith"
 |.endswith=>"str.endswith"
 |.join=>"str.join"
theorem AD(m:Me)(o:V):PlainAttrs (GY m o)/\Slot (GY m o) m.name (CQ m o)/\typeOf (.builtin (CQ m o))=pure (.type "method_descriptor"):=by
 induction m using Me.casesOn with
 |find=>exact⟨PySem.F.plainAttrs_str,PySem.F.slot_str_find,PySem.F.type_str_find⟩
 |rfind=>exact⟨PySem.F.plainAttrs_str,PySem.F.slot_str_rfind,PySem.F.type_str_rfind⟩
 |startswith=>exact⟨PySem.F.plainAttrs_str,PySem.F.slot_str_startswith,PySem.F.type_str_startswith⟩
 |endswith=>exact⟨PySem.F.plainAttrs_str,PySem.F.slot_str_endswith,PySem.F.type_str_endswith⟩
 |join=>exact⟨PySem.F.plainAttrs_str,PySem.F.slot_str_join,PySem.F.type_str_join⟩
 |append=>exact⟨PySem.F.plainAttrs_list,PySem.F.slot_list_append,PySem.F.type_list_append⟩
 |get=>exact⟨PySem.F.plainAttrs_dict,PySem.F.slot_dict_get,PySem.F.type_dict_get⟩
 |index=>
  have l:PlainAttrs "list"/\Slot "list" "index" "list.index"/\typeOf (.builtin "list.index")=pure (.type "method_descriptor"):=⟨PySem.F.plainAttrs_list,PySem.F.slot_list_index,PySem.F.type_list_index⟩;induction o using V.casesOn with
  |d x=>induction x using PyData.casesOn with
   |str x=>exact((⟨PySem.F.plainAttrs_str,PySem.F.slot_str_index,PySem.F.type_str_index⟩:PlainAttrs "str"/\Slot "str" "index" "str.index"/\typeOf (.builtin "str.index")=pure (.type "method_descriptor")))
   |_=>exact l
  |_=>exact l
theorem yA{v:Value}{x:List PyData}(I:aF F g ρ s σ)(r:Rd F.B.prog F.B.w g v (.list x)):s.TypeIs v "list"/\∀a,v=.ref a->∃b,s.heap.get? a=some b/\b.dict=none:=by obtain⟨l,d,m,c,f⟩:=r.isL I.so.sub;exact⟨⟨_,c,rfl⟩,λa e=>by cases e;exact⟨_,c,rfl⟩⟩
theorem yy{v:Value}{kvs:List (PyData×PyData)}(I:aF F g ρ s σ)(d:Rd F.B.prog F.B.w g v (.dict kvs)):s.TypeIs v "dict"/\∀a,v=.ref a->∃b,s.heap.get? a=some b/\b.dict=none:=by obtain⟨a,o,ks,vs,ds,e,f,hl,hs,h⟩:=d.dictOf;have c:s.heap.DictOf (PySem.strKind F.B.prog F.B.w) a (ks.zip vs):=Heap.dictOf_iff.mpr ⟨o,I.so.sub _ _ e,f⟩;exact⟨c.mapOf.typeIs,c.mapOf.noDict⟩
theorem qM{m:Me}{o:V}{b:Value}(I:aF F g ρ s σ)(f:Rv F.B g ρ o b)(h:oX σ.st m o=true):s.TypeIs b (GY m o)/\∀a,b=.ref a->∃c,s.heap.get? a=some c/\c.dict=none:=by
 have st:(vS o).isSome=true->s.TypeIs b "str"/\∀a,b=.ref a->∃c,s.heap.get? a=some c/\c.dict=none:=λh=>by
  induction f using Rv.casesOn with
  |d r=>induction r using Rd.casesOn with
   |str x t=>exact⟨typeIs_str _ _ _,λa e=>nomatch e⟩
   |_=>exact en h
  |_=>exact en h
 induction m using Me.casesOn with
 |append=>
  induction f using Rv.casesOn with
  |ref i=>
   exact H4 h λxs hc=>by refine aG λj=>?_;obtain⟨p,q,m,k,u⟩:=I.st _ _ _ i ((bn _ _).symm.trans hc);exact j ⟨⟨_,k,rfl⟩,λa e=>by cases e;exact⟨_,k,rfl⟩⟩
  |_=>exact en h
 |get=>
  induction f using Rv.casesOn with
  |ref i=>
   exact H3 h λks ds hc=>by obtain⟨p,hs,vs,hl,l,u⟩:=I.st _ _ _ i ((bn _ _).symm.trans hc);exact⟨l.mapOf.typeIs,l.mapOf.noDict⟩
  |d r=>induction r using Rd.casesOn with
   |dict e1 v w y z=>exact yy I (.dict e1 v w y z)
   |_=>exact en h
  |_=>exact en h
 |index=>
  induction f using Rv.casesOn with
  |d r=>induction r using Rd.casesOn with
   |list e r=>exact yA I (.list e r)
   |str x t=>exact⟨typeIs_str _ _ _,λa e=>nomatch e⟩
   |_=>exact en h
  |_=>exact en h
 |_=>exact st h
theorem aF.turn(I:aF F g ρ s σ){i:Nat}{a:Addr}{c c':aA}(y:ρ[i]?=some a)(hc:aI σ.st i=some c)(E:g a=none){h':Heap}{t:Nat}(hs:Heap.SameBut a s.heap h')(f:d4 F.B g h' a c'):
  bw F g ρ s g ρ {s with heap:=h',toks:=t}/\aF F g ρ {s with heap:=h',toks:=t} ⟨σ.env,aT σ.st i c'⟩:=by
 have w:a∈ρ:=List.mem_of_getElem? y;have u:=I.so.rhi a w;have st:St F.B (F.own++ρ) g g s {s with heap:=h',toks:=t}:=St.same t (List.mem_append_right _ w) hs u;have sub:∀b o,g b=some o->h'.get? b=some o:=λb o e=>(hs.2 b ((λb o e q=>by subst q;rw[E]at e;exact aN e) b o e)).trans (I.so.sub b o e);refine aG λl=>aK (f.there sub) λQ z=>?_;have lv:∀b,s.heap.get? b≠none->h'.get? b≠none:=λb h=>by
  by_cases k:b=a
  ·subst k;rw[z];exact λq=>(iu q)
  ·exact aB (hs.2 b k) h
 refine aK (I.tab) λmore r=>cx r λB C=>l ?_;refine⟨⟨List.prefix_refl _,λ_ h=>.inl h,st⟩,⟨⟨sub,I.so.base,I.so.gno,I.so.rno,I.so.rhi,I.so.ohi,I.so.lown,I.so.lhi,I.so.chi,I.so.cap,I.so.rn,λb k=>lv b (I.so.olt b k),λb k=>lv b (I.so.rlt b k),λx H=>lv _ (I.so.clt x H)⟩,
  st.old I.old,I.bare,⟨more,(hs.2 _ ((λq=>F.B.hP0 (q▸u):F.B.P0≠a))).trans B,C⟩,⟨I.fr.len,?_,?_⟩,by show _=(aT σ.st i c').length;rw[jY];exact I.stl,λj b D k d=>?_⟩⟩
 ·refine aK (I.fr.loc) λm r=>?_;have J:=r.1;exact⟨m,J.sameBut hs (λq=>I.so.rno _ I.so.lown (q▸w)),(r.2)⟩
 ·intro i x b v K L;exact aG λl=>bd (I.fr.cel i x b v K L) λc M r=>ko r λe1 N O P=>l (j7 c M ⟨e1,N.sameBut hs (λq=>(I.so.chi _ (mem_of_lookup e1)).2.2.2 (q▸w)),O,P⟩)
 ·dsimp only at d
  rw[fV]at d;by_cases p:i=j
  ·subst p;have e:=Option.some.inj (y.symm.trans k);subst e;replace d:=Eq.trans (Eq.symm (List.getElem?_set_self (tM hc))) d;exact(Option.some.inj d)▸(f)
  ·replace d:=Eq.trans (Eq.symm (List.getElem?_set_ne p)) d;exact(I.st j b D k d).mono (λ_ _ e=>e) id λo e=>(hs.2 b ((λq=>by subst q;exact p (nB I.so.rn y k):b≠a))).trans e
theorem tu{B:Bs}{xs:List PyData}{vs:List Value}(r:aD B.prog B.w g vs xs):∀{a:List Str},o8 xs=some a->∃l:List (Str×Tok),vs=strValues l/\l.map (·.1)=a:=by
 induction r using aD.ind with
 |nil=>exact λh=>⟨[],rfl,Option.some.inj h⟩
 |@cons v x vs xs r c b=>
  intro a h;induction x using PyData.casesOn with
  |str i=>exact bM h λis h e=>(b h).elim λl hl=>r.eStr λt=>⟨(i,t)::l,congrArg (_::·) hl.1,(congrArg (_::·) hl.2).trans e⟩
  |_=>exact aN h
noncomputable def xI(x:Int):Value->Bool
 |.int y _=>y==x
 |_=>false
theorem ot{vs:List Value}{is:List Int}{x:Int}(r:IntsAre vs is):∀{i:Nat},is.findIdx? (λy=>y==x)=some i->∃h:i<vs.length,xI x vs[i]=true/\∀m(a:m<vs.length),m<i->xI x vs[m]=false:=by
 induction r with
 |nil=>exact λh=>aN h
 |cons y t r d=>
  intro i h;rw[List.findIdx?_cons]at h;by_cases e:(y==x)=true
  ·rw[if_pos e]at h;obtain rfl:=Option.some.inj h;exact⟨Nat.zero_lt_succ _,e,λm _ a=>absurd a (Nat.not_lt_zero _)⟩
  ·replace h:=Eq.trans (Eq.symm (if_neg e)) h;refine bM h λj f h=>?_;subst h;refine(d f).elim λk c=>⟨Nat.succ_lt_succ k,c.1,λm a b=>?_⟩;induction m using Nat.casesOn with
   |zero=>exact eq_false_of_ne_true e
   |succ m=>exact c.2 m (Nat.lt_of_succ_lt_succ a) (Nat.lt_of_succ_lt_succ b)
section
variable{vs:List Value}{es:List V}{v:V×List aA}{ov:Value}{o:V}
theorem sp{x:Str}{t:Tok}(I:aF F g ρ s σ)(h:(match es with
  |[a]=>(vS a).bind λy=>some (.d (.int (Txt.find x y)),σ.st)
  |[a,b,c]=>(vS a).bind λy=>(vI b).bind λj=>(vI c).bind λf=>(ig x y j f).bind λi=>some (.d (.int i),σ.st)
  |_=>none)=some v)(e:aM F.B g ρ es vs):wpAny (model F.B.prog F.B.w) A (call (.builtin "str.find") (.str x t::vs)) (aC F g ρ s (Rv F.B) (Is v.1 ⟨σ.env,v.2⟩)) E0 s:=by
 induction e using aM.casesOn with
 |nil=>exact aN h
 |cons r e=>
  induction e using aM.casesOn with
  |nil=>refine bS r h λy u h=>?_;obtain rfl:=Option.some.inj h;exact SC.find (dm I (.d (.int _ _)) ⟨rfl,rfl⟩ _)
  |cons k e=>
   induction e using aM.casesOn with
   |nil=>exact aN h
   |cons l e=>
    induction e using aM.casesOn with
    |nil=>refine bS r h λy u h=>bI k h λj m h=>bI l h λf p h=>bO h λi f h=>?_;cases h;refine bC f λq f=>?_;cases f;refine call_gives PySem.F.slot_str_find (typeIs_str _ _ _) PySem.F.entry_str_find (PySem.F.args_str_find_4 _ _ _ _) (qe _ _ _ _ _ _ _ _) (aB (dC (by lia)) ?_);refine aB (dC (by lia)) (aB (Nat.min_eq_left (by lia)) ?_);exact dm I (.d (.int _ _)) ⟨rfl,rfl⟩ _
    |cons _ _=>exact aN h
theorem qW{x:Str}{t:Tok}(I:aF F g ρ s σ)(h:(match es with
  |[a,b,c]=>(vS a).bind λy=>(vI b).bind λj=>(vI c).bind λf=>(fw x y j f).bind λi=>some (.d (.int i),σ.st)
  |_=>none)=some v)(e:aM F.B g ρ es vs):wpAny (model F.B.prog F.B.w) A (call (.builtin "str.rfind") (.str x t::vs)) (aC F g ρ s (Rv F.B) (Is v.1 ⟨σ.env,v.2⟩)) E0 s:=by
 induction e using aM.casesOn with
 |nil=>exact aN h
 |cons r e=>
  induction e using aM.casesOn with
  |nil=>exact aN h
  |cons k e=>
   induction e using aM.casesOn with
   |nil=>exact aN h
   |cons l e=>
    induction e using aM.casesOn with
    |nil=>refine bS r h λy u h=>bI k h λj m h=>bI l h λf p h=>bO h λi f h=>?_;cases h;refine bC f λq f=>?_;cases f;refine call_gives PySem.F.slot_str_rfind (typeIs_str _ _ _) PySem.F.entry_str_rfind (PySem.F.args_str_rfind_4 _ _ _ _) (oH _ _ _ _ _ _ _ _) (aB (dC (by lia)) ?_);refine aB (dC (by lia)) (aB (Nat.min_eq_left (by lia)) ?_);exact dm I (.d (.int _ _)) ⟨rfl,rfl⟩ _
    |cons _ _=>exact aN h
theorem sK{x:Str}{t:Tok}{a:V}{f:Value}(I:aF F g ρ s σ)(r:Rv F.B g ρ a f)(h:((fz a σ.st).bind λr=>match r.1 with
  |.list ds=>(o8 ds).bind λxs=>if JoinOk x xs=true then some (.d (.str (Txt.join x xs)),r.2)else none
  |_=>none)=some v):wpAny (model F.B.prog F.B.w) A (call (.builtin "str.join") [.str x t,f]) (aC F g ρ s (Rv F.B) (Is v.1 ⟨σ.env,v.2⟩)) E0 s:=by
 refine bO h λq j h=>?_;obtain⟨g',S,i,m⟩:=b5 _ I r j;obtain⟨z,B⟩:=q;cases m with
 |list e p=>refine bO h λxs u h=>bC h λb h=>?_;obtain rfl:=Option.some.inj h;refine aG λc=>?_;obtain⟨w,e1,y⟩:=tu p u;exact c (SC.join (l:=w) (texts:=xs) (by rw[<-e1,Array.toArray_toList];exact IsL.isList (i.so.sub _ _ e)) y b λC k=>aC.after S.pre S.nw S.st (dm i (.d (.str _ _)) ⟨rfl,rfl⟩ _))
 |_=>exact aN h
theorem oM{xs:List PyData}{x:Int}{t:Tok}(I:aF F g ρ s σ)(z:Rd F.B.prog F.B.w g ov (.list xs))(h:(if xs.length<=sizeLine then(eq xs).bind λis=>(is.findIdx? λy=>y==x).bind λi:Nat=>some (V.d (.int (i:Int)),σ.st)else none)=some v):
  wpAny (model F.B.prog F.B.w) A (call (.builtin "list.index") [ov,.int x t]) (aC F g ρ s (Rv F.B) (Is v.1 ⟨σ.env,v.2⟩)) E0 s:=by
 refine bC h λhl h=>bO h λis B h=>bO h λi C h=>?_;obtain rfl:=Option.some.inj h;obtain⟨l,f,m,r,u⟩:=z.isL I.so.sub;obtain⟨w,D⟩:=cH u B;refine aG λp=>?_;obtain⟨a,b,q⟩:=ot w C;refine p ?_;have hsz:=u.length;refine call_meets PySem.F.slot_list_index ⟨_,r,rfl⟩ PySem.F.entry_list_index (PySem.F.args_list_index_2 _ _) (SeqAt.list_indexAt l f m none #[] _ (xI x) i (by simpa using a) (by have:=gh hl;have:=a;rw[Array.length_toList]at this;have:sizeLine=2^24:=rfl;lia) (by simpa using b) (λk E c=>by have:=q k (by simpa using E) c;rw[Array.getElem_toList]at this;exact this)) ⟨r,λy H=>?_,dm I (.d (.int _ _)) ⟨rfl,rfl⟩ _⟩;refine aK (List.getElem_of_mem (Array.mem_toList_iff.mpr H)) λj e=>?_;have J:=e.1;refine bd (w.at j y (by rw[List.getElem?_eq_getElem J,(e.2)])) λk t e=>?_;exact cx e λK _=>K▸(SeqAt.EqAt.int_int _ _ _ _)
theorem ls{ks:List Str}{ds:List PyData}{b:List Value}{a:Addr}{k:Str}{c:Tok}{d:PyData}{e:Value}(I:aF F g ρ s σ)(hs:(a==sysModules)=false)(hl:ks.length=b.length)(f:s.heap.DictOf (PySem.strKind F.B.prog F.B.w) a (ks.zip b))(h:aD F.B.prog F.B.w g b ds)(j:Rd F.B.prog F.B.w g e d):
  wpAny (model F.B.prog F.B.w) A (call (.builtin "dict.get") [.ref a,.str k c,e]) (aC F g ρ s (Rv F.B) (Is (.d ((cQ ks ds k).getD d)) σ)) E0 s:=by
 refine call_meetsIn PySem.F.slot_dict_get f.mapOf.typeIs PySem.F.entry_dict_get (PySem.F.args_dict_get_3 _ _ _) (meets_dict_get_default (PySem.strKind F.B.prog F.B.w) _ (jO (.str (g:=g) k c)) hs _) ⟨_,f.mapOf,?_⟩;refine dm I ?_ ⟨rfl,rfl⟩ _;cases i:cQ ks ds _ with
 |none=>rw[jm ks b ds hl h.length _ i];exact .d j
 |some d=>obtain⟨v,l,m⟩:=eb ks b ds hl h _ d i;rw[l];exact .d m
theorem vt(I:aF F g ρ s σ)(c:Rv F.B g ρ o ov)(a:aM F.B g ρ es vs)(h:d7 σ.st .get o es=some v):
  wpAny (model F.B.prog F.B.w) A (call (.builtin "dict.get") (ov::vs)) (aC F g ρ s (Rv F.B) (Is v.1 ⟨σ.env,v.2⟩)) E0 s:=by
 induction a using aM.casesOn with
 |nil=>exact aN h
 |cons r a=>
  induction a using aM.casesOn with
  |nil=>exact aN h
  |cons b a=>
   induction a using aM.casesOn with
   |nil=>
    refine bS r h λk u h=>bX b h λd b h=>?_;induction c using Rv.casesOn with
    |ref f=>refine mD h λks ds hc h=>aG λe=>?_;obtain rfl:=Option.some.inj h;obtain⟨q,hs,t,hl,i,a⟩:=I.st _ _ _ f ((bn _ _).symm.trans hc);exact e (ls I hs hl i a b)
    |d c=>
     induction c using Rd.casesOn with
     |dict e1 j l m p=>obtain rfl:=Option.some.inj h;rw[ib];exact ls I m l (Heap.dictOf_iff.mpr ⟨_,I.so.sub _ _ e1,j⟩) p b
     |_=>exact aN h
    |_=>exact aN h
   |cons _ _=>exact aN h
theorem nR{i:Nat}{a:V}{l:Addr}{f:Value}(I:aF F g ρ s σ)(j:ρ[i]?=some l)(r:Rv F.B g ρ a f)(h:((fz a σ.st).bind λq=>match aI q.2 i with
   |some (.list xs)=>if xs.length<=sizeLine then some (.d .none,aT q.2 i (.list (xs++[q.1])))else none
   |_=>none)=some v):
  wpAny (model F.B.prog F.B.w) A (call (.builtin "list.append") [.ref l,f]) (aC F g ρ s (Rv F.B) (Is v.1 ⟨σ.env,v.2⟩)) E0 s:=by
 refine bO h λq w h=>mL h λxs hc h=>bC h λhl h=>?_;obtain rfl:=Option.some.inj h;refine aG λb=>aK (b5 _ I r w) λg' x=>eY x λS k y=>?_;obtain⟨p,z,m,B,u⟩:=k.st _ _ _ j ((bn _ _).symm.trans hc);refine b ?_;have hsz:=u.length;simp only[Array.length_toList]at hsz;refine wpAny_list_append_plain (Q:=_) ⟨m,B⟩ (λh' c hs=>?_) (by rw[hsz];exact hl);exact aG λb=>aK c λC c=>cx (k.turn (t:=s.toks) j hc p hs (c':=.list (xs++[q.1])) ⟨p,_,C,c,by rw[Array.toList_push];exact u.append (.cons y .nil)⟩) λe D=>b (aC.after S.pre S.nw S.st (aC.after e.pre e.nw e.st (aC.is D (.d .none))))
theorem vO{m:Me}(q:Ok n A)(I:aF F g ρ s σ)(b:Rv F.B g ρ o ov)(c:aM F.B g ρ es vs)(h:d7 σ.st m o es=some v):
  wpAny (model F.B.prog F.B.w) A (call (.builtin (CQ m o)) (ov::vs)) (aC F g ρ s (Rv F.B) (Is v.1 ⟨σ.env,v.2⟩)) E0 s:=by
 induction m using Me.casesOn with
 |find=>refine bS b h λx t h=>?_;exact sp I h c
 |rfind=>refine bS b h λx t h=>?_;exact qW I h c
 |startswith=>refine bS b h λx t h=>?_;refine bE c h λa f r h=>?_;refine bS r h λy u h=>?_;obtain rfl:=Option.some.inj h;exact SC.startswith (aC.is I (.d (.bool _)))
 |endswith=>refine bS b h λx t h=>?_;refine bE c h λa f r h=>?_;refine bS r h λy u h=>?_;obtain rfl:=Option.some.inj h;exact SC.endswith (aC.is I (.d (.bool _)))
 |join=>refine bS b h λx t h=>?_;refine bE c h λa f r h=>?_;exact sK I r h
 |index=>
  induction b using Rv.casesOn with
  |d b=>
   induction b using Rd.casesOn with
   |str x t=>
    refine bE c h λa f r h=>bS r h λy u h=>?_;cases j:occurrences x y 0 x.length 1 with
    |nil=>rw[j]at h;exact aN h
    |cons i l=>rw[j]at h;obtain rfl:=Option.some.inj h;exact SC.index j (dm I (.d (.int _ _)) ⟨rfl,rfl⟩ _)
   |list e k=>refine bE c h λa f r h=>?_;refine bI r h λy u h=>?_;exact oM I (.list e k) h
   |_=>exact aN h
  |_=>exact aN h
 |get=>exact vt I b c h
 |append=>
  induction b using Rv.casesOn with
  |ref p=>refine bE c h λa f r h=>?_;exact nR I p r h
  |_=>exact aN h
end
end
end Mine
end
noncomputable section
open PySem PySem.Calls PySem.Spec PySem.W PyProof.Rows Builtin.Str
set_option maxRecDepth 100000
namespace Mine
section
variable{prog:Program}{w:World}{M:Model}{A:Around}{E:Value->Shared->Prop}{s:Shared}
theorem Fa{d:Sem Bool}{e:Sem (Option Str)}{g:Sem Bool}{f:Bool->Option Str->Bool->Sem PySem.Fin}{it:Bool}{o:Option Str}{Q:PySem.Fin->Shared->Prop}(i:∀{Q:Bool->Shared->Prop},Q it s->wpAny M A d Q E s)(j:∀{Q:Option Str->Shared->Prop},Q o s->wpAny M A e Q E s)(k:∀{Q:Bool->Shared->Prop},(∀b,Q b s)->wpAny M A g Q E s)(h:∀c,wpAny M A (f it o c) Q E s):wpAny M A (d>>=λa=>e>>=λb=>g>>=λc=>f a b c) Q E s:=
 wpAny_bind (i (wpAny_bind (j (wpAny_bind (k h)))))
theorem lp{a:Type}{n:Nat}{b:a}{F:Nat->a->Sem (ForInStep a)}{K:a->Sem PySem.Fin}{Q:PySem.Fin->Shared->Prop}(h:wpAny M A (forIn (List.range' 0 n 1) b F) (λr s'=>wpAny M A (K r) Q E s') E s):wpAny M A (forIn [:n] b F>>=K) Q E s:=
 wpAny_bind (KPc.range_list n b F▸h)
noncomputable abbrev zk:=List Value×Writer×List Nat
noncomputable def ap(F:Nat->zk->Sem (ForInStep zk))(x:Nat)(p:List Value)(a:Writer)(r:List Nat):Sem (ForInStep zk):=F x (p,a,r)
noncomputable def ck(a:Writer)(t:Sem (ForInStep zk)):Sem (ForInStep zk):=if tooLong a.total=true then .unsupported "str.__mod__:memory"else t
section
variable{F:Nat->zk->Sem (ForInStep zk)}{x N:Nat}{p p':List Value}{wr wr':Writer}{r r' l:List Nat}{T:Str}{Q:zk->Shared->Prop}
theorem BM(g:KPc.Good wr T N)(hN:N<=16777216)(e:ck wr (pure (.yield (p',wr',r')))=ap F x p wr r)(h:wpAny M A (forIn l (p',wr',r') F) Q E s):wpAny M A (forIn (x::l) (p,wr,r) F) Q E s:=by refine KPc.turn ?_;change wpAny M A (ap F x p wr r) _ E s;exact e▸wpAny_ite (KPc.ite_no (KPc.short_good g hN) (wpAny_pure h))
theorem HJ(g:KPc.Good wr T N)(hN:N<=16777216)(e:ck wr (pure (.done (p,wr,r)))=ap F x p wr r)(h:Q (p,wr,r) s):wpAny M A (forIn (x::l) (p,wr,r) F) Q E s:=by refine KPc.turn ?_;change wpAny M A (ap F x p wr r) _ E s;exact e▸wpAny_ite (KPc.ite_no (KPc.short_good g hN) (wpAny_pure h))
theorem H9{n:Int}{u:Tok}{c:Percent}{C:Value->Sem (List Nat×Option Value×Bool)}{D:List Nat×Option Value×Bool->Sem (ForInStep zk)}(g:KPc.Good wr T N)(hN:N<=16777216)(f:0<=n)(i:n<10^10)(e:ck wr (holding [.int n u] (mkInt n.natAbs>>=λz=>call (.builtin "int.__repr__") [z]>>=C)>>=D)=ap F x p wr r)(hc:c.alt=false/\(c.type=100\/c.type=105\/c.type=117)/\c.prec=none)(j:∀d t,pure (percentInt c (decide (n<0)) d.cps.toList,none,true)=C (.str d t))(m:∀l,pure (.yield (p',wr.add ⟨l.toArray⟩ none,r'))=D (l,none,true))(h:∀k a,KPc.Good a (T++Str.ofString (toString n)) (N+10)->wpAny (model prog w) A (forIn l (p',a,r') F) Q E {s with toks:=k}):wpAny (model prog w) A (forIn (x::l) (p,wr,r) F) Q E s:=by refine KPc.turn ?_;change wpAny _ A (ap F x p wr r) _ E s;have b:n.natAbs.log2<1920:=shown (N:=2^1920) (by omega) (by omega) (Int.le_refl _);refine e▸wpAny_ite (KPc.ite_no (KPc.short_good g hN) (wpAny_bind (wpAny_holding (wpAny_bind (wpAny_mkInt (wpAny_bind (call_gives PySem.F.slot_int_repr (typeIs_int _ _ _) PySem.F.entry_int_repr (PySem.F.args_int_repr_1 _) (gives_int_repr _ _ (KPt.hd2 b)) ⟨int_text_fits (KPt.hd2 b),?_⟩)))))));refine wpAny_of_eq (j _ _).symm (wpAny_of_eq (m _).symm ?_);exact KPc.after_int g hc.1 hc.2.1 hc.2.2 f i rfl rfl λa o=>h _ a o
end
theorem gL{a:Writer}{T:Str}{N:Nat}(x:Str)(g:KPc.Good a T N):KPc.Good (a.add x none) (T++x) (N+x.length):=KPc.good_add g (KPc.obj_none rfl)
theorem gS{a:Writer}{T y:Str}{N K:Nat}(g:KPc.Good a T N)(b:y.length<=K):KPc.Good (a.add ⟨y.cps.toList.toArray⟩ none) (T++y) (N+K):=by have c:(⟨y.cps.toList.toArray⟩:Str)=y:=congrArg Str.mk (Array.toArray_toList ..);rw[c];exact KPc.good_mono (KPc.good_add g (KPc.obj_none rfl)) (Nat.add_le_add_left b _)
theorem B3{y:Str}{t u:Tok}{Q:Value->Shared->Prop}(f:y.length<=1000000)(h:∀g k,Q (.str (("{":Str)++y++("}":Str)) g) {s with toks:=k}):wpAny (model prog w) A (binaryOp .Mod (.str "{%s}" t) (.str y u)) Q E s:=by
 refine' KPc.mod_str (T:=λy=>("{":Str)++y++("}":Str)) (X':=⟨#[123,37,115,125]⟩) (by decide+kernel) f (λz i=>KPc.meets_of λ_ _ _ _ _ _ j=>?_) h
 refine aB (KPc.entry_is_s _ _ _ _) (Fa (λh=>wpAny_isInstance (typeIs_str _ _ _) F.sub_str_tuple h) (λh=>wpAny_of_eq (a:=some _) rfl h) (λh=>KPc.wp_fills_str h) λc=>?_);have b:=gL "{" KPc.good0;have d:=gS b i;have e:=gL "}" d;refine lp (BM (x:=0) (l:=[1,2,3]) KPc.good0 (by decide+kernel) (p':=[.str z u]) (wr':=Writer.add {} "{" none) (r':=[37,115,125]) (by kernel_rfl) ?_);refine BM b (by decide+kernel) (p':=[]) (wr':=Writer.add (Writer.add {} "{" none) ⟨z.cps.toList.toArray⟩ none) (r':=[125]) (by kernel_rfl) (BM d (by decide+kernel) (p':=[]) (wr':=Writer.add (Writer.add (Writer.add {} "{" none) ⟨z.cps.toList.toArray⟩ none) "}" none) (r':=[]) (by kernel_rfl) ?_);exact HJ e (by decide+kernel) (by kernel_rfl) (KPc.finish_ok e (by decide+kernel) (by rw[KPc.empty_app]) j)
theorem r7(b:Addr):({}:Heap).get? b=none:=by
 cases q:({}:Heap).get? b with
 |none=>rfl
 |some o=>exact absurd (Heap.lt_size q) (Nat.not_lt_zero _)
theorem Cd{a:Addr}{x y:Str}{i:Int}{t u v k:Tok}{n:Nat}{Q:Value->Shared->Prop}(B:s.heap.get? a=some {cls:=.type "tuple",data:=.seq #[.str x t,.int i u,.str y v] n})(C:x.length<=100000)(D:y.length<=100000)(F:0<=i)(G:i<10^10)(h:∀d k,Q (.str (x++(":":Str)++Str.ofString (toString i)++("(":Str)++y++(")":Str)) d) {s with toks:=k}):wpAny (model prog w) A (binaryOp .Mod (.str "%s:%d(%s)" k) (.ref a)) Q E s:=by
 have N:News {} (a+1) s.heap [(a,{cls:=.type "tuple",data:=.seq #[.str x t,.int i u,.str y v] n})]:=λp H=>by cases List.mem_singleton.mp H;exact⟨B,Nat.ne_of_lt (Nat.lt_succ_self _),r7 _⟩
 refine' KPt.mod_tuple (X':=⟨#[37,115,58,37,100,40,37,115,41]⟩) (T:=x++(":":Str)++Str.ofString (toString i)++("(":Str)++y++(")":Str)) N (.head _) (by decide+kernel) (KPt.meets_tup λ_ _ A s Q E I J=>?_) h
 obtain⟨o,b,f,_,g⟩:=I;refine aB (KPt.entry_is_r _ _ _) (Fa (λh=>wpAny_isInstance (T:="tuple") ⟨o,b,f⟩ KPt.sub_tt h) (λh=>KPt.asStr_ref b g h) (λh=>KPt.fills_ref ⟨o,b,f⟩ h) λc=>?_);refine wpAny_bind (wpAny_seqItems b g ?_);refine lp ?_;have j:=gS KPc.good0 C;have K:=gL ":" j;refine BM (x:=0) (l:=[1,2,3,4,5,6,7,8]) KPc.good0 (by decide+kernel) (p':=[.int i u,.str y v]) (wr':=Writer.add {} ⟨x.cps.toList.toArray⟩ none) (r':=[58,37,100,40,37,115,41]) (by kernel_rfl) (BM j (by decide+kernel) (p':=[.int i u,.str y v]) (wr':=Writer.add (Writer.add {} ⟨x.cps.toList.toArray⟩ none) ":" none) (r':=[37,100,40,37,115,41]) (by kernel_rfl) ?_);refine H9 K (by decide+kernel) F G (p':=[.str y v]) (r':=[40,37,115,41]) (n:=i) (u:=u) (c:={type:=100}) (by rfl) ⟨rfl,.inl rfl,rfl⟩ (λ_ _=>by kernel_rfl) (λ_=>by kernel_rfl) λL e m=>?_;have q:=gL "(" m;have r:=gS q D;have z:=gL ")" r;refine BM m (by decide+kernel) (p':=[.str y v]) (wr':=Writer.add e "(" none) (r':=[37,115,41]) (by kernel_rfl) (BM q (by decide+kernel) (p':=[]) (wr':=Writer.add (Writer.add e "(" none) ⟨y.cps.toList.toArray⟩ none) (r':=[41]) (by kernel_rfl) ?_);refine BM r (by decide+kernel) (p':=[]) (wr':=Writer.add (Writer.add (Writer.add e "(" none) ⟨y.cps.toList.toArray⟩ none) ")" none) (r':=[]) (by kernel_rfl) (HJ z (by decide+kernel) (by kernel_rfl) ?_);exact KPc.finish_ok z (by decide+kernel) (by rw[KPc.empty_app]) λd k=>J d k
end
end Mine
end
noncomputable section
open PySem PySem.Calls PySem.Spec PySem.W PyProof.Rows Builtin.Str
namespace Mine
theorem iU(k:Str)(ks:List Str):cg (k::ks) k=k::ks:=by simp[cg]
theorem iV{k a:Str}(h:a≠k)(ks:List Str):cg (a::ks) k=a::cg ks k:=by simp only[cg,List.contains_cons,((by simpa using λq=>h q.symm:(k==a)=false)),Bool.false_or];split<;>rfl
theorem fX{a:Type}(ks:List Str):∀(vs:List a)(k:Str)(v:a),ks.length=vs.length->(cA ks vs k v).length=(cg ks k).length:=by
 induction ks with
 |nil=>
  intro vs k v h;induction vs using List.casesOn with
  |nil=>rfl
  |cons _ _=>exact nomatch h
 |cons b ks c=>
  intro vs k v h;induction vs using List.casesOn with
  |nil=>exact nomatch h
  |cons w vs=>
   show(if b=k then v::vs else w::cA ks vs k v).length=_;by_cases e:b=k
   ·subst e;refine aB (if_pos rfl) ?_;rw[iU];exact h.symm
   ·refine aB (if_neg e) ?_;rw[iV e];exact congrArg (·+1) (c vs k v (Nat.succ.inj h))
theorem mh{k a:Str}{w v:Value}{r:List (Str×Value)}(h:a≠k):stored ((a,w)::r) k v=(a,w)::stored r k v:=by unfold stored;refine aB (List.any_cons) (aB (List.map_cons) ?_);refine aB (decide_eq_false h) ?_;rw[Bool.false_or];refine aB (if_neg h) ?_;split<;>rfl
theorem mf{k:Str}{w v:Value}{r:List (Str×Value)}(h:∀kv∈r,kv.1≠k):stored ((k,w)::r) k v=(k,v)::r:=by
 unfold stored;refine aB (List.any_cons) (aB (List.map_cons) ?_);simp only[decide_true,Bool.true_or,if_true]
 congr 1
 refine Eq.trans ((List.map_congr_left λkv a=>by rw[if_neg (h kv a)];rfl:r.map (λkv=>if kv.1=k then(kv.1,v)else kv)=r.map id)) ?_;rw[List.map_id]
theorem ir(ks:List Str):∀(vs:List Value)(k:Str)(v:Value),ks.length=vs.length->ks.Nodup->stored (ks.zip vs) k v=(cg ks k).zip (cA ks vs k v):=by
 induction ks with
 |nil=>
  intro vs k v h _;induction vs using List.casesOn with
  |nil=>rfl
  |cons _ _=>exact nomatch h
 |cons c ks g=>
  intro vs k v h d;induction vs using List.casesOn with
  |nil=>exact nomatch h
  |cons w vs=>
   rw[List.nodup_cons]at d;show stored ((c,w)::ks.zip vs) k v=(cg (c::ks) k).zip (if c=k then v::vs else w::cA ks vs k v);by_cases e:c=k
   ·subst e;refine aB (if_pos rfl) ?_;rw[iU];exact aB (List.zip_cons_cons) (mf (k:=c) λkv f q=>d.1 (by have:=(List.of_mem_zip (a:=kv.1) (b:=kv.2) f).1;rwa [q]at this))
   ·refine aB (if_neg e) ?_;simp only[iV e,List.zip_cons_cons];exact Eq.trans (mh e) (aB (g vs k v (Nat.succ.inj h) d.2) rfl)
theorem n9{prog:Program}{w:World}{g:G}{v:Value}{d:PyData}(r:Rd prog w g v d)(ks:List Str):∀(vs:List Value)(ds:List PyData)(k:Str),ks.length=vs.length->aD prog w g vs ds->aD prog w g (cA ks vs k v) (cA ks ds k d):=by
 induction ks with
 |nil=>
  intro vs ds k h c;induction c using aD.casesOn with
  |nil=>exact .cons r .nil
  |cons _ _=>exact nomatch h
 |cons f ks i=>
  intro vs ds k h c;induction c using aD.casesOn with
  |nil=>exact nomatch h
  |cons a b=>
   show aD prog w g (if f=k then _ else _) (if f=k then _ else _);by_cases e:f=k
   ·refine aB (if_pos e) (aB (if_pos e) ?_);exact .cons r b
   ·refine aB (if_neg e) (aB (if_neg e) ?_);exact .cons a (i _ _ k (Nat.succ.inj h) b)
section
variable{F:Fx}{g g':G}{ρ ρ':List Addr}{s s':Shared}{σ σ':bo}{A:Around}{n:Nat}
theorem iJ{prog:Program}{w:World}{h:Heap}{a:Addr}{ks:List Str}{vs:List Value}(c:h.DictOf (PySem.strKind prog w) a (ks.zip vs))(hl:ks.length=vs.length):ks.Nodup:=by
 refine cU c λo es ep d=>Gf d λ_ _ _ _ _ b=>?_;have e:(ks.zip vs).map (·.1)=ks:=by rw[List.map_fst_zip];lia
 rw[e]at b;exact b
theorem hE{prog:Program}{w:World}{E:Value->Shared->Prop}{l:Addr}{items:Array Value}{n:Nat}{k:Int}{t:Tok}{v:Value}{Q:Unit->Shared->Prop}(hl:IsL s.heap l items n)(b:0<=k)(a:k<2^63)(e:k<items.size)(c:∀h' d,IsL h' l (items.setIfInBounds k.toNat v) d->Heap.SameBut l s.heap h'->Q () {s with heap:=h'}):
  wpAny (model prog w) A (setItem (.ref l) (.int k t) v) Q E s:=by
 unfold setItem
 try with_reducible refine wpAny_holding ?_
 first|refine wpAny_bind (wpAny_pure ?_)|skip
 refine wpAny_bind (wpAny_sequenceKey hl.isList.typeIs rfl ?_);refine wpAny_bind (wpAny_callSpecial?_slot (name:=Str.ofString "__setitem__") hl.isList.typeIs PySem.slot_list_setitem
  (wpAny_call_entry PySem.slot_list_setitem hl.isList.typeIs PySem.entry_list_setitem ?_ (PySem.args_list_setitem _ _ _)))
 show wpAny _ _ (Builtin.List.listSubscript? (.int k t)>>=_) _ _ s;refine wpAny_bind (wpAny_listSubscript_int (fitsIndex_of b a) ?_);clear a;obtain⟨j,rfl⟩:=Int.eq_ofNat_of_zero_le b;refine wpAny_bind (wpAny_bind (wpAny_seqItemAt hl rfl (wpAny_pure ?_)));refine aB (Array.getElem?_eq_getElem ((by lia:j<items.size))) ?_;refine wpAny_bind (wpAny_setSeqItemAt hl rfl ?_);first
  |exact wpAny_bind (wpAny_pure (wpAny_pure ⟨.none,rfl,wpAny_pure (c _ _ (hl.update _) (Heap.SameBut.update ..))⟩))
  |exact wpAny_pure ⟨.none,rfl,wpAny_pure (c _ _ (hl.update _) (Heap.SameBut.update ..))⟩
theorem me{b i:V}{u v c:Value}{x:PyData}{e:List aA}(I:aF F g ρ s σ)(B:Rv F.B g ρ b u)(p:Rv F.B g ρ i v)(w:Rd F.B.prog F.B.w g c x)(h:je σ.st b i x=some e):
  wpAny (model F.B.prog F.B.w) A (setItem u v c) (aC F g ρ s (λ_ _ _ _=>True) (Is () ⟨σ.env,e⟩)) E0 s:=by
 induction B using Rv.casesOn with
 |ref j=>
  induction p using Rv.casesOn with
  |d p=>
   induction p using Rd.casesOn with
   |int k t=>refine mL h λxs hc h=>bC h λy h=>?_;obtain rfl:=Option.some.inj h;refine aG λa=>?_;obtain⟨f,C,m,D,l⟩:=I.st _ _ _ j ((bn _ _).symm.trans hc);refine a ?_;have hsz:=l.length;simp only[Array.length_toList]at hsz;have E:sizeLine=2^24:=rfl;refine hE (n:=m) D y.1 (by lia) (by lia) λh' H o hs=>?_;have T:=I.turn (t:=s.toks) j hc f hs (c':=.list (xs.set k.toNat x)) ⟨f,_,H,o,by rw[Array.toList_setIfInBounds];exact l.set w _⟩;exact aC.after T.1.pre T.1.nw T.1.st (aC.is T.2 trivial)
   |str k t=>refine mD h λks ds hc h=>bC h λy h=>?_;obtain rfl:=Option.some.inj h;refine aG λa=>?_;obtain⟨f,q,vs,hl,z,l⟩:=I.st _ _ _ j ((bn _ _).symm.trans hc);refine a (wpAny_setItem_pairs (jO (Rd.str (g:=g) k t)) z (λh' o hs=>?_) (by rw[List.length_zip];lia));simp only[ir ks vs k c hl (iJ z hl)]at o;exact cx (I.turn (t:=s.toks+1) j hc f hs (c':=.dict (cg ks k) (cA ks ds k x)) ⟨f,q,cA ks vs k c,(fX ks vs k c hl).symm,o,n9 w ks vs ds k hl l⟩) λr J=>aC.after r.pre r.nw r.st (aC.is J trivial)
   |_=>exact aN h
  |_=>exact aN h
 |_=>exact aN h
theorem u3{r:Nat}{k:Int}{f h:Value}{xs:List PyData}{j:Nat}(I:aF F g ρ s σ)(p:Rv F.B g ρ (.ref r) f)(b:Rv F.B g ρ (.d (.int k)) h)(hc:aI σ.st r=some (.list xs))(q:-1<=k/\k<=0/\xs.length<=sizeLine)(u:seqIndex? k xs.length=some j):
  wpAny (model F.B.prog F.B.w) A (delItem f h) (aC F g ρ s (λ_ _ _ _=>True) (Is () ⟨σ.env,aT σ.st r (.list (xs.eraseIdx j))⟩)) E0 s:=by
 cases p with
 |ref i=>
  cases b with
  |d b=>
   cases b with
   |int k t=>
    obtain⟨l,a,m,v,o⟩:=I.st _ _ _ i ((bn _ _).symm.trans hc);have hsz:=o.length;simp only[Array.length_toList]at hsz;refine wpAny_delItem_plain ⟨m,v⟩ (by unfold Builtin.List.listFitsIndex;simp;lia) (by rw[hsz];exact u) (λh' c hs=>?_) (by rw[hsz];exact q.2.2);refine aK c λw c=>?_;obtain⟨e,x⟩:=I.turn (t:=s.toks) i hc l hs (c':=.list (xs.eraseIdx j)) ⟨l,_,w,c,by
     rw[((by simp:(a.eraseIdxIfInBounds j).toList=a.toList.eraseIdx j))];exact o.eraseIdx j⟩
    exact aC.after e.pre e.nw e.st (aC.is x trivial)
end
section
variable{F:Fx}{g g':G}{ρ ρ':List Addr}{s s':Shared}{σ σ':bo}{A:Around}{n:Nat}
theorem aF.cell(I:aF F g ρ s σ){a:Addr}{c:aA}(u:s.heap.get? a=none)(z:∀b o,s.heap.get? b=some o->s'.heap.get? b=some o)(w:s'.os=s.os)(l:s'.gens=s.gens)(hc:d4 F.B g s'.heap a c):
  bw F g ρ s g (ρ++[a]) s'/\aF F g (ρ++[a]) s' ⟨σ.env,σ.st++[c]⟩:=by
 have d:aF F g ρ s' σ:=I.grow (St.kept' z w l) λb o e=>z b o (I.so.sub b o e);have H:a∉ρ:=λr=>I.so.rlt a r u;have J:a∉F.own:=λr=>I.so.olt a r u;have K:F.B.h₀.get? a=none:=by
  cases q:F.B.h₀.get? a with
  |none=>rfl
  |some o=>obtain⟨L,k⟩:=I.old.there a o q;rw[u]at k;exact aN k
 have p:ρ<+:ρ++[a]:=List.prefix_append _ _;obtain⟨L,k⟩:=hc.there d.so.sub;refine⟨⟨p,λx t=>?_,((St.kept' z w l:St F.B (F.own++ρ) g g s s'))⟩,⟨⟨d.so.sub,d.so.base,d.so.gno,λb f r=>?_,λb f=>?_,d.so.ohi,d.so.lown,d.so.lhi,λx t=>⟨(d.so.chi x t).1,(d.so.chi x t).2.1,(d.so.chi x t).2.2.1,λr=>?_⟩,d.so.cap,?_,d.so.olt,λb f=>?_,d.so.clt⟩,
  d.old,d.bare,d.tab,⟨d.fr.len,?_,?_⟩,by simp[d.stl],λi b c' f j=>?_⟩⟩
 ·rcases List.mem_append.mp t with h|h
  ·exact .inl h
  ·cases List.mem_singleton.mp h;exact .inr u
 ·rcases List.mem_append.mp r with h|h
  ·exact d.so.rno b f h
  ·cases List.mem_singleton.mp h;exact J f
 ·rcases List.mem_append.mp f with h|h
  ·exact d.so.rhi b h
  ·cases List.mem_singleton.mp h;exact K
 ·rcases List.mem_append.mp r with h|h
  ·exact(d.so.chi x t).2.2.2 h
  ·have:=I.so.clt x t;replace this:=(List.mem_singleton.mp h)▸this;exact this u
 ·rw[List.nodup_append];exact⟨d.so.rn,by simp,λb f c hc q=>by cases List.mem_singleton.mp hc;exact H (q▸f)⟩
 ·rcases List.mem_append.mp f with h|h
  ·exact d.so.rlt b h
  ·cases List.mem_singleton.mp h;rw[k];exact λq=>(iu q)
 ·refine aK (d.fr.loc) λm y=>?_;have M:=y.2;exact⟨m,(y.1),λi x b v B C=>(M i x b v B C).mono (λ_ _ e=>e) p⟩
 ·intro i x b v B C;exact aG λD=>bd (d.fr.cel i x b v B C) λc N y=>ko y λe1 O P Q=>D (j7 c N ⟨e1,O,P.mono (λ_ _ e=>e) p,Q⟩)
 ·dsimp only at j
  rcases Nat.lt_or_ge i ρ.length with h|h
  ·replace f:=Eq.trans (Eq.symm (List.getElem?_append_left h)) f;rw[List.getElem?_append_left (by rw[<-d.stl];exact h)]at j;exact d.st i b c' f j
  ·rw[List.getElem?_append_right h]at f;rw[List.getElem?_append_right (by rw[<-d.stl];exact h)]at j;have E:i -ρ.length=0:=by have:=(List.getElem?_eq_some_iff.mp f).1;simp at this;lia
   rw[E]at f;rw[<-d.stl,E]at j;simp at f j;subst f;subst j;exact hc
theorem ut{a:Addr}{c:aA}(I:aF F g ρ s σ)(f:s.heap.get? a=none)(h:∀b o,s.heap.get? b=some o->s'.heap.get? b=some o)(e:s'.os=s.os)(d:s'.gens=s.gens)(hc:d4 F.B g s'.heap a c):
  aC F g ρ s (Rv F.B) (Is (.ref σ.st.length) ⟨σ.env,σ.st++[c]⟩) (.ref a) s':=by
 exact cx (I.cell f h e d hc) λS i=>aC.iff.mpr ⟨g,_,_,_,S,i,.ref (by rw[<-I.stl];simp),rfl,rfl⟩
theorem aF.none_g(I:aF F g ρ s σ){a:Addr}(b:s.heap.get? a=none):g a=none:=by
 cases q:g a with
 |none=>rfl
 |some o=>rw[I.so.sub a o q]at b;exact iu b
theorem ss{f:Str}{a v:V}{b:Value}{t:Tok}(I:aF F g ρ s σ)(e:Rv F.B g ρ a b)(h:p7 f a=some v):wpAny (model F.B.prog F.B.w) A (binaryOp .Mod (.str f t) b) (aC F g ρ s (Rv F.B) (Is v σ)) E0 s:=by exact bS e h λx u h=>bC h λc h=>aB (c.1) (B3 c.2 λi k=>dm I (.d (.str _ _)) ⟨Option.some.inj h,rfl⟩ _)
theorem uu{x:PyData}{y:Str}(h:pS x=some y):x=.str y:=by
 induction x using PyData.casesOn with
 |str z=>exact congrArg _ (Option.some.inj h)
 |_=>exact aN h
theorem oZ{x:PyData}{y:Int}(h:pI x=some y):x=.int y:=by
 induction x using PyData.casesOn with
 |int z=>exact congrArg _ (Option.some.inj h)
 |_=>exact aN h
theorem tv{e:Type}{l:List e}{q:e×e×e}(h:BL l=some q):l=[q.1,q.2.1,q.2.2]:=by
 induction l using List.casesOn with
 |nil=>exact aN h
 |cons a l=>induction l using List.casesOn with
  |nil=>exact aN h
  |cons b l=>induction l using List.casesOn with
   |nil=>exact aN h
   |cons c l=>induction l using List.casesOn with
    |nil=>exact(Option.some.inj h)▸rfl
    |cons d l=>exact aN h
theorem su{f:Str}{a v:V}{w:Value}{t:Tok}(I:aF F g ρ s σ)(j:Rv F.B g ρ a w)(h:nh f a=some v):wpAny (model F.B.prog F.B.w) A (binaryOp .Mod (.str f t) w) (aC F g ρ s (Rv F.B) (Is v σ)) E0 s:=by refine bT j h λxs j h=>bO h λq e h=>bO h λx e1 h=>bO h λi z h=>bO h λy B h=>bC h λo h=>?_;simp only[tv e,uu e1,oZ z]at j;replace j:=(uu B)▸j;refine aB (o.1) (aG λp=>?_);obtain⟨b,r,m,u,c⟩:=j.isT I.so.sub;obtain⟨l⟩:=r;change aD _ _ _ l _ at c;refine p ?_;revert u;refine c.eCons λH _ C c=>c.eCons λJ _ D c=>c.eCons λK _ E c=>c.eNil (C.eStr λ_=>?_);exact D.eInt λ_=>E.eStr λ_=>λu=>Cd u o.2.1 o.2.2.1 o.2.2.2.1 o.2.2.2.2 λL k=>dm I (.d (.str _ _)) ⟨Option.some.inj h,rfl⟩ _
theorem qp{x:PyData}{b:Bool}{c:Value}(I:aF F g ρ s σ)(e:Rd F.B.prog F.B.w g c x)(h:FX x=some b):
  wpAny (model F.B.prog F.B.w) A (call (.builtin "isinstance") [c,.type "tuple"]) (aC F g ρ s (Rv F.B) (Is (.d (.bool b)) σ)) E0 s:=by
 induction x using PyData.casesOn with
 |tuple xs=>obtain rfl:=Option.some.inj h;obtain⟨a,f,m,j,k⟩:=e.isT I.so.sub;exact IsiPair.tuple_tuple j rfl (aC.is I (.d (.bool _)))
 |int i=>obtain rfl:=Option.some.inj h;exact e.eInt λ_=>IsiPair.int_tuple (dm I (.d (.bool _)) ⟨rfl,rfl⟩ _)
 |_=>exact aN h
theorem ux{prog:Program}{w:World}{g:G}:∀(l:List (Str×Tok)),aD prog w g (strValues l) ((l.map (·.1)).map PyData.str)
 |[]=>.nil
 |(x,t)::l=>.cons (.str x t) (ux l)
theorem o9{l:List (Str×Tok)}{a:List Str}(I:aF F g ρ s σ)(hl:l.map (·.1)=a)(k:Nat):
  aC F g ρ s (Rv F.B) (Is (.ref σ.st.length) ⟨σ.env,σ.st++[.list (a.map .str)]⟩) (.ref s.heap.objs.size) {s with toks:=k,heap:=s.heap.push {cls:=.type "list",data:=.seq (strValues l).toArray}}:=by
 subst hl;refine ut I (aU _) (λb o e=>Heap.get?_push_of_some _ e) rfl rfl ⟨I.none_g (aU _),_,_,Heap.get?_push_size _ rfl,?_⟩;exact ux l
theorem q5{x y:Str}{t u:Tok}(I:aF F g ρ s σ)(c:(y.length==0)=false)(f:x.length<=1000000)(d:(Txt.split x y).length<=sizeLine):
  wpAny (model F.B.prog F.B.w) A (call (.builtin "str.split") [.str x t,.str y u]) (aC F g ρ s (Rv F.B) (Is (.ref σ.st.length) ⟨σ.env,σ.st++[.list ((Txt.split x y).map .str)]⟩)) E0 s:=by
 cases a:(decide (x.length<y.length)||decide (strKind x<strKind y))
 ·cases b:(occurrences x y 0 x.length (x.length+1)).isEmpty
  ·have e:Txt.split x y=partsBetween x (occurrences x y 0 x.length (x.length+1)) y.length:=(if_neg (ne_true_of_eq_false a)).trans (if_neg (ne_true_of_eq_false b));rw[e]at d⊢;refine call_meets PySem.F.slot_str_split (typeIs_str _ _ _) PySem.F.entry_str_split (PySem.F.args_str_split_2 _ _) (meets_str_split_sep x y t u a c b ((by have:sizeLine=2^24:=rfl;lia:x.length<=sizeLine)) d) ?_;have q:=o9 I (numbered_texts s.toks (partsBetween x (occurrences x y 0 x.length (x.length+1)) y.length)) (s.toks+(partsBetween x (occurrences x y 0 x.length (x.length+1)) y.length).length);rw[<-strsFrom_eq]at q;exact q
  ·have e:Txt.split x y=[x]:=(if_neg (ne_true_of_eq_false a)).trans (if_pos b);exact aB e (call_meets PySem.F.slot_str_split (typeIs_str _ _ _) PySem.F.entry_str_split (PySem.F.args_str_split_2 _ _) (meets_str_split_not_found x y t u a c b) (o9 (l:=[(x,t)]) I rfl s.toks))
 ·have e:Txt.split x y=[x]:=if_pos a;exact aB e (call_meets PySem.F.slot_str_split (typeIs_str _ _ _) PySem.F.entry_str_split (PySem.F.args_str_split_2 _ _) (meets_str_split_cannot_occur x y t u a) (o9 (l:=[(x,t)]) I rfl s.toks))
end
end Mine
end
noncomputable section
open PySem PySem.Calls PySem.Spec PySem.W PyProof.Rows Builtin.Str
set_option backward.match.sparseCases false
namespace Mine
noncomputable def fF(L:List bl):List bl->List (Option Nat)->Bool
 |[],[]=>true
 |v::vs,none::a=>v.mine&&(v.kind==.local||v.kind==.cell)&&fF L vs a
 |v::vs,some i::a=>(match L[i]?with
  |some u=>u.name==v.name&&u.kind==.cell&&v.kind==.cell&&!v.mine
  |none=>false)&&fF L vs a
 |_,_=>false
noncomputable def kD(C:CS):Bool:=
 C.scope.kind==.function&&!C.gs.contains ("zip":Str)&&C.gs.all (λn=>C.scope.names.lookup n==some .globalImplicit)&&(C.L.map bl.name).Nodup
 &&C.L.all (λv=>v.name !=("__debug__":Str)&&C.scope.names.lookup v.name==some (if v.mine then v.kind else .free))
 &&C.scope.names.all (λy=>C.scope.names.lookup y.1==some y.2)&&(C.scope.names.map (·.1)).Nodup
 &&C.scope.names.all (λy=>(y.2!=.free)||C.L.any λv=>v.name==y.1)
noncomputable def AJ(C:CS)(x y:bl):Bool:=C.scope.kind==.function&&!C.scope.isCoroutine&&C.scope.names.all (λz=>z.2==.local)&&C.scope.names.lookup (".0":Str)==some .local&&C.scope.names.lookup x.name==some .local&&C.scope.names.lookup y.name==some .local&&x.name !=y.name&&x.name !=("__debug__":Str)&&y.name !=("__debug__":Str)
noncomputable def BE(C:CS):Bool:=match C.L with
 |[x,y]=>AJ C x y
 |_=>false
theorem sY{C:CS}(h:BE C=true):∃x y,C.L=[x,y]/\AJ C x y=true:=by
 have key:∀l:List bl,(match l with|[x,y]=>AJ C x y|_=>false)=true->∃x y,l=[x,y]/\AJ C x y=true:=λl h=>by
  induction l using List.casesOn with
  |nil=>exact en h
  |cons x l=>induction l using List.casesOn with
   |nil=>exact en h
   |cons y l=>induction l using List.casesOn with
    |nil=>exact⟨x,y,rfl,h⟩
    |cons z l=>exact en h
 exact key _ h
noncomputable def qN:dJ->List bl->Bool
 |.v i,L=>(L[i]?).any (·.mine)
 |.tup is,L=>is.all λi=>(L[i]?).any (·.mine)
noncomputable def BC:It->Bool
 |.gen _=>true
 |_=>false
noncomputable def yW:It->dJ->Bool
 |.gen _,_=>false
 |.enu _,.v _=>false
 |.items _,.v _=>false
 |_,_=>true
mutual
noncomputable def bG(T:List FD)(gs:List Str):X->List bl->PT->Bool
 |.k _,_,_=>true
 |.v _,_,_=>true
 |.g n s,_,_=>gs.contains n&&n==("ELLIPSIS_MARKER":Str)&&s==("...":Str)
 |.tup es,L,t=>decide (es.length<=1000)&&gX T gs es L t 0
 |.lst es,L,t=>decide (es.length<=1000)&&gX T gs es L t 0
 |.cell es,L,t=>decide (es.length<=1000)&&gX T gs es L t 0
 |.dct ks vs,L,t=>gX T gs ks L (t.c 0) 0&&gX T gs vs L (t.c 1) 0
 |.dnew,_,_=>true
 |.nones _,_,_=>true
 |.bin _ a b,L,t=>bG T gs a L (t.c 0)&&bG T gs b L (t.c 1)
 |.neg a,L,t=>bG T gs a L (t.c 0)
 |.not a,L,t=>bG T gs a L (t.c 0)
 |.cmp _ a b,L,t=>bG T gs a L (t.c 0)&&bG T gs b L (t.c 1)
 |.bop _ es,L,t=>gX T gs es L t 0
 |.ite c a b,L,t=>bG T gs c L (t.c 0)&&bG T gs a L (t.c 1)&&bG T gs b L (t.c 2)
 |.idx a i,L,t=>bG T gs a L (t.c 0)&&bG T gs i L (t.c 1)
 |.slc a lo d,L,t=>bG T gs a L (t.c 0)&&DQ T gs lo L ((t.c 1).c 0)&&DQ T gs d L ((t.c 1).c 1)
 |.fmt1 _ a,L,t=>bG T gs a L (t.c 1)
 |.fmt3 _ a,L,t=>bG T gs a L (t.c 1)
 |.call f n es,L,t=>n !=("compare":Str)&&(T[f]?).any (·.name==n)&&gs.contains n&&decide (es.length≠0)&&gX T gs es L t 1
 |.bi b a,L,t=>gs.contains b.name&&bG T gs a L (t.c 1)
 |.isTup a,L,t=>gs.contains ("isinstance":Str)&&gs.contains ("tuple":Str)&&bG T gs a L (t.c 1)
 |.tzip a b C,L,t=>gs.contains ("tuple":Str)&&gs.contains ("zip":Str)&&bG T gs a L (((t.c 1).c 2).c 1)&&bG T gs b L (((t.c 1).c 2).c 2)&&BE C
 |.meth m o es,L,t=>((t.c 0).p.endLine==t.p.line)&&decide (es.length<25)&&decide (es.length≠0)&&bG T gs o L ((t.c 0).c 0)&&gX T gs es L t 1
 |.split o a,L,t=>((t.c 0).p.endLine==t.p.line)&&bG T gs o L ((t.c 0).c 0)&&bG T gs a L (t.c 1)
 |.attr o,L,t=>bG T gs o L (t.c 0)
 |.mk a,L,t=>gs.contains ("TupleComp":Str)&&bG T gs a L (t.c 1)
 |.cmpr f o a b,L,t=>((t.c 0).p.endLine==t.p.line)&&(T[f]?).any (·.name==("compare":Str))&&bG T gs o L ((t.c 0).c 0)&&bG T gs a L (t.c 1)&&bG T gs b L (t.c 2)
 |.lc e g it cond C,L,t=>zg T gs it L (t.c 2)&&qN g C.L&&kD C&&fF L C.L C.caps&&bG T C.gs e C.L (t.c 0)&&DQ T C.gs cond C.L (t.c 3)&&yW it g
 |.dc a b g it C,L,t=>zg T gs it L (t.c 2)&&qN g C.L&&kD C&&fF L C.L C.caps&&bG T C.gs a C.L ((t.c 0).c 0)&&bG T C.gs b C.L ((t.c 0).c 1)&&yW it g
noncomputable def gX(T:List FD)(gs:List Str):List X->List bl->PT->Nat->Bool
 |[],_,_,_=>true
 |e::es,L,t,j=>bG T gs e L (t.c j)&&gX T gs es L t (j+1)
noncomputable def DQ(T:List FD)(gs:List Str):Option X->List bl->PT->Bool
 |none,_,_=>true
 |some e,L,t=>bG T gs e L t
noncomputable def zg(T:List FD)(gs:List Str):It->List bl->PT->Bool
 |.x e,L,t=>bG T gs e L t
 |.rng es,L,t=>gs.contains ("range":Str)&&decide (es.length≠0)&&gX T gs es L t 1
 |.enu e,L,t=>gs.contains ("enumerate":Str)&&bG T gs e L (t.c 1)
 |.items e,L,t=>((t.c 0).p.endLine==t.p.line)&&bG T gs e L ((t.c 0).c 0)
 |.gen e,L,t=>gs.contains ("_iter_escaped_chars":Str)&&bG T gs e L (t.c 1)
end
structure Wf(F:Fx)(gs:List Str):Prop where
 lay:ca F.L F.env
 globals:F.env.globals=mainGlobals
 builtins:F.env.builtins=builtinsNs
 gk:∀n∈gs,F.env.kindOf n=some .globalImplicit
 P0:F.B.P0∈F.own
 code:("zip":Str)∈gs->F.env.code=.ref F.B.c0
noncomputable def mx:List (Str×Value):=[("len",.builtin "len"),("str",.type "str"),("sum",.builtin "sum"),("sorted",.builtin "sorted"),("tuple",.type "tuple"),("isinstance",.builtin "isinstance"),("range",.type "range"),("enumerate",.type "enumerate"),("zip",.type "zip")]
structure Gd0(B:Bs)(mg mb:Str->Option Value):Prop where
 hK:∀b o,b≠B.P0->B.h₀.get? b=some o->B.K b=some o
 mgN:B.h₀.Ns mainGlobals mg
 mbN:B.h₀.Ns builtinsNs mb
 mgP:mainGlobals≠B.P0
 mbP:builtinsNs≠B.P0
 blt:∀x∈mx,mg x.1=none/\mb x.1=some x.2
 tabT:B.h₀.TableAt B.c0 B.P0 B.ps0
 tabC:B.h₀.IsCode B.c0 B.P0 B.ps0
 bmod:∃bm ob,mg ("__builtins__":Str)=some (.ref bm)/\bm≠builtinsNs/\bm≠B.P0/\B.h₀.get? bm=some ob/\ob.cls=.type "module"/\ob.dict=some builtinsNs/\ob.data=.plain
 dots:∃t,mg ("ELLIPSIS_MARKER":Str)=some (.str ("...":Str) t)
section
variable{F:Fx}{gs:List Str}{T:List FD}{n:Nat}{g g':G}{ρ ρ':List Addr}{s s':Shared}{σ σ':bo}{A:Around}
noncomputable def cY(F:Fx)(gs:List Str)(T:List FD)(n:Nat):Prop:=∀(A:Around)(g:G)(ρ:List Addr)(s:Shared)(σ:bo)(x:X)(t:PT)(r:V×List aA),bG T gs x F.L t=true->Ok n A->aF F g ρ s σ->
  ev T n σ.env x σ.st=some r->wpAny (model F.B.prog F.B.w) A (eval (aV x F.L t) F.env) (aC F g ρ s (Rv F.B) (Is r.1 ⟨σ.env,r.2⟩)) E0 s
noncomputable def rz(F:Fx)(gs:List Str)(T:List FD)(n:Nat):Prop:=∀(A:Around)(g:G)(ρ:List Addr)(s:Shared)(σ:bo)(x:X)(t:PT)(r:V×List aA)(b:Bool),bG T gs x F.L t=true->Ok n A->aF F g ρ s σ->
  ev T n σ.env x σ.st=some r->aZ r.1=some b->
  wpAny (model F.B.prog F.B.w) A (isTrue (aV x F.L t) F.env (eval (aV x F.L t) F.env)) (aC F g ρ s (λ_ _(b:Bool)(c:Bool)=>c=b) (Is b ⟨σ.env,r.2⟩)) E0 s
theorem Ok.less{n m:Nat}(h:m<=n)(a:Ok n A):Ok m A:=⟨a.handled,by have:=a.depth;lia,by have:=a.units;lia⟩
theorem aW(x:X)(L:List bl)(t:PT)(a:List Expr)(env:Env):starEach (aV x L t::a) env=(false,eval (aV x L t) env)::starEach a env:=by induction x using X.casesOn<;>rfl
section
variable{α β γ δ ε:Type}{R:G->List Addr->β->α->Prop}{Q:β->bo->Prop}{M:Model}{R':G->List Addr->δ->ε->Prop}{Q':δ->bo->Prop}
theorem HT(f:γ->ε):Cl F λg ρ s(c:γ)=>aC F g ρ s R' Q' (f c):=λ_ _ _ _ _ _ S _ _ _ h=>h.after S.pre S.nw S.st
end
theorem dv(H:cY F gs T n){t:PT}{pos:Pos}(i:Ok n A):∀(es:List X)(j:Nat){g:G}{ρ:List Addr}{s:Shared}{σ:bo}{r:List V×List aA},gX T gs es F.L t j=true->aF F g ρ s σ->
    pk (ev T n σ.env) es σ.st=some r->wpAny (model F.B.prog F.B.w) A (spliced (backTo pos (starEach (cn es F.L t j) F.env))) (aC F g ρ s (aM F.B) (Is r.1 ⟨σ.env,r.2⟩)) E0 s:=by
  intro c;induction c with
  |nil=>intro j g ρ s σ r b I h;obtain rfl:=Option.some.inj (h:some ([],σ.st)=some r);exact args_nil (aC.is I .nil)
  |cons e es d=>intro j g ρ s σ r b I h;refine aG λf=>?_;obtain⟨p,k,h⟩:=Option.bind_eq_some_iff.mp h;obtain⟨q,l,h⟩:=Option.bind_eq_some_iff.mp h;obtain rfl:=Option.some.inj h;change(_&&_)=true at b;simp only[Bool.and_eq_true]at b;refine f (args_cons (b7 (jZ λa=>HT (a::·)) (H A g ρ s σ e (t.c j) p b.1 i I k) λz m s1 a B o u=>?_) (aW ..));refine wpAny_mono (d (j+1) b.2 o l) (λvs s2 v=>v.toI λC w x D y=>?_) λ_ _ e=>e;exact⟨_,.cons (x.rv u) y,rfl,rfl⟩
theorem fk{a:Type}{f:X->a->Option (V×a)}:∀{es:List X}{st:a}{r:List V×a},pk f es st=some r->r.1.length=es.length
  |[],st,r,h=>(Option.some.inj (h:some ([],st)=some r))▸rfl
  |e::es,st,r,h=>by refine aG λb=>?_;obtain⟨p,d,h⟩:=Option.bind_eq_some_iff.mp h;obtain⟨q,c,h⟩:=Option.bind_eq_some_iff.mp h;exact b ((Option.some.inj h)▸(congrArg (·+1) (fk c)))
theorem rN{op:Operator}{a b v:V}{q w:Value}(I:aF F g ρ s σ)(f:Rv F.B g ρ a q)(c:Rv F.B g ρ b w)(h:eI op a b=some v):
    wpAny (model F.B.prog F.B.w) A (binaryOp op q w) (aC F g ρ s (Rv F.B) (Is v σ)) E0 s:=by
  induction op using Operator.casesOn with
  |Add=>
    induction f using Rv.casesOn with
    |d r=>
      induction r using Rd.casesOn with
      |int x t=>refine bI c h λy u h=>?_;obtain rfl:=Option.some.inj h;exact add_int (dm I (.d (.int _ _)) ⟨rfl,rfl⟩ _)
      |str x t=>refine bS c h λy u h=>?_;exact bC h λhc h=>by obtain rfl:=Option.some.inj h;exact PyProof.Rows.add_str (λB tk=>dm I (.d (.str _ _)) ⟨rfl,rfl⟩ _) hc
      |tuple e k=>
          refine bT c h λy o h=>bC h λhc h=>?_;cases h;obtain⟨b,z,m,p,l⟩:=o.isT I.so.sub;have i:=k.length;have j:=l.length;rw[Array.length_toList]at i j;refine P.add_tuple (I.so.sub _ _ e) p ?_ ?_ (AN I (by rw[Array.toList_append];exact k.append l) _ ⟨rfl,rfl⟩) (by rw[i,j];exact hc.2.2)
          · intro e
            rw[Array.isEmpty_iff_size_eq_zero,i]at e;exact hc.1 (List.length_eq_zero_iff.mp e)
          · intro e
            rw[Array.isEmpty_iff_size_eq_zero,j]at e;exact hc.2.1 (List.length_eq_zero_iff.mp e)
      |list e k=>refine bL c h λy o h=>bC h λhc h=>?_;cases h;obtain⟨b,z,m,p,l⟩:=o.isL I.so.sub;have i:=k.length;have j:=l.length;rw[Array.length_toList]at i j;exact P.add_list (I.so.sub _ _ e) p (CZ I (by rw[Array.toList_append];exact k.append l) _ ⟨rfl,rfl⟩) (by rw[i,j];exact hc)
      |_=>exact aN h
    |_=>exact aN h
  |Sub=>refine bI f h λx t h=>?_;refine bI c h λy u h=>?_;obtain rfl:=Option.some.inj h;exact sub_int (dm I (.d (.int _ _)) ⟨rfl,rfl⟩ _)
  |Mult=>refine bI f h λx t h=>?_;refine bI c h λy u h=>?_;exact bC h λhc h=>by obtain rfl:=Option.some.inj h;exact mul_int (dm I (.d (.int _ _)) ⟨rfl,rfl⟩ _) (IntMulOk.of_left (intBits_le_64 (by omega) (by omega)))
  |FloorDiv=>refine bI f h λx t h=>?_;refine bI c h λy u h=>?_;exact bC h λhc h=>by obtain rfl:=Option.some.inj h;exact floordiv_int hc.1 (dm I (.d (.int _ _)) ⟨rfl,rfl⟩ _) (.inl (PyProof.noPylong_small hc.2))
  |Mod=>refine bI f h λx t h=>?_;refine bI c h λy u h=>?_;exact bC h λhc h=>by obtain rfl:=Option.some.inj h;exact mod_int hc (dm I (.d (.int _ _)) ⟨rfl,rfl⟩ _)
  |Pow=>refine bI f h λx t h=>?_;refine bI c h λy u h=>?_;exact bC h λhc h=>by obtain rfl:=Option.some.inj h;exact pow_int_small hc.1 hc.2.1 hc.2.2 (dm I (.d (.int _ _)) ⟨rfl,rfl⟩ _)
  |_=>exact aN h
theorem Ak{c:K}{t:PT}(I:aF F g ρ s σ):wpAny (model F.B.prog F.B.w) A (eval (aV (.k c) F.L t) F.env) (aC F g ρ s (Rv F.B) (Is (.d c.data) σ)) E0 s:=by
  induction c using K.casesOn with
  |none=>exact wpAny_Constant_none (aC.is I (.d .none))
  |bool b=>exact wpAny_Constant_bool (aC.is I (.d (.bool b)))
  |int i=>exact wpAny_Constant_int (dm I (.d (.int i _)) ⟨rfl,rfl⟩ _)
  |str x=>exact wpAny_Constant_str (dm I (.d (.str x _)) ⟨rfl,rfl⟩ _)
theorem f9:∀{L:List bl}{i:Nat}{v:bl},L[i]?=some v->nm L i=v.name
  |[],i,v,h=>by simp at h
  |_::_,0,v,h=>by simp only[List.getElem?_cons_zero,Option.some.injEq]at h;subst h;rfl
  |_::r,i+1,v,h=>by simp only[List.getElem?_cons_succ]at h;exact f9 (L:=r) h
theorem AU{v:V}{st:List aA}{r:V×List aA}(h:vY v st=some r):r=(v.see st,st):=by
  induction v using V.casesOn with
  |ref i=>
    have e:vY (.ref i) st=some ((V.ref i).see st,st):=by
      show(match aI st i with
        |some (.froz x)=>some (V.d x,st)
        |_=>some (V.ref i,st))=some ((match aI st i with
        |some (.froz x)=>V.d x
        |_=>V.ref i),st)
      cases aI st i with
      |none=>rfl
      |some c=>induction c using aA.casesOn<;>rfl
    exact Option.some.inj (h.symm.trans e)
  |unb=>exact aN h
  |_=>obtain rfl:=Option.some.inj h;rfl
theorem Bl{i:Nat}{t:PT}{r:V×List aA}(c:ca F.L F.env)(I:aF F g ρ s σ)(h:ev T (n+1) σ.env (.v i) σ.st=some r):
    wpAny (model F.B.prog F.B.w) A (eval (aV (.v i) F.L t) F.env) (aC F g ρ s (Rv F.B) (Is r.1 ⟨σ.env,r.2⟩)) E0 s:=by
  change vY (iY σ.env i) σ.st=some r at h;have d:iY σ.env i≠.unb:=by intro q;replace h:=q▸h;exact aN h
  have e:r=((iY σ.env i).see σ.st,σ.st):=AU h;subst e;have a:i<F.L.length:=by rw[<-I.fr.len];exact(List.getElem?_eq_some_iff.mp (iZ d)).1
  have b:=List.getElem?_eq_getElem a;simp only[FH,f9 b];exact wpAny_Name (lU c I b d ⟨rfl,rfl⟩) (c.names i _ b).2
variable{mg mb:Str->Option Value}
theorem aF.stands(I:aF F g ρ s σ)(gd:Gd0 F.B mg mb){b:Addr}{o:Obj}(a:b≠F.B.P0)(h:F.B.h₀.get? b=some o):s.heap.get? b=some o:=
  I.so.sub _ _ (I.so.base _ _ (gd.hK b o a h))
theorem aF.ns(I:aF F g ρ s σ)(gd:Gd0 F.B mg mb){a:Addr}{m:Str->Option Value}(b:a≠F.B.P0)(h:F.B.h₀.Ns a m):s.heap.Ns a m:=
  dF h λo e=>I.stands gd b e
theorem fm{x:Str}{v:Value}{pos:Pos}{Q:Value->Shared->Prop}(a:Wf F gs)(gd:Gd0 F.B mg mb)(I:aF F g ρ s σ)(b:x∈gs)(c:mg x=some v)(d:(x==("__debug__":Str))=false)(h:Q v s):
    wpAny (model F.B.prog F.B.w) A (eval (.Name x pos) F.env) Q E0 s:=
  Name_function_global a.lay.kind (a.gk x b) (loadGlobal_global (a.globals▸I.ns gd gd.mgP gd.mgN) c h) d
theorem dr{x:Str}{v:Value}{pos:Pos}{Q:Value->Shared->Prop}(a:Wf F gs)(gd:Gd0 F.B mg mb)(I:aF F g ρ s σ)(c:x∈gs)(b:(x,v)∈mx)(h:Q v s):
    wpAny (model F.B.prog F.B.w) A (eval (.Name x pos) F.env) Q E0 s:=by
  have d:(x==("__debug__":Str))=false:=by
    have:mx.all (λy:Str×Value=>!(y.1==("__debug__":Str)))=true:=by decide
    simpa using List.all_eq_true.mp this _ b
  exact Name_function_global a.lay.kind (a.gk x c) (loadGlobal_builtin (a.globals▸I.ns gd gd.mgP gd.mgN) (gd.blt _ b).1 (a.builtins▸I.ns gd gd.mbP gd.mbN) (gd.blt _ b).2 h) d
theorem z0{x y:Str}{t:PT}(b:Wf F gs)(gd:Gd0 F.B mg mb)(I:aF F g ρ s σ)(a:bG T gs (.g x y) F.L t=true):
    wpAny (model F.B.prog F.B.w) A (eval (aV (.g x y) F.L t) F.env) (aC F g ρ s (Rv F.B) (Is (.d (.str y)) σ)) E0 s:=by
  change(_&&_)=true at a;simp only[Bool.and_eq_true,beq_iff_eq,List.contains_iff_mem]at a;obtain⟨⟨c,rfl⟩,rfl⟩:=a;obtain⟨u,e⟩:=gd.dots;exact fm b gd I c e rfl (aC.is I (.d (.str _ _)))
theorem wi(H:cY F gs T n){es:List X}{t:PT}{r:List V×List aA}(d:Ok n A)(a:bG T gs (.tup es) F.L t=true)(I:aF F g ρ s σ)(h:pk (ev T n σ.env) es σ.st=some r):
    wpAny (model F.B.prog F.B.w) A (eval (aV (.tup es) F.L t) F.env) (aC F g ρ s (Rv F.B) (Is (lX r.1) ⟨σ.env,r.2⟩)) E0 s:=by
  change(_&&_)=true at a;simp only[Bool.and_eq_true,decide_eq_true_eq]at a;refine wpAny_Tuple (wpAny_mono (dv H d es 0 a.2 I h) (λvs s2 f=>?_) λ_ _ e=>e);refine aC.elim f λk i S b c=>?_;have hl:=c.length;have j:=fk h;refine⟨by have:sizeLine=2^24:=rfl;lia,?_⟩;refine aC.after S.pre S.nw S.st (aC.by (St.pushG s2 _ s2.toks b.gnew) (b.pushG _ s2.toks rfl) (qB (G.put_self ..) (aM.mono (G.put_le b.gnew) (List.prefix_refl _) (by simpa using c))) ⟨rfl,rfl⟩)
theorem vK(H:cY F gs T n){es:List X}{t:PT}{r:List V×List aA}{ds:List PyData}(c:Ok n A)(a:bG T gs (.lst es) F.L t=true)(I:aF F g ρ s σ)(h:pk (ev T n σ.env) es σ.st=some r)(f:gM r.1=some ds):
    wpAny (model F.B.prog F.B.w) A (eval (aV (.lst es) F.L t) F.env) (aC F g ρ s (Rv F.B) (Is (.d (.list ds)) ⟨σ.env,r.2⟩)) E0 s:=by
  change(_&&_)=true at a;simp only[Bool.and_eq_true,decide_eq_true_eq]at a;refine wpAny_List (wpAny_mono (dv H c es 0 a.2 I h) (λvs s2 i=>?_) λ_ _ e=>e);refine aC.elim i λm j S k b=>?_;have hl:=b.length;have l:=fk h;refine⟨by have:sizeLine=2^24:=rfl;lia,?_⟩;exact aC.after S.pre S.nw S.st (CZ k (by simpa using el b f) _ ⟨rfl,rfl⟩)
theorem rQ(H:cY F gs T n){es:List X}{t:PT}{r:List V×List aA}{ds:List PyData}(f:Ok n A)(a:bG T gs (.cell es) F.L t=true)(I:aF F g ρ s σ)(h:pk (ev T n σ.env) es σ.st=some r)(i:gM r.1=some ds):
    wpAny (model F.B.prog F.B.w) A (eval (aV (.cell es) F.L t) F.env) (aC F g ρ s (Rv F.B) (Is (.ref r.2.length) ⟨σ.env,r.2++[.list ds]⟩)) E0 s:=by
  change(_&&_)=true at a;simp only[Bool.and_eq_true,decide_eq_true_eq]at a;refine wpAny_List (wpAny_mono (dv H f es 0 a.2 I h) (λvs s2 j=>?_) λ_ _ e=>e);refine aC.elim j λm k S c d=>?_;have hl:=d.length;have l:=fk h;refine⟨by have:sizeLine=2^24:=rfl;lia,?_⟩;refine aC.after S.pre S.nw S.st (ut (σ:=⟨σ.env,r.2⟩) c (aU _) (λb o e=>Heap.get?_push_of_some _ e) rfl rfl ⟨c.none_g (aU _),_,_,Heap.get?_push_size _ rfl,?_⟩);simpa using el d i
theorem r6{t:PT}(gd:Gd0 F.B mg mb)(I:aF F g ρ s σ):wpAny (model F.B.prog F.B.w) A (eval (aV .dnew F.L t) F.env) (aC F g ρ s (Rv F.B) (Is (.ref σ.st.length) ⟨σ.env,σ.st++[.dict [] []]⟩)) E0 s:=by refine wpAny_Dict_empty (ut I (aU _) (λb o e=>Heap.get?_push_of_some _ e) rfl rfl ⟨I.none_g (aU _),?_,[],rfl,Heap.DictOf.new s.heap,.nil⟩);refine aG λa=>cU (I.ns gd gd.mgP gd.mgN) λo _ _ d=>cx d λf _=>a ?_;have c:=Heap.lt_size f;rw[beq_eq_false_iff_ne];intro q;rw[q]at c;exact absurd c (by decide)
theorem vQ(H:cY F gs T n){a:X}{t:PT}{i:Int}{st:List aA}(e:Ok n A)(b:bG T gs (.neg a) F.L t=true)(I:aF F g ρ s σ)(h:ev T n σ.env a σ.st=some (.d (.int i),st)):
    wpAny (model F.B.prog F.B.w) A (eval (aV (.neg a) F.L t) F.env) (aC F g ρ s (Rv F.B) (Is (.d (.int (-i))) ⟨σ.env,st⟩)) E0 s:=by
  refine wpAny_UnaryOp (b7 (jZ λ_=>pH) (H A g ρ s σ a _ _ b e I h) λk f s1 v l j c=>?_);exact c.eD λc=>by exact c.eInt λ_=>neg_int (dm j (.d (.int _ _)) ⟨rfl,rfl⟩ _)
theorem vV(H:rz F gs T n){a:X}{t:PT}{r:V×List aA}{b:Bool}(f:Ok n A)(d:bG T gs (.not a) F.L t=true)(I:aF F g ρ s σ)(h:ev T n σ.env a σ.st=some r)(i:aZ r.1=some b):
    wpAny (model F.B.prog F.B.w) A (isTrue (aV (.not a) F.L t) F.env (eval (aV (.not a) F.L t) F.env)) (aC F g ρ s (λ_ _(b:Bool)(c:Bool)=>c=b) (Is (!b) ⟨σ.env,r.2⟩)) E0 s:=by
  refine isTrue_not (wpAny_mono (H A g ρ s σ a _ _ _ d f I h i) (λc s2 j=>j.toI λm k S o l=>?_) λ_ _ e=>e);exact l▸(⟨_,rfl,rfl,rfl⟩)
theorem sT(H:cY F gs T n){a:X}{t:PT}{r:V×List aA}{b:Bool}(i:Ok n A)(f:bG T gs (.not a) F.L t=true)(I:aF F g ρ s σ)(h:ev T n σ.env a σ.st=some r)(j:aZ r.1=some b):
    wpAny (model F.B.prog F.B.w) A (eval (aV (.not a) F.L t) F.env) (aC F g ρ s (Rv F.B) (Is (.d (.bool !b)) ⟨σ.env,r.2⟩)) E0 s:=by
  refine wpAny_UnaryOp (b7 (jZ λ_=>pH) (H A g ρ s σ a _ _ f i I h) λu k s1 v w l m=>?_);refine not_value (wpAny_mono (gm l m j) (λc s2 o=>o.toI λx p S y q=>?_) λ_ _ e=>e);exact q▸(⟨_,.d (.bool _),rfl,rfl⟩)
theorem uR(H:cY F gs T n){op:Operator}{a b:X}{t:PT}{r q:V×List aA}{v:V}(e:Ok n A)(c:bG T gs (.bin op a b) F.L t=true)(I:aF F g ρ s σ)(f:ev T n σ.env a σ.st=some r)(h:ev T n σ.env b r.2=some q)(i:eI op r.1 q.1=some v):
    wpAny (model F.B.prog F.B.w) A (eval (aV (.bin op a b) F.L t) F.env) (aC F g ρ s (Rv F.B) (Is v ⟨σ.env,q.2⟩)) E0 s:=by
  change(_&&_)=true at c;simp only[Bool.and_eq_true]at c;refine wpAny_BinOp (b7 (jZ λ_=>jZ λ_=>pH) (H A g ρ s σ a _ _ c.1 e I f) λj d s1 w x k l=>?_);exact b7 (jZ λ_=>pH) (H A j d s1 ⟨σ.env,r.2⟩ b _ _ c.2 e k h) λy m s2 z o p u=>rN p (o.rv l) u i
theorem kR(op:CmpOp)(x:X)(L:List bl)(t:PT):behindInMarks op (aV x L t)=false:=by induction x using X.casesOn<;>rfl
theorem uZ(H:cY F gs T n){op:CmpOp}{a b:X}{t:PT}{r q:V×List aA}{e:Bool×List aA}(f:Ok n A)(c:bG T gs (.cmp op a b) F.L t=true)(I:aF F g ρ s σ)(i:ev T n σ.env a σ.st=some r)(j:ev T n σ.env b r.2=some q)(k:dt q.2 op r.1 q.1=some e):
    wpAny (model F.B.prog F.B.w) A (eval (aV (.cmp op a b) F.L t) F.env) (aC F g ρ s (Rv F.B) (Is (.d (.bool e.1)) ⟨σ.env,e.2⟩)) E0 s:=by
  change(_&&_)=true at c;simp only[Bool.and_eq_true]at c;refine wpAny_Compare1 (b7 (jZ λ_=>jZ λ_=>pH) (H A g ρ s σ a _ _ c.1 f I i) λl h s1 x y m o=>?_) (kR ..);exact b7 (jZ λ_=>pH) (H A l h s1 ⟨σ.env,r.2⟩ b _ _ c.2 f m j) λz p s2 B u v w=>lg (σ:=⟨σ.env,q.2⟩) f v (u.rv o) w k
theorem tA{b:Bool}(I:aF F g ρ s σ):wpAny (model F.B.prog F.B.w) A (truthy (.bool b)) (aC F g ρ s (λ_ _(b:Bool)(c:Bool)=>c=b) (Is b σ)) E0 s:=wpAny_truthy_bool (aC.is I rfl)
theorem rS(H:cY F gs T n){op:CmpOp}{a b:X}{t:PT}{r q:V×List aA}{e:Bool×List aA}(f:Ok n A)(d:bG T gs (.cmp op a b) F.L t=true)(I:aF F g ρ s σ)(j:ev T n σ.env a σ.st=some r)(k:ev T n σ.env b r.2=some q)(l:dt q.2 op r.1 q.1=some e):
    wpAny (model F.B.prog F.B.w) A (isTrue (aV (.cmp op a b) F.L t) F.env (eval (aV (.cmp op a b) F.L t) F.env)) (aC F g ρ s (λ_ _(b:Bool)(c:Bool)=>c=b) (Is e.1 ⟨σ.env,e.2⟩)) E0 s:=by
  change(_&&_)=true at d;simp only[Bool.and_eq_true]at d;refine wpAny_isTrue_Compare1 (b7 (jZ λ_=>jZ λ_=>jZ λ_=>pH) (H A g ρ s σ a _ _ d.1 f I j) λm h s1 B C o p=>?_) (kR ..);exact b7 (jZ λ_=>jZ λ_=>pH) (H A m h s1 ⟨σ.env,r.2⟩ b _ _ d.2 f o k) λD u s2 E v w x=>b7 (jZ λ_=>pH) (lg (σ:=⟨σ.env,q.2⟩) f w (v.rv p) x l) λJ y K L M z i=>i.eD λi=>by cases i;exact tA (σ:=⟨σ.env,e.2⟩) z
end
end Mine
end
noncomputable section
open PySem PySem.Calls PySem.Spec PySem.W PyProof.Rows Builtin.Str
namespace Mine
section
variable{F:Fx}{gs:List Str}{T:List FD}{n:Nat}{g g':G}{ρ ρ':List Addr}{s s':Shared}{σ σ':bo}{A:Around}{mg mb:Str->Option Value}
structure dZ(F:Fx)(g:G)(ρ:List Addr)(s:Shared)(a:Addr):Prop where
 g:g a=none
 own:a∉F.own
 r:a∉ρ
 cells:∀x∈F.env.cells,x.2≠a
 hi:F.B.h₀.get? a=none
 th:s.heap.get? a≠none
theorem aF.hi(I:aF F g ρ s σ){a:Addr}(h:s.heap.get? a=none):F.B.h₀.get? a=none:=by
 cases q:F.B.h₀.get? a with
 |none=>rfl
 |some o=>obtain⟨c,b⟩:=I.old.there a o q;rw[h]at b;exact aN b
theorem dZ.new(I:aF F g ρ s σ){a:Addr}(h:s.heap.get? a=none)(h':s'.heap.get? a≠none):dZ F g ρ s' a:=
 ⟨I.none_g h,λb=>I.so.olt a b h,λb=>I.so.rlt a b h,λx c q=>I.so.clt x c (q▸h),I.hi h,h'⟩
theorem dZ.step{a:Addr}(O:dZ F g ρ s a)(S:bw F g ρ s g' ρ' s'):dZ F g' ρ' s' a/\∀o,s.heap.get? a=some o->s'.heap.get? a=some o:=by
 have c:a∉F.own++ρ:=λb=>(List.mem_append.mp b).elim O.own O.r;have k:∀o,s.heap.get? a=some o->s'.heap.get? a=some o:=λo e=>S.st.kept a o c e;refine⟨⟨?_,O.own,λb=>?_,O.cells,O.hi,?_⟩,k⟩
 ·cases q:g' a with
  |none=>rfl
  |some o=>
   rcases S.st.newg a o q with h|h|h
   ·rw[O.g]at h;exact aN h
   ·exact(c h).elim
   ·exact absurd h O.th
 ·refine Or.elim (S.nw a b) (λh=>?_) λh=>?_
  ·exact O.r h
  ·exact O.th h
 ·cases q:s.heap.get? a with
  |none=>exact absurd q O.th
  |some o=>rw[k o q];exact λq=>nomatch q
theorem dZ.turn{a:Addr}(I:aF F g ρ s σ)(O:dZ F g ρ s a)(y:St F.B [a] g g s s')(c:s'.heap.get? a≠none):aF F g ρ s' σ/\dZ F g ρ s' a:=by
 refine⟨I.growW y (λb d=>?_) (λb o e=>y.kept b o (λf=>?_) (I.so.sub b o e)),⟨O.g,O.own,O.r,O.cells,O.hi,c⟩⟩
 ·cases List.mem_singleton.mp d;exact⟨O.own,O.r,λx h q=>O.cells x h q.symm,O.hi,O.g⟩
 ·cases List.mem_singleton.mp f;replace e:=Eq.trans (Eq.symm (O.g)) e;exact aN e
theorem dZ.take{a:Addr}{o:Obj}(I:aF F g ρ s σ)(O:dZ F g ρ s a)(y:s.heap.get? a=some o):aF F (g.put a o) ρ s σ/\St F.B [a] g (g.put a o) s s:=by
 have f:=G.put_le (g:=g) (o:=o) O.g;have l:∀b,b≠a->g b=none->(g.put a o) b=none:=λb d e=>by rw[G.put_ne g o d];exact e
 refine⟨⟨⟨λb k e=>?_,λb k e=>f _ _ (I.so.base b k e),λb d=>l b (λq=>O.own (q▸d)) (I.so.gno b d),I.so.rno,I.so.rhi,I.so.ohi,I.so.lown,I.so.lhi,
   λx h=>⟨(I.so.chi x h).1,(I.so.chi x h).2.1,l _ (O.cells x h) (I.so.chi x h).2.2.1,(I.so.chi x h).2.2.2⟩,I.so.cap,I.so.rn,I.so.olt,I.so.rlt,I.so.clt⟩,
   I.old,I.bare,I.tab,⟨I.fr.len,?_,?_⟩,I.stl,λj b c' d p=>?_⟩,⟨f,λ_ _ _ e=>e,λb k e=>?_,id,rfl,⟨Nat.le_refl _,λ_ _=>rfl⟩,id⟩⟩
 ·by_cases d:b=a
  ·subst d;rw[G.put_self]at e;exact(Option.some.inj e)▸(y)
  ·rw[G.put_ne g o d]at e;exact I.so.sub b k e
 ·obtain⟨m,z,B⟩:=I.fr.loc;exact⟨m,z,λi x b v r t=>(B i x b v r t).mono f (List.prefix_refl _)⟩
 ·intro i x b v r t;exact aG λu=>bd (I.fr.cel i x b v r t) λc C D=>ko D λe1 E H J=>u (j7 c C ⟨e1,E,H.mono f (List.prefix_refl _),J⟩)
 ·have w:b≠a:=λq=>O.r (q▸List.mem_of_getElem? d);exact(I.st j b c' d p).mono f (l b w) λ_ e=>e
 ·by_cases d:b=a
  ·exact d▸(.inr (.inl (.head _)))
  ·rw[G.put_ne g o d]at e;exact .inl e
theorem bw.out{e:G}{c:List Addr}{d:Shared}{W:List Addr}(S:bw F e c d g ρ s)(f:∀a∈W,d.heap.get? a=none)(y:St F.B W g g' s s'):bw F e c d g' ρ s':=
 ⟨S.pre,S.nw,S.st.trans y λb h=>.inr (f b h)⟩
theorem bw.post{f h:Type}{R:G->List Addr->h->f->Prop}{d:G}{c:List Addr}{e:Shared}(S:bw F d c e g ρ s)(I:aF F g ρ s σ){a:f}{b:h}(r:R g ρ b a):aC F d c e R (Is b σ) a s:=
 aC.iff.mpr ⟨g,ρ,b,σ,S,I,r,rfl,rfl⟩
theorem bw.more{e f:Type}{R:G->List Addr->f->e->Prop}{Q:f->bo->Prop}{c:G}{b:List Addr}{d:Shared}(S:bw F c b d g ρ s){a:e}(h:aC F g ρ s R Q a s'):aC F c b d R Q a s':=h.after S.pre S.nw S.st
theorem vB(H:cY F gs T n)(o:rz F gs T n){c a b:X}{t:PT}{r q:V×List aA}{j:Bool}(i:Ok n A)(d:bG T gs (.ite c a b) F.L t=true)(I:aF F g ρ s σ)(p:ev T n σ.env c σ.st=some r)(u:aZ r.1=some j)(k:ev T n σ.env (if j then a else b) r.2=some q):
  wpAny (model F.B.prog F.B.w) A (eval (aV (.ite c a b) F.L t) F.env) (aC F g ρ s (Rv F.B) (Is q.1 ⟨σ.env,q.2⟩)) E0 s:=by
 change(_&&_)=true at d;simp only[Bool.and_eq_true,Bool.and_eq_true]at d;refine wpAny_IfExp (wpAny_mono (o A g ρ s σ c _ _ _ d.1.1 i I p u) (λx s2 f=>?_) λ_ _ e=>e);refine aC.elim f λl h S m v=>?_;subst v;induction x using Bool.casesOn with
 |true=>exact wpAny_mono (H A l h s2 ⟨σ.env,r.2⟩ a _ _ d.1.2 i m k) (λ_ _ f=>S.more f) λ_ _ e=>e
 |false=>exact wpAny_mono (H A l h s2 ⟨σ.env,r.2⟩ b _ _ d.2 i m k) (λ_ _ f=>S.more f) λ_ _ e=>e
theorem sJ(i:rz F gs T n){c a b:X}{t:PT}{r q:V×List aA}{k l:Bool}(j:Ok n A)(d:bG T gs (.ite c a b) F.L t=true)(I:aF F g ρ s σ)(v:ev T n σ.env c σ.st=some r)(w:aZ r.1=some k)(m:ev T n σ.env (if k then a else b) r.2=some q)(o:aZ q.1=some l):
  wpAny (model F.B.prog F.B.w) A (isTrue (aV (.ite c a b) F.L t) F.env (eval (aV (.ite c a b) F.L t) F.env)) (aC F g ρ s (λ_ _(b:Bool)(c:Bool)=>c=b) (Is l ⟨σ.env,q.2⟩)) E0 s:=by
 change(_&&_)=true at d;simp only[Bool.and_eq_true,Bool.and_eq_true]at d;refine isTrue_IfExp (wpAny_mono (i A g ρ s σ c _ _ _ d.1.1 j I v w) (λx s2 f=>?_) λ_ _ e=>e);refine aC.elim f λp h S u y=>?_;subst y;induction x using Bool.casesOn with
 |true=>exact wpAny_mono (i A p h s2 ⟨σ.env,r.2⟩ a _ _ _ d.1.2 j u m o) (λ_ _ f=>S.more f) λ_ _ e=>e
 |false=>exact wpAny_mono (i A p h s2 ⟨σ.env,r.2⟩ b _ _ _ d.2 j u m o) (λ_ _ f=>S.more f) λ_ _ e=>e
theorem uU(H:cY F gs T n){op:BoolOp}{t:PT}{pos:Pos}(q:Ok n A):∀(es:List X)(j:Nat){g:G}{ρ:List Addr}{s:Shared}{σ:bo}{r:V×List aA},gX T gs es F.L t j=true->aF F g ρ s σ->
  wJ op (ev T n σ.env) es σ.st=some r->wpAny (model F.B.prog F.B.w) A (boolOp pos op (evalEach (cn es F.L t j) F.env)) (aC F g ρ s (Rv F.B) (Is r.1 ⟨σ.env,r.2⟩)) E0 s:=by
 intro es;induction es with
 |nil=>intro j g ρ s σ r a I h;exact aN h
 |cons x es i=>
  intro j g ρ s σ r a I h;induction es using List.casesOn with
  |nil=>change(_&&_)=true at a;refine aG λk=>?_;simp only[Bool.and_eq_true]at a;exact k (H A g ρ s σ x (t.c j) r a.1 q I h)
  |cons y es=>
   change(_&&_)=true at a;simp only[Bool.and_eq_true]at a;refine bO h λp u h=>bO h λb w h=>?_;have e:cn (x::y::es) F.L t j=aV x F.L (t.c j)::cn (y::es) F.L t (j+1):=pf ..;refine aB e ?_;rw[arm_evalEach_cons];have l:∃z zs,evalEach (cn (y::es) F.L t (j+1)) F.env=z::zs:=⟨_,_,arm_evalEach_cons ..⟩;refine bd l λz zs l=>?_;have m:=λ{g:G}{ρ:List Addr}{s:Shared}{σ:bo}{r:V×List aA}=>i (j+1) (g:=g) (ρ:=ρ) (s:=s) (σ:=σ) (r:=r) a.2;rw[l]at m⊢;show wpAny _ A (do
    let v<-eval (aV x F.L (t.c j)) F.env
    standAt pos
    let t<-holding [v] (truthy v)
    match op,t with
    |.And,false|.Or,true=>pure v
    |_,_=>boolOp pos op (z::zs)) _ _ _
   refine wpAny_bind (b7 (jZ λ_=>pH) (H A g ρ s σ x (t.c j) p a.1 q I u) λJ B s1 K L C o=>?_);refine wpAny_bind (wpAny_standAt (wpAny_bind (wpAny_holding (wpAny_mono (gm C o w) (λc s2 d=>?_) λ_ _ e=>e))));refine aC.elim d λM D S f E=>?_;subst E;induction op using BoolOp.casesOn<;>induction c using Bool.casesOn<;>dsimp only at h⊢
   ·cases h;exact wpAny_pure (S.post f (S.rv o))
   ·exact wpAny_mono (m (σ:=⟨σ.env,p.2⟩) f h) (λ_ _ d=>S.more d) λ_ _ e=>e
   ·exact wpAny_mono (m (σ:=⟨σ.env,p.2⟩) f h) (λ_ _ d=>S.more d) λ_ _ e=>e
   ·cases h;exact wpAny_pure (S.post f (S.rv o))
theorem rO(q:rz F gs T n){op:BoolOp}{t:PT}{pos:Pos}{k:Sem Value}(u:Ok n A):∀(es:List X)(j:Nat){g:G}{ρ:List Addr}{s:Shared}{σ:bo}{r:V×List aA}{b:Bool},gX T gs es F.L t j=true->aF F g ρ s σ->
  wJ op (ev T n σ.env) es σ.st=some r->aZ r.1=some b->wpAny (model F.B.prog F.B.w) A (isTrue (.BoolOp op (cn es F.L t j) pos) F.env k) (aC F g ρ s (λ_ _(b:Bool)(c:Bool)=>c=b) (Is b ⟨σ.env,r.2⟩)) E0 s:=by
 intro es;induction es with
 |nil=>intro j g ρ s σ r b a I h i;exact aN h
 |cons x es o=>
  intro j g ρ s σ r b a I h i;induction es using List.casesOn with
  |nil=>
   change(_&&_)=true at a;simp only[Bool.and_eq_true]at a;have e:cn [x] F.L t j=aV x F.L (t.c j)::[]:=rfl;refine aB e ?_;induction op using BoolOp.casesOn with
   |And=>
    refine isTrue_and (wpAny_mono (q A g ρ s σ x _ _ _ a.1 u I h i) (λc s2 d=>?_) λ_ _ e=>e);refine aC.elim d λw l S f m=>?_;subst m;induction c using Bool.casesOn with
    |true=>exact isTrue_and_nil (S.post (R:=λ_ _(b:Bool)(c:Bool)=>c=b) f rfl)
    |false=>exact S.post (R:=λ_ _(b:Bool)(c:Bool)=>c=b) f rfl
   |Or=>
    refine isTrue_or (wpAny_mono (q A g ρ s σ x _ _ _ a.1 u I h i) (λc s2 d=>?_) λ_ _ e=>e);refine aC.elim d λw l S f m=>?_;subst m;induction c using Bool.casesOn with
    |true=>exact S.post (R:=λ_ _(b:Bool)(c:Bool)=>c=b) f rfl
    |false=>exact isTrue_or_nil (S.post (R:=λ_ _(b:Bool)(c:Bool)=>c=b) f rfl)
  |cons y es=>
   change(_&&_)=true at a;simp only[Bool.and_eq_true]at a;refine bO h λp z h=>bO h λB v h=>?_;have e:cn (x::y::es) F.L t j=aV x F.L (t.c j)::cn (y::es) F.L t (j+1):=pf ..;refine aB e ?_;induction op using BoolOp.casesOn with
   |And=>
    refine isTrue_and (wpAny_mono (q A g ρ s σ x _ _ _ a.1 u I z v) (λc s2 d=>?_) λ_ _ e=>e);refine aC.elim d λw l S f m=>?_;subst m;induction c using Bool.casesOn with
    |true=>exact wpAny_mono (o (σ:=⟨σ.env,p.2⟩) (j+1) a.2 f h i) (λ_ _ d=>S.more d) λ_ _ e=>e
    |false=>obtain rfl:=Option.some.inj h;rw[v]at i;obtain rfl:=Option.some.inj i;exact S.post (R:=λ_ _(b:Bool)(c:Bool)=>c=b) f rfl
   |Or=>
    refine isTrue_or (wpAny_mono (q A g ρ s σ x _ _ _ a.1 u I z v) (λc s2 d=>?_) λ_ _ e=>e);refine aC.elim d λw l S f m=>?_;subst m;induction c using Bool.casesOn with
    |false=>exact wpAny_mono (o (σ:=⟨σ.env,p.2⟩) (j+1) a.2 f h i) (λ_ _ d=>S.more d) λ_ _ e=>e
    |true=>obtain rfl:=Option.some.inj h;rw[v]at i;obtain rfl:=Option.some.inj i;exact S.post (R:=λ_ _(b:Bool)(c:Bool)=>c=b) f rfl
theorem sF(H:cY F gs T n){a i:X}{t:PT}{r q:V×List aA}{v:V}(d:Ok n A)(b:bG T gs (.idx a i) F.L t=true)(I:aF F g ρ s σ)(e:ev T n σ.env a σ.st=some r)(f:ev T n σ.env i r.2=some q)(h:cW q.2 r.1 q.1=some v):
  wpAny (model F.B.prog F.B.w) A (eval (aV (.idx a i) F.L t) F.env) (aC F g ρ s (Rv F.B) (Is v ⟨σ.env,q.2⟩)) E0 s:=by
 change(_&&_)=true at b;simp only[Bool.and_eq_true]at b;rw[Bc];refine Subscript_ (b7 (jZ λ_=>jZ λ_=>pH) (H A g ρ s σ a _ _ b.1 d I e) λj c s1 x y k l=>?_);refine b7 (jZ λ_=>pH) (H A j c s1 ⟨σ.env,r.2⟩ i _ _ b.2 d k f) λz m s2 B o p u=>?_;obtain⟨w,hw⟩:=nk (σ:=⟨σ.env,q.2⟩) (A:=A) p (o.rv l) u h;exact uG (M:=model F.B.prog F.B.w) w hw
end
section
variable{F:Fx}{gs:List Str}{T:List FD}{n:Nat}{g g':G}{ρ ρ':List Addr}{s s':Shared}{σ σ':bo}{A:Around}{mg mb:Str->Option Value}
noncomputable def FM(B:Bs)(g:G)(ρ:List Addr):Option V->Value->Prop
 |none,v=>v=.none
 |some x,v=>Rv B g ρ x v
theorem bw.rvo(S:bw F g ρ s g' ρ' s'){o:Option V}{v:Value}(h:FM F.B g ρ o v):FM F.B g' ρ' o v:=by
 induction o using Option.casesOn with
 |none=>exact h
 |some x=>exact S.rv h
theorem nc(H:cY F gs T n){o:Option X}{t:PT}{r:Option V×List aA}(b:Ok n A)(a:DQ T gs o F.L t=true)(I:aF F g ρ s σ)(h:By (ev T n σ.env) o σ.st=some r):
  wpAny (model F.B.prog F.B.w) A (evalPart (Be o F.L t) F.env) (aC F g ρ s (FM F.B) (Is r.1 ⟨σ.env,r.2⟩)) E0 s:=by
 induction o using Option.casesOn with
 |none=>rw[By]at h;obtain rfl:=Option.some.inj h;rw[FI];exact wpAny_evalPart_none (aC.is I rfl)
 |some x=>rw[By,Option.map_eq_some_iff]at h;obtain⟨q,h,rfl⟩:=h;refine wpAny_evalPart_some (wpAny_mono (H A g ρ s σ x t q a b I h) (λv s2 c=>c.toI λi d j k f=>?_) λ_ _ e=>e);exact⟨some q.1,f,rfl,rfl⟩
theorem uv{B:Bs}{o:Option V}{v:Value}{i:Option Int}(r:FM B g ρ o v)(h:sH o=some i):kJ v i:=by
 induction o using Option.casesOn with
 |none=>exact Option.some.inj h▸r
 |some x=>
  induction x using V.casesOn with
  |d x=>
   induction x using PyData.casesOn with
   |int k=>exact Option.some.inj h▸Rv.eD r λr=>r.eInt λt=>⟨t,rfl⟩
   |_=>exact aN h
  |_=>exact aN h
theorem tm(H:cY F gs T n){a:X}{j k:Option X}{t:PT}{r:V×List aA}{l h':Option V×List aA}{z B:Option Int}{q:PyData×List aA}{d:PyData}(m:Ok n A)(b:bG T gs (.slc a j k) F.L t=true)(I:aF F g ρ s σ)(J:ev T n σ.env a σ.st=some r)(K:By (ev T n σ.env) j r.2=some l)(L:By (ev T n σ.env) k l.2=some h')(N:sH l.1=some z)(O:sH h'.1=some B)(P:fz r.1 h'.2=some q)(Q:iq q.1 z B=some d):
  wpAny (model F.B.prog F.B.w) A (eval (aV (.slc a j k) F.L t) F.env) (aC F g ρ s (Rv F.B) (Is (.d d) ⟨σ.env,q.2⟩)) E0 s:=by
 change(_&&_)=true at b;simp only[Bool.and_eq_true,Bool.and_eq_true]at b;refine Subscript_ (b7 (jZ λ_=>jZ λ_=>pH) (H A g ρ s σ a _ _ b.1.1 m I J) λR o s1 va S1 S U=>wpAny_Slice ?_);refine wpAny_mono (nc H (σ:=⟨σ.env,r.2⟩) m b.1.2 S K) (λp s2 f=>?_) λ_ _ e=>e;refine aC.elim f λg2 Y Z C r2=>wpAny_mono (nc H (σ:=⟨σ.env,l.2⟩) m b.2 C L) (λu c f=>?_) λ_ _ e=>e;refine aC.elim f λg3 v D w r3=>wpAny_evalPart_none ?_;have i:=Z.trans C D ⟨_,w⟩;refine aG λx=>aK (b5 (σ:=⟨σ.env,h'.2⟩) r.1 w (i.rv U) P) λg4 h_=>eY h_ λS4 E rd=>?_;obtain⟨y,hw⟩:=v3 (A:=A) (E.push {cls:=.type "slice",data:=.fields #[p,u,.none]} c.toks) rd (Heap.IsSliceOf.new c.heap p u .none) (uv (D.rvo r2) N) (uv r3 O) Q;refine x (uG (M:=model F.B.prog F.B.w) y (wpAny_mono hw (λ_ _ f=>?_) λ_ _ e=>e));have S5:bw F R o s1 g4 v {c with heap:=c.heap.push {cls:=.type "slice",data:=.fields #[p,u,.none]}}:=
  (i.trans w S4 ⟨_,E⟩).out (W:=[]) (λ_ h=>nomatch h) (St.push c _ c.toks)
 exact S5.more f
theorem p8(H:cY F gs T n){f:Str}{a:X}{t:PT}{r:V×List aA}{v:V}(d:Ok n A)(b:bG T gs (.fmt1 f a) F.L t=true)(I:aF F g ρ s σ)(i:ev T n σ.env a σ.st=some r)(j:p7 f r.1=some v):
  wpAny (model F.B.prog F.B.w) A (eval (aV (.fmt1 f a) F.L t) F.env) (aC F g ρ s (Rv F.B) (Is v ⟨σ.env,r.2⟩)) E0 s:=by
 have k:bw F g ρ s g ρ {s with toks:=s.toks+1}:=bw.refl.out (W:=[]) (λ_ h=>nomatch h) (St.toks s _);refine wpAny_BinOp (wpAny_Constant_str (wpAny_mono (H A g ρ {s with toks:=s.toks+1} σ a _ _ b d (I.toks _) i) (λq s1 c=>?_) λ_ _ e=>e));exact aC.elim c λu l m o p=>wpAny_mono (ss (σ:=⟨σ.env,r.2⟩) o p j) (λ_ _ c=>k.more (m.more c)) λ_ _ e=>e
theorem p9(H:cY F gs T n){f:Str}{a:X}{t:PT}{r:V×List aA}{v:V}(d:Ok n A)(b:bG T gs (.fmt3 f a) F.L t=true)(I:aF F g ρ s σ)(i:ev T n σ.env a σ.st=some r)(j:nh f r.1=some v):
  wpAny (model F.B.prog F.B.w) A (eval (aV (.fmt3 f a) F.L t) F.env) (aC F g ρ s (Rv F.B) (Is v ⟨σ.env,r.2⟩)) E0 s:=by
 have k:bw F g ρ s g ρ {s with toks:=s.toks+1}:=bw.refl.out (W:=[]) (λ_ h=>nomatch h) (St.toks s _);refine wpAny_BinOp (wpAny_Constant_str (wpAny_mono (H A g ρ {s with toks:=s.toks+1} σ a _ _ b d (I.toks _) i) (λq s1 c=>?_) λ_ _ e=>e));exact aC.elim c λu l m o p=>wpAny_mono (su (σ:=⟨σ.env,r.2⟩) o p j) (λ_ _ c=>k.more (m.more c)) λ_ _ e=>e
theorem ip{L:List bl}{t:PT}{pos:Pos}{env:Env}:∀(es:List X)(j:Nat),(backTo pos (starEach (cn es L t j) env)).any (·.1)=false:=by
 intro a;induction a with
 |nil=>exact λj=>rfl
 |cons e es b=>intro j;simp only[pf,aW];refine Eq.trans (b (j+1)) ?_;rfl
theorem gl{L:List bl}{t:PT}:∀(es:List X)(j:Nat),(cn es L t j).length=es.length:=by
 intro a;induction a with
 |nil=>exact λj=>rfl
 |cons e es b=>exact λj=>congrArg (·+1) (b (j+1))
theorem wI(b:Bi):(b.name,b.fn)∈mx:=by induction b using Bi.casesOn<;>decide
theorem pz{f:Value}{M:Model}{E:Value->Shared->Prop}{pos:Pos}{tr:Sem Value}{Q:Value->Shared->Prop}(b:(∃i,f=.builtin i)\/∃i,f=.type i)(h:wpAny M A tr (λv a=>wpAny M A (call f [v]) Q E a) E s):
  wpAny M A (callWith pos f [] [(false,tr)] []) Q E s:=by
 rcases b with⟨i,rfl⟩|⟨i,rfl⟩
 ·exact PySem.callWith_builtin1 h
 ·exact PySem.callWith_type1 h
theorem Bp(x:X)(L:List bl)(t:PT)(pos:Pos)(env:Env):backTo pos (starEach [aV x L t] env)=[(false,eval (aV x L t) env)]:=by rw[aW];rfl
theorem uT(e:Wf F gs)(gd:Gd0 F.B mg mb)(H:cY F gs T n){b:Bi}{a:X}{t:PT}{r v:V×List aA}(f:Ok n A)(c:bG T gs (.bi b a) F.L t=true)(I:aF F g ρ s σ)(h:ev T n σ.env a σ.st=some r)(i:∀{g:G}{ρ:List Addr}{s:Shared}{d:Value},aF F g ρ s ⟨σ.env,r.2⟩->Rv F.B g ρ r.1 d->wpAny (model F.B.prog F.B.w) A (call b.fn [d]) (aC F g ρ s (Rv F.B) (Is v.1 ⟨σ.env,v.2⟩)) E0 s):
  wpAny (model F.B.prog F.B.w) A (eval (aV (.bi b a) F.L t) F.env) (aC F g ρ s (Rv F.B) (Is v.1 ⟨σ.env,v.2⟩)) E0 s:=by
 change(_&&_)=true at c;rw[Bool.and_eq_true,List.contains_iff_mem]at c;refine wpAny_Call_NameR (dr e gd I c.1 (wI b) ?_);rw[Bp];refine pz (by induction b using Bi.casesOn<;>first|exact .inl ⟨_,rfl⟩|exact .inr ⟨_,rfl⟩) (b7 (jZ λ_=>pH) (H A g ρ s σ a _ _ c.2 f I h) λm j s1 d o k l=>?_);exact i k l
theorem oK(f:Wf F gs)(gd:Gd0 F.B mg mb)(H:cY F gs T n){a:X}{t:PT}{x:PyData}{st:List aA}{b:Bool}(i:Ok n A)(c:bG T gs (.isTup a) F.L t=true)(I:aF F g ρ s σ)(j:ev T n σ.env a σ.st=some (.d x,st))(k:FX x=some b):
  wpAny (model F.B.prog F.B.w) A (eval (aV (.isTup a) F.L t) F.env) (aC F g ρ s (Rv F.B) (Is (.d (.bool b)) ⟨σ.env,st⟩)) E0 s:=by
 change(_&&_)=true at c;simp only[Bool.and_eq_true,Bool.and_eq_true,List.contains_iff_mem,List.contains_iff_mem]at c;refine wpAny_Call_NameR (dr (v:=.builtin "isinstance") f gd I c.1.1 (by decide) ?_);refine PyProof.Rows.callWith_builtin1 (args_cons (b7 (jZ λ_=>jZ λ_=>pH) (H A g ρ s σ a _ _ c.2 i I j) λm l s1 o p h e=>?_) (aW ..)) (aW ..) rfl;refine args_cons (dr (v:=.type "tuple") f gd h c.1.2 (by decide) (args_nil ?_)) rfl;exact e.eD λe=>by exact qp (σ:=⟨σ.env,st⟩) h e k
theorem fR{T:List FD}{gs:List Str}{x:X}{L:List bl}{t:PT}{nm:Str}{env:Env}{a:Sem Value}(h:bG T gs x L t=true):attributeBase (aV x L t) nm env a=a:=by
 induction x using X.casesOn with
 |call f n es=>
  rw[yY];change(_&&_)=true at h;simp only[Bool.and_eq_true,decide_eq_true_eq]at h;induction es using List.casesOn with
  |nil=>exact absurd rfl h.1.2
  |cons e es=>rfl
 |_=>rfl
theorem xi{L:List bl}{t:PT}{pos:Pos}{env:Env}{es:List X}{j:Nat}(h:es.length<25):((backTo pos (starEach (cn es L t j) env)).all (λx=>!x.1)&&(backToKw pos (keywordEach [] env)).all (λx=>x.1.isSome)
   &&decide ((cn es L t j).length+([]:List Keyword).length+(if([]:List Keyword).isEmpty then 0 else 1)<30))=true:=by
 have a:(backTo pos (starEach (cn es L t j) env)).all (λx=>!x.1)=true:=by have:=ip (L:=L) (t:=t) (pos:=pos) (env:=env) es j;rw[List.all_eq_true];rw[List.any_eq_false]at this;intro x b;have:=this x b;simpa using this
 refine aB a ?_;rw[gl];show decide (es.length+0+0<30)=true;exact decide_eq_true (by lia)
theorem jR{L:List bl}{t:PT}{es:List X}{j:Nat}(h:es.length≠0):∃e r,es=e::r/\cn es L t j=aV e L (t.c j)::cn r L t (j+1):=by
 induction es using List.casesOn with
 |nil=>exact absurd rfl h
 |cons e r=>exact⟨e,r,rfl,rfl⟩
theorem sR(H:cY F gs T n){m:Me}{o:X}{es:List X}{t:PT}{r v:V×List aA}{q:List V×List aA}(c:Ok n A)(a:bG T gs (.meth m o es) F.L t=true)(I:aF F g ρ s σ)(u:ev T n σ.env o σ.st=some r)(i:oX r.2 m r.1=true)(w:pk (ev T n σ.env) es r.2=some q)(x:d7 q.2 m r.1 q.1=some v):
  wpAny (model F.B.prog F.B.w) A (eval (aV (.meth m o es) F.L t) F.env) (aC F g ρ s (Rv F.B) (Is v.1 ⟨σ.env,v.2⟩)) E0 s:=by
 refine aG λd=>?_;change(_&&_)=true at a;simp only[Bool.and_eq_true,decide_eq_true_eq]at a;obtain⟨⟨⟨⟨y,z⟩,B⟩,k⟩,C⟩:=a;refine eY (AD m r.1) λD E J=>d (wpAny_Call_method (fR k) (xi z) y D E J (wpAny_mono (H A g ρ s σ o _ _ k c I u) (λS s1 b=>?_) λ_ _ e=>e));refine aC.elim b λU K M f h=>⟨((qM f h i).1),((qM f h i).2),?_⟩;have key:=dv H (A:=A) (σ:=⟨σ.env,r.2⟩) (t:=t) (pos:=t.p) c es 1 C f w;refine bd (jR (L:=F.L) (t:=t) (j:=1) B) λe l N=>?_;obtain⟨rfl,O⟩:=N;rw[O]at key⊢;refine callWith_method1 (wpAny_mono key (λvs s2 b=>?_) λ_ _ e=>e) (aW ..) (ip ..);exact aC.elim b λW P p Q R=>wpAny_mono (vO (σ:=⟨σ.env,q.2⟩) c Q (p.rv h) R x) (λ_ _ b=>M.more (p.more b)) λ_ _ e=>e
theorem o6(H:cY F gs T n){o a:X}{t:PT}{x y:Str}{st b:List aA}(l:Ok n A)(c:bG T gs (.split o a) F.L t=true)(I:aF F g ρ s σ)(p:ev T n σ.env o σ.st=some (.d (.str x),st))(q:ev T n σ.env a st=some (.d (.str y),b))(r:(y.length==0)=false)(v:x.length<=1000000)(w:(Txt.split x y).length<=sizeLine):
  wpAny (model F.B.prog F.B.w) A (eval (aV (.split o a) F.L t) F.env) (aC F g ρ s (Rv F.B) (Is (.ref b.length) ⟨σ.env,b++[.list ((Txt.split x y).map .str)]⟩)) E0 s:=by
 change(_&&_)=true at c;simp only[Bool.and_eq_true]at c;refine aG λh=>?_;obtain⟨⟨z,m⟩,B⟩:=c;refine h (wpAny_Call_method (fR m) (by rw[aW];rfl) z PySem.F.plainAttrs_str PySem.F.slot_str_split PySem.F.type_str_split (wpAny_mono (H A g ρ s σ o _ _ m l I p) (λM s1 f=>?_) λ_ _ e=>e));refine aC.elim f λC i D E j=>?_;exact j.eD λj=>by cases j with|str x u=>
  refine⟨typeIs_str _ _ _,⟨(λa e=>nomatch e),?_⟩⟩;refine callWith_method1 (args_cons (wpAny_mono (H A C i s1 ⟨σ.env,st⟩ a _ _ B l E q) (λN s2 f=>args_nil ?_) λ_ _ e=>e) (aW ..)) (aW ..) rfl;refine aC.elim f λO J K L k=>?_;exact k.eD λk=>by cases k with|str y P=>exact wpAny_mono (q5 (σ:=⟨σ.env,b⟩) L r v w) (λ_ _ f=>D.more (K.more f)) λ_ _ e=>e
theorem sz(k:Nat):(List.foldl (λ(a b:Array Value)=>a++b) #[] (List.replicate k #[Value.none])).toList=List.replicate k .none:=by
 have key:∀(k:Nat)(acc:Array Value),(List.foldl (λ(a b:Array Value)=>a++b) acc (List.replicate k #[Value.none])).toList=acc.toList++List.replicate k .none:=by
  intro k;induction k with
  |zero=>intro acc;simp
  |succ k c=>intro acc;rw[List.replicate_succ,List.foldl_cons,c];simp[List.replicate_succ]
 simpa using key k #[]
theorem yC{prog:Program}{w:World}:∀k:Nat,aD prog w g (List.replicate k .none) (List.replicate k .none):=by
 intro a;induction a with
 |zero=>exact .nil
 |succ k b=>exact .cons .none (b)
theorem qK{k:Int}{t:PT}(f:0<=k/\k<=64)(I:aF F g ρ s σ):
  wpAny (model F.B.prog F.B.w) A (eval (aV (.nones k) F.L t) F.env) (aC F g ρ s (Rv F.B) (Is (.ref σ.st.length) ⟨σ.env,σ.st++[.list (List.replicate k.toNat .none)]⟩)) E0 s:=by
 refine wpAny_BinOp (wpAny_List (args_cons (wpAny_Constant_none (args_nil ⟨by decide,wpAny_Constant_int ?_⟩)) rfl));have hl:(s.heap.push {cls:=.type "list",data:=.seq #[Value.none]}).get? s.heap.objs.size=some {cls:=.type "list",dict:=none,data:=.seq #[Value.none],slots:=#[]}:=Heap.get?_push_size _ rfl;generalize a:s.heap.push {cls:=.type "list",data:=.seq #[Value.none]}=h1 at hl;have c:aF F g ρ {s with heap:=h1,toks:=s.toks+1} σ:=by rw[<-a];exact I.push _ _
 have d:bw F g ρ s g ρ {s with heap:=h1,toks:=s.toks+1}:=by rw[<-a];exact bw.refl.out (W:=[]) (λ_ h=>nomatch h) (St.push s _ _)
 have e1:[Value.none].toArray=#[Value.none]:=rfl;refine wpAny_binaryOp_repeat_ref (T:="list") (U:="int") (by decide) ⟨_,hl,rfl⟩ (λs'=>typeIs_int s' _ _) noFill_list_mul PySem.F.fills_int_mul PySem.F.slot_int_rmul repeat_list PySem.F.slot_int_index.lookup
  (call_meets PySem.F.slot_int_rmul (typeIs_int _ _ _) PySem.F.entry_int_rmul (PySem.F.args_int_rmul_2 _ _) (int___rmul___int_list k _ _ #[Value.none] _)
   ⟨hl,rfl,⟨_,hl,rfl⟩,call_meets PySem.F.slot_list_mul ⟨_,hl,rfl⟩ PySem.F.entry_list_mul (PySem.F.args_list_mul_2 _ _)
    (AutoListH.list___mul___list_int_3 _ #[Value.none] _ k _ (by simp[Builtin.List.listFitsIndex];lia) (by simp;lia) (by simp[Builtin.List.listTooLong,sizeLine];lia))
    ⟨hl,?_⟩⟩)
 refine d.more (ut c (aU _) (λb o e=>Heap.get?_push_of_some _ e) rfl rfl ⟨c.none_g (aU _),_,_,Heap.get?_push_size _ rfl,?_⟩);simp only[((rfl:(if(#[Value.none]:Array Value).isEmpty=true then 0 else k.toNat)=k.toNat)),sz];exact yC _
end
end Mine
end
noncomputable section
open PySem PySem.Calls PySem.Spec PySem.W PyProof.Rows Builtin.Str
set_option backward.match.sparseCases false
namespace Mine
section
variable{F:Fx}{gs:List Str}{T:List FD}{n:Nat}{g g':G}{ρ ρ':List Addr}{s s':Shared}{σ σ':bo}{A:Around}{mg mb:Str->Option Value}
noncomputable def yt:V->Option (List V)
 |.d (.tuple ds)=>some (ds.map .d)
 |.d (.list ds)=>some (ds.map .d)
 |.tup vs=>some vs
 |_=>none
theorem mZ{is:List Nat}{v:V}{env env':List V}(h:cd (.tup is) v env=some env'):∃vs,yt v=some vs/\dL is vs env=some env':=by
 induction v using V.casesOn with
 |d x=>induction x using PyData.casesOn with
  |tuple ds=>exact⟨_,rfl,h⟩
  |list ds=>exact⟨_,rfl,h⟩
  |_=>exact aN h
 |tup vs=>exact⟨_,rfl,h⟩
 |_=>exact aN h
theorem e6{is:List Nat}:∀{vs env env':List V},dL is vs env=some env'->is.length=vs.length:=by
 induction is with
 |nil=>
  intro vs env env' h;induction vs using List.casesOn with
  |nil=>rfl
  |cons v vs=>exact aN h
 |cons i is a=>
  intro vs env env' h;induction vs using List.casesOn with
  |nil=>exact aN h
  |cons v vs=>exact congrArg (·+1) (a h)
theorem yB{B:Bs}{vs:List Value}{ds:List PyData}(r:aD B.prog B.w g vs ds):aM B g ρ (ds.map .d) vs:=by
 induction r using aD.ind with
 |nil=>exact .nil
 |cons a b c=>exact .cons (.d a) c
theorem qR{v:V}{vs:List V}{q:Value}{k:Nat}(j:A.handled=none)(I:aF F g ρ s σ)(r:Rv F.B g ρ v q)(h:yt v=some vs)(i:k=vs.length):
  wpAny (model F.B.prog F.B.w) A (unpackItems q k none) (aC F g ρ s (aM F.B) (Is vs σ)) E0 s:=by
 subst i;have fin:∀{items:Array Value},aM F.B g ρ vs items.toList->∀h',Heap.ExtBut s.heap.objs.size s.heap h'->aC F g ρ s (aM F.B) (Is vs σ) items.toList {s with heap:=h'}:=λr h' t=>by have i:∀b o,s.heap.get? b=some o->h'.get? b=some o:=λb o e=>t b o (Nat.ne_of_lt (Heap.lt_size e)) e;exact aC.by (St.kept' i rfl rfl) (I.grow (St.kept' i rfl rfl) λb o e=>i b o (I.so.sub b o e)) r ⟨rfl,rfl⟩
 induction v using V.casesOn with
 |d x=>induction x using PyData.casesOn with
  |tuple ds=>
   cases h;cases r with|d r=>
    obtain⟨a,c,m,l,f⟩:=r.isT I.so.sub;have hl:c.size=(ds.map V.d).length:=by have:=f.length;rw[List.length_map,<-this,Array.length_toList]
    rw[<-hl];exact wpAny_unpackItems_tuple j (cj l) (fin (yB f))
  |list ds=>
   cases h;cases r with|d r=>
    obtain⟨a,c,m,l,f⟩:=r.isL I.so.sub;have hl:c.size=(ds.map V.d).length:=by have:=f.length;rw[List.length_map,<-this,Array.length_toList]
    rw[<-hl];exact kun_itemsOf j l.isList (fin (yB f))
  |_=>exact aN h
 |tup vs=>
  obtain rfl:=Option.some.inj h;refine aG λp=>?_;cases r with
  |tup u f=>
   refine p ?_
   rename_i c m
   have hl:c.size=vs.length:=by have:=f.length;rw[this,Array.length_toList]
   exact aB (Eq.symm (hl)) (wpAny_unpackItems_tuple j (cj (I.so.sub _ _ u)) (fin f))
 |_=>exact aN h
noncomputable def nK(F:Fx)(t:Value->Sem Unit)(i:Nat):Prop:=∀(A:Around)(g:G)(ρ:List Addr)(s:Shared)(σ:bo)(v:V)(a:Value),aF F g ρ s σ->Rv F.B g ρ v a->
 wpAny (model F.B.prog F.B.w) A (t a) (aC F g ρ s (λ_ _ _ _=>True) (Is () ⟨eA σ.env i v,σ.st⟩)) E0 s
inductive eg(F:Fx):List (Value->Sem Unit)->List Nat->Prop
 |nil:eg F [] []
 |cons {t:Value->Sem Unit} {ts:List (Value->Sem Unit)} {i:Nat} {is:List Nat}:nK F t i->eg F ts is->eg F (t::ts) (i::is)
theorem hU:∀{c:List (Value->Sem Unit)}{is:List Nat},eg F c is->∀{vs:List V}{a:List Value}{g:G}{ρ:List Addr}{s:Shared}{σ:bo}{env':List V},aF F g ρ s σ->aM F.B g ρ vs a->dL is vs σ.env=some env'->
  wpAny (model F.B.prog F.B.w) A (assignInOrder c a) (aC F g ρ s (λ_ _(_:Unit)_=>True) (Is () ⟨env',σ.st⟩)) E0 s
 :=λ{c is}d=>by
 induction d with
 |nil=>
  intro vs a g ρ s σ env' I r h;induction r using aM.casesOn with
  |nil=>exact Option.some.inj h▸wpAny_pure (aC.is I trivial)
  |cons _ _=>exact aN h
 |@cons t c i is b d e=>
  intro vs a g ρ s σ env' I r h;induction r using aM.casesOn with
  |nil=>exact aN h
  |@cons v m vs a r f=>refine wpAny_bind (wpAny_holding (b7 (jZ λ_=>pH) (b A g ρ s σ v _ I r) λo j s1 u k l p=>?_));exact e (σ:=⟨eA σ.env i v,σ.st⟩) l (k.rvs f) h
theorem dB{L:List bl}{i:Nat}{p:bl->Bool}(h:(L[i]?).any p=true):∃v,L[i]?=some v/\p v=true:=by
 cases q:L[i]?with
 |none=>rw[q]at h;exact en h
 |some v=>rw[q]at h;exact⟨v,rfl,h⟩
theorem e9{i:Nat}(d:ca F.L F.env)(a:(F.L[i]?).any (·.mine)=true):nK F (bindName F.env (nm F.L i)) i:=λA g ρ s σ v f I r=>by refine aG λb=>aK (dB a) λx e=>cx e λc a=>b (aB (f9 c) ?_);exact rM d I c a r ⟨rfl,rfl⟩
theorem eo{i:Nat}{p:Pos}(a:ca F.L F.env)(b:(F.L[i]?).any (·.mine)=true):nK F (assign (.Name (nm F.L i) p) F.env) i:=λA g ρ s σ v c I r=>by exact wpAny_bind (wpAny_standAt (e9 a b A g ρ s σ v c I r))
theorem m6{t:PT}(b:ca F.L F.env):∀(is:List Nat)(j:Nat),is.all (λi=>(F.L[i]?).any (·.mine))=true->
  eg F ((assignEach (fB F.L t is j) F.env).map (·.2)) is/\(assignEach (fB F.L t is j) F.env).length=is.length/\(assignEach (fB F.L t is j) F.env).findIdx? (·.1)=none
 |[],j,h=>⟨.nil,rfl,rfl⟩
 |i::is,j,h=>by simp only[List.all_cons,Bool.and_eq_true]at h;refine aG λa=>eY (m6 (t:=t) b is (j+1) h.2) λc d e=>a (aB ((rfl:assignEach (fB F.L t (i::is) j) F.env=(false,assign (.Name (nm F.L i) (t.c j).p) F.env)::assignEach (fB F.L t is (j+1)) F.env)) ?_);refine⟨.cons (eo b h.1) c,congrArg (·+1) d,?_⟩;refine aB (List.findIdx?_cons) ?_;refine aB e ?_;rfl
theorem d5{t:dJ}{p:PT}{v:V}{b:Value}{env':List V}(d:ca F.L F.env)(f:Ok n A)(a:qN t F.L=true)(I:aF F g ρ s σ)(r:Rv F.B g ρ v b)(h:cd t v σ.env=some env'):
  wpAny (model F.B.prog F.B.w) A (assign (g0 F.L p t) F.env b) (aC F g ρ s (λ_ _(_:Unit)_=>True) (Is () ⟨env',σ.st⟩)) E0 s:=by
 induction t using dJ.casesOn with
 |v i=>exact(Option.some.inj (h:some (eA σ.env i v)=some env'))▸(eo d a A g ρ s σ v b I r)
 |tup is=>refine aG λc=>aK (mZ h) λvs j=>cx j λk e=>eY (m6 (t:=p) d is 0 a) λl m o=>c (wpAny_bind (wpAny_standAt ?_));unfold unpack;refine aB m (aB o ?_);refine wpAny_bind (wpAny_holding (b7 (jZ λ_=>pH) (qR f.handled I r k (e6 e)) λy q s1 u z w x=>?_));exact hU l w x e
theorem Dq{x:X}{L:List bl}{t:PT}{e:List Expr}{k:Nat}{p:Pos}{l:Nat}{env:Env}:swapsWithSole [.Tuple e k p] (aV x L t) l env=pure false:=by induction x using X.casesOn<;>rfl
theorem Dp{x:X}{L:List bl}{t:PT}{a b:Expr}{p:Pos}{l:Nat}{env:Env}:swapsWith (aV x L t) (some (.Subscript a b p)) l env=pure false:=by induction x using X.casesOn<;>rfl
noncomputable def oP:X->Bool
 |.lc ..=>false
 |.dc ..=>false
 |_=>true
theorem Ba{x:X}{L:List bl}{t:PT}{l:Nat}{env:Env}(h:oP x=true):swapsWith (aV x L t) none l env=pure false:=by induction x using X.casesOn<;>first|rfl|exact en h
theorem A9{x:X}{L:List bl}{t:PT}{n:Str}{p:Pos}{l:Nat}{env:Env}(h:oP x=true\/env.kindOf n≠some .local):swapsWith (aV x L t) (some (.Name n p)) l env=pure false:=by
 rcases h with h|h
 ·induction x using X.casesOn<;>first|rfl|exact en h
 ·have e:(env.kindOf n==some NameKind.local)=false:=by rw[beq_eq_false_iff_ne];exact h
  induction x using X.casesOn<;>first|rfl|((first|rw[mo]|rw[mn]);unfold swapsWith;simp only[e,Bool.and_false,Bool.false_and];done)|((first|rw[mo]|rw[mn]);unfold swapsWith;simp only[e,Bool.and_false,Bool.false_and];rfl)
theorem fZ{d i:Type}{f:d->Option i}:∀{l:List d},(∃x∈l,f x=none)->(l.filterMap f).length<l.length
 |[],⟨x,c,_⟩=>nomatch c
 |a::l,⟨x,c,h⟩=>by
  cases q:f a with
  |none=>exact aB (List.filterMap_cons_none q) (Nat.lt_succ_of_le (List.length_filterMap_le f l))
  |some b=>
   refine aB (List.filterMap_cons_some q) (aB (List.length_cons) ?_);refine Or.elim (List.mem_cons.mp c) (λe=>?_) λe=>?_
   ·subst e;replace h:=Eq.trans (Eq.symm q) h;exact iu h
   ·exact Nat.succ_lt_succ (fZ ⟨x,e,h⟩)
noncomputable def yj(is:List Nat)(L:List bl):X->Bool
 |.tup es=>!(is.length==2||is.length==3)||is.any (λi=>(L[i]?).any λv=>v.kind !=.local)
 |_=>true
theorem kg{L:List bl}{t:PT}:∀(is:List Nat)(j:Nat),(fB L t is j).length=is.length:=by
 intro a;induction a with
 |nil=>exact λ_=>rfl
 |cons i is b=>exact λj=>congrArg (·+1) (b (j+1))
theorem ri{L:List bl}{t:PT}{i:Nat}:∀{is:List Nat}(j:Nat),i∈is->∃p,Expr.Name (nm L i) p∈fB L t is j
 |[],_,h=>nomatch h
 |k::is,j,h=>by
  rcases List.mem_cons.mp h with e|e
  ·exact e▸(⟨_,.head _⟩)
  ·obtain⟨p,a⟩:=ri (t:=t) (j+1) e;exact⟨p,.tail _ a⟩
theorem qJ{is:List Nat}{x:X}{t a:PT}{k:Nat}{p:Pos}(e:ca F.L F.env)(h:yj is F.L x=true):
  swappedStores [.Tuple (fB F.L a is 0) k p] (aV x F.L t) F.env=pure none:=by
 induction x using X.casesOn with
 |tup es=>
  rw[Bd];have h':(!(is.length==2||is.length==3)||is.any (λi=>(F.L[i]?).any λv=>v.kind !=.local))=true:=h;simp only[Bool.or_eq_true]at h';unfold swappedStores
  dsimp only
  split
  ·rfl
  ·rename_i h1
   rw[kg]at h1;have j:(!(is.length==2||is.length==3))=false:=by
    cases q:(!(is.length==2||is.length==3))with
    |false=>rfl
    |true=>exact absurd (by rw[q];rfl) h1
   rw[j]at h';refine aG λb=>?_;obtain⟨i,l,c⟩:=List.any_eq_true.mp (h'.resolve_left (by decide));refine aK (dB c) λv m=>?_;obtain⟨d,c⟩:=m;refine b ?_;split
   ·rfl
   ·have key:∀{f:Expr->Option Str},(∀p,f (.Name (nm F.L i) p)=none)->(((fB F.L a is 0).filterMap f).length !=(fB F.L a is 0).length)=true:=λo=>by refine aK (ri (L:=F.L) (t:=a) (i:=i) 0 l) λp r=>?_;have:=fZ ⟨_,r,o p⟩;rw[bne_iff_ne];omega
    rw[key]
    ·rfl
    ·intro p
     dsimp only
     refine aB (f9 d) (aB ((e.names i v d).1) ?_);have:(some v.kind==some NameKind.local)=false:=by
      rw[beq_eq_false_iff_ne];intro q;injection q with q
      simp[q]at c
     refine aB this ?_;rfl
 |_=>rfl
end
noncomputable def pc(is:List Nat)(es:List X)(L:List bl)(a b:PT):Bool:=
 (is.length==2||is.length==3)&&es.length==is.length&&is.all (λi=>(L[i]?).any λv=>v.kind==.local&&v.mine)&&(List.range is.length).all (λj=>(a.c j).p.line==(a.c 0).p.line)
 &&decide is.Nodup&&(is.map (nm L)).eraseDups.length==is.length&&!(cn es L b 0).all (foldedForSure 8)&&!(cn es L b 0).all (constantsAlone 8)
mutual
noncomputable def ur(T:List FD)(gs:List Str):S->List bl->PT->Bool
 |.asg g e,L,t=>qN g L&&bG T gs e L (t.c 1)&&(match g with
  |.v i=>oP e||(L[i]?).any (λv=>v.kind !=.local)
  |.tup is=>yj is L e)
 |.asgC i e,L,t=>bG T gs e L (t.c 1)&&(L[i]?).any (λv=>v.kind==.local&&v.mine)&&(match e with
  |.lc _ _ _ _ C=>(t.c 0).p.line==(t.c 1).p.line&&!(C.scope.names.any λ(n,k)=>n==nm L i&&(k==.local||k==.cell))
  |.dc _ _ _ _ C=>(t.c 0).p.line==(t.c 1).p.line&&!(C.scope.names.any λ(n,k)=>n==nm L i&&(k==.local||k==.cell))
  |_=>false)
 |.asgS is es,L,t=>gX T gs es L (t.c 1) 0&&pc is es L (t.c 0) (t.c 1)
 |.asgI b i e,L,t=>bG T gs b L ((t.c 0).c 0)&&bG T gs i L ((t.c 0).c 1)&&bG T gs e L (t.c 1)
 |.aug i _ e,L,t=>(L[i]?).any (·.mine)&&bG T gs e L (t.c 1)
 |.augI b i _ e,L,t=>bG T gs b L ((t.c 0).c 0)&&bG T gs i L ((t.c 0).c 1)&&bG T gs e L (t.c 1)
 |.ex e,L,t=>oP e&&bG T gs e L (t.c 0)
 |.for g it body,L,t=>qN g L&&zg T gs it L (t.c 1)&&oY T gs body L (t.c 2) 0&&(BC it||yW it g)
 |.ite c a b,L,t=>bG T gs c L (t.c 0)&&oY T gs a L (t.c 1) 0&&oY T gs b L (t.c 2) 0
 |.ret e,L,t=>bG T gs e L (t.c 0)
 |.brk,_,_=>true
 |.asrt e,L,t=>bG T gs e L (t.c 0)
 |.del b i,L,t=>bG T gs b L ((t.c 0).c 0)&&bG T gs i L ((t.c 0).c 1)
noncomputable def oY(T:List FD)(gs:List Str):List S->List bl->PT->Nat->Bool
 |[],_,_,_=>true
 |s::a,L,t,j=>ur T gs s L (t.c j)&&oY T gs a L t (j+1)
end
section
variable{F:Fx}{gs:List Str}{T:List FD}{n:Nat}{g g':G}{ρ ρ':List Addr}{s s':Shared}{σ σ':bo}{A:Around}{mg mb:Str->Option Value}
inductive ed(B:Bs)(g:G)(ρ:List Addr):Fl->Flow->Prop
 |nx:ed B g ρ .nx .next
 |brk:ed B g ρ .brk .brk
 |ret {v:V} {rv:Value}:Rv B g ρ v rv->ed B g ρ (.ret v) (.ret rv)
theorem bw.fl(S:bw F g ρ s g' ρ' s'){v:Fl}{a:Flow}(r:ed F.B g ρ v a):ed F.B g' ρ' v a:=by
 induction r using ed.casesOn with
 |nx=>exact .nx
 |brk=>exact .brk
 |ret r=>exact .ret (S.rv r)
noncomputable def Ga(F:Fx)(gs:List Str)(T:List FD)(n:Nat):Prop:=∀(A:Around)(g:G)(ρ:List Addr)(s:Shared)(σ:bo)(x:S)(t:PT)(r:Fl×List V×List aA),ur T gs x F.L t=true->Ok n A->aF F g ρ s σ->
 ex T n σ.env x σ.st=some r->wpAny (model F.B.prog F.B.w) A (exec (rj x F.L t) F.env) (aC F g ρ s (ed F.B) (Is r.1 ⟨r.2.1,r.2.2⟩)) E0 s
noncomputable def nL(F:Fx)(gs:List Str)(T:List FD)(n:Nat):Prop:=∀(A:Around)(g:G)(ρ:List Addr)(s:Shared)(σ:bo)(x:List S)(t:PT)(j:Nat)(r:Fl×List V×List aA),oY T gs x F.L t j=true->Ok n A->aF F g ρ s σ->
 exs T n σ.env x σ.st=some r->wpAny (model F.B.prog F.B.w) A (execs (mN x F.L t j) F.env) (aC F g ρ s (ed F.B) (Is r.1 ⟨r.2.1,r.2.2⟩)) E0 s
theorem jl{env:List V}{a b:Nat}{x y:V}(h:a≠b):eA (eA env a x) b y=eA (eA env b y) a x:=by simp only[cG,cG,cG,cG,List.set_comm _ _ h]
theorem CN{b:Type}{l:List b}(h:l.length=1):∃a,l=[a]:=by
 induction l using List.casesOn with
 |nil=>exact nomatch h
 |cons a l=>exact⟨a,congrArg _ (List.length_eq_zero_iff.mp (Nat.succ.inj h))⟩
theorem x2{c:Type}{l:List c}(h:l.length=2):∃a b,l=[a,b]:=by
 induction l using List.casesOn with
 |nil=>exact nomatch h
 |cons a l=>exact(CN (Nat.succ.inj h)).elim λb e=>⟨a,b,congrArg _ e⟩
theorem ED{d:Type}{l:List d}(h:l.length=3):∃a b c,l=[a,b,c]:=by
 induction l using List.casesOn with
 |nil=>exact nomatch h
 |cons a l=>exact(x2 (Nat.succ.inj h)).elim λb e=>e.elim λc e=>⟨a,b,c,congrArg _ e⟩
theorem uS{is:List Nat}{vs env env':List V}(hl:is.length=2\/is.length=3)(f:is.Nodup)(h:dL is vs env=some env'):dL is.reverse vs.reverse env=some env':=by
 have o:=e6 h;have two:∀{a b:Nat}{x y:V},[a,b].Nodup->dL [a,b] [x,y] env=some env'->dL [b,a] [y,x] env=some env':=λ{a b x y}f h=>by
  refine aG λi=>?_;have j:=by simpa using f
  refine i (aB (Eq.symm (h)) ?_);show some (eA (eA env b y) a x)=some (eA (eA env a x) b y);exact aB (jl j) rfl
 have k:∀{a b c:Nat}{x y z:V},[a,b,c].Nodup->dL [a,b,c] [x,y,z] env=some env'->dL [c,b,a] [z,y,x] env=some env':=λ{a b c x y z}f h=>by
  have d:=by simpa using f
  refine Eq.trans (congrArg some ?_) h;show eA (eA (eA env c z) b y) a x=eA (eA (eA env a x) b y) c z;refine aB (jl d.1.1) (aB (jl d.1.2) ?_);exact aB (jl d.2) rfl
 rcases hl with l|m
 ·refine bd (x2 l) λa b e=>?_;obtain rfl:=e;refine bd (x2 (show vs.length=2 by lia)) λx y e=>?_;obtain rfl:=e;exact two f h
 ·refine cU (ED m) λa b c e=>?_;obtain rfl:=e;refine cU (ED (show vs.length=3 by lia)) λx y z e=>?_;obtain rfl:=e;exact k f h
theorem kS(c:ca F.L F.env):∀{is:List Nat},is.all (λi=>(F.L[i]?).any (·.mine))=true->eg F ((is.map (nm F.L)).map λn=>bindName F.env n) is:=by
 intro a;induction a with
 |nil=>exact@λ_=>.nil
 |cons i is b=>intro h;simp only[List.all_cons,Bool.and_eq_true]at h;exact .cons (e9 c h.1) (b h.2)
theorem sS{L:List bl}{t:PT}{f:Expr->Option Str}:∀(is:List Nat)(j:Nat),(∀(i k:Nat),i∈is->j<=k->k<j+is.length->f (.Name (nm L i) (t.c k).p)=some (nm L i))->(fB L t is j).filterMap f=is.map (nm L):=by
 intro a;induction a with
 |nil=>exact λ_ _=>rfl
 |cons i is b=>intro j h;refine aB ((rfl:fB L t (i::is) j=.Name (nm L i) (t.c j).p::fB L t is (j+1))) (aB (List.filterMap_cons_some (h i j (.head _) (Nat.le_refl _) (by simp))) ?_);exact aB (List.map_cons) (aB (b (j+1) λi k c d e=>h i k (.tail _ c) (by lia) (by rw[List.length_cons];lia)) rfl)
theorem qI{L:List bl}{t:PT}{f:Expr->Bool}(c:∀x t,f (aV x L t)=false):∀(es:List X)(j:Nat),(cn es L t j).any f=false:=by
 intro a;induction a with
 |nil=>exact λj=>rfl
 |cons e es b=>intro j;simp only[pf,List.any_cons,b (j+1),Bool.or_false];exact c _ _
theorem wc{is:List Nat}{es:List X}{t c:PT}{k m:Nat}{p p':Pos}(d:ca F.L F.env)(h:pc is es F.L c t=true):
  swappedStores [.Tuple (fB F.L c is 0) k p] (.Tuple (cn es F.L t 0) m p') F.env=pure (some (is.map (nm F.L))):=by
 unfold pc at h;simp only[Bool.and_eq_true,decide_eq_true_eq,beq_iff_eq,Bool.not_eq_true']at h;refine aG λa=>?_;obtain⟨⟨⟨⟨⟨⟨⟨e,o⟩,q⟩,r⟩,D⟩,u⟩,w⟩,y⟩:=h;refine a ?_;unfold swappedStores
 dsimp only
 have z:(F.env.blockKind !=ScopeKind.function)=false:=by unfold Env.blockKind;refine aB (d.kind) ?_;rfl
 rw[kg,gl];refine aB e (aB z ?_);rw[qI]
 rotate_left
 ·intro x t;induction x using X.casesOn<;>rfl
 refine aB (show(es.length !=is.length)=false by rw[bne_eq_false_iff_eq];exact o) ?_;have b:((fB F.L c is 0).head?.map (·.pos.line)).getD 0=(c.c 0).p.line:=by
  induction is using List.casesOn with
  |nil=>simp at e
  |cons i is=>rfl
 refine aB b ?_;rw[sS is 0 λi j B _ E=>?_]
 ·rw[List.length_map];refine aB u (aB w ?_);refine aB y ?_;simp
 ·refine aG λa=>aK (dB (List.all_eq_true.mp q i B)) λv C=>?_;obtain⟨f,l⟩:=C;simp only[Bool.and_eq_true,beq_iff_eq]at l;refine a ?_
  dsimp only
  refine aB (f9 f) (aB ((d.names i v f).1) ?_);exact aB (l.1) (if_pos (List.all_eq_true.mp r j (List.mem_range.mpr (by lia))))
theorem rI(H:cY F gs T n){is:List Nat}{es:List X}{t:PT}{r:List V×List aA}{env':List V}(B:ca F.L F.env)(C:Ok n A)(d:ur T gs (.asgS is es) F.L t=true)(I:aF F g ρ s σ)(L:pk (ev T n σ.env) es σ.st=some r)(D:dL is r.1 σ.env=some env'):
  wpAny (model F.B.prog F.B.w) A (exec (rj (.asgS is es) F.L t) F.env) (aC F g ρ s (ed F.B) (Is .nx ⟨env',r.2⟩)) E0 s:=by
 replace d:=Bool.and_eq_true_iff.mp d;have hs:=d.2;unfold pc at hs;simp only[Bool.and_eq_true,decide_eq_true_eq,beq_iff_eq,Bool.not_eq_true',Bool.or_eq_true]at hs;refine aG λf=>?_;obtain⟨⟨⟨⟨⟨⟨⟨l,k2⟩,E⟩,k4⟩,M⟩,k6⟩,k7⟩,k8⟩:=hs;refine f ?_;have q:is.all (λi=>(F.L[i]?).any (·.mine))=true:=by rw[List.all_eq_true]at E⊢;intro i N;refine aG λf=>aK (dB (E i N)) λv O=>?_;obtain⟨P,k⟩:=O;refine f (aB P ?_);exact(Bool.and_eq_true_iff.mp k).2
 refine Assign_Tuple_swapped (names:=is.map (nm F.L)) (wpAny_Tuple (wpAny_mono (dv H C es 0 d.1 I L) (λvs s2 w=>?_) λ_ _ e=>e)) rfl (wc B d.2);refine aC.elim w λj c Q R J=>?_;have hl:=J.length;have S:=e6 D;refine⟨by have:sizeLine=2^24:=rfl;rcases l with l|l<;>lia,?_⟩;have K:=R.push {cls:=.type "tuple",data:=.seq vs.toArray} s2.toks;refine aB (Eq.symm (((by rw[List.size_toArray,List.length_map];lia:vs.toArray.size=(is.map (nm F.L)).length)))) (wpAny_unpackItems_tuple C.handled (cj (Heap.get?_push_size _ rfl)) λh' U=>?_);have k:∀b o,(s2.heap.push {cls:=.type "tuple",data:=.seq vs.toArray}).get? b=some o->h'.get? b=some o:=λb o e=>U b o (Nat.ne_of_lt (Heap.lt_size e)) e;have Y:aF F j c {s2 with heap:=h'} ⟨σ.env,r.2⟩:=K.grow (s':={s2 with heap:=h'}) (St.kept' k rfl rfl) λb o e=>k b o (K.so.sub b o e);have Z:bw F g ρ s j c {s2 with heap:=h'}:=(Q.out (W:=[]) (λ_ h=>nomatch h) (St.push s2 {cls:=.type "tuple",data:=.seq vs.toArray} s2.toks)).out (W:=[]) (λ_ h=>nomatch h) (St.kept' k rfl rfl);have hb:eg F ((is.map (nm F.L)).reverse.map λn=>bindName F.env n) is.reverse:=by refine aB (Eq.symm (List.map_reverse)) (kS B ?_);exact Eq.trans (List.all_reverse) (q)
 have y:aM F.B j c r.1.reverse vs.toArray.toList.reverse:=by
  have key:∀{xs:List V}{m:List Value},aM F.B j c xs m->∀{ys:List V}{p:List Value},aM F.B j c ys p->aM F.B j c (xs.reverse++ys) (m.reverse++p):=by
   intro xs m h;induction xs generalizing m with
   |nil=>intro ys p z;cases h;exact z
   |cons x xs ih=>
    intro ys p z;cases h with
    |cons a b=>simp only[List.reverse_cons,List.reverse_cons,List.append_assoc,List.append_assoc];exact ih b (.cons a z)
  simpa using key J .nil
 refine wpAny_mono (hU hb (σ:=⟨σ.env,r.2⟩) Y y (uS l M D)) (λu s5 w=>Z.more (w.toI λg5 aa S5 I5 r5=>?_)) λ_ _ e=>e;exact⟨.nx,.nx,rfl,rfl⟩
theorem uQ(H:cY F gs T n){f:dJ}{e:X}{t:PT}{r:V×List aA}{env':List V}(j:ca F.L F.env)(k:Ok n A)(a:ur T gs (.asg f e) F.L t=true)(I:aF F g ρ s σ)(C:ev T n σ.env e σ.st=some r)(D:cd f r.1 σ.env=some env'):
  wpAny (model F.B.prog F.B.w) A (exec (rj (.asg f e) F.L t) F.env) (aC F g ρ s (ed F.B) (Is .nx ⟨env',r.2⟩)) E0 s:=by
 induction f using dJ.casesOn with
 |v i=>
  change(_&&_)=true at a;rw[Bool.and_eq_true,Bool.and_eq_true]at a;refine cx a λc l=>?_;have m:=c.1;have o:=c.2;have hs:swapsWith (aV e F.L (t.c 1)) (some (.Name (nm F.L i) (t.c 0).p)) t.p.line F.env=pure false:=A9 (by
   rcases Bool.or_eq_true_iff.mp l with h|h
   ·exact .inl h
   ·refine aK (dB h) λv E=>?_;have J:=E.1;have L:=E.2;refine .inr (aB (f9 J) ?_);refine aB ((j.names i v J).1) ?_;intro q;injection q with q;simp[q]at L)
  refine aB (exec_Assign_Name (hs:=hs)) (wpAny_bind (wpAny_standAt (wpAny_bind (wpAny_mono (H A g ρ s σ e _ _ o k I C) (λv s2 b=>?_) λ_ _ e=>e))));refine aC.elim b λK d w x y=>?_;obtain rfl:=Option.some.inj (D:some (eA σ.env i r.1)=some env');refine wpAny_bind (wpAny_standAt (wpAny_bind (wpAny_mono (e9 j m A K d s2 ⟨σ.env,r.2⟩ r.1 v x y) (λu M b=>wpAny_pure (w.more (b.toI λN z O P Q=>?_))) λ_ _ e=>e)));exact⟨.nx,.nx,rfl,rfl⟩
 |tup is=>change(_&&_)=true at a;rw[Bool.and_eq_true,Bool.and_eq_true]at a;refine aG λB=>?_;obtain⟨⟨m,o⟩,l⟩:=a;refine B (Assign_Tuple (wpAny_mono (H A g ρ s σ e _ _ o k I C) (λv s2 b=>?_) λ_ _ e=>e) Dq (qJ j l));refine aC.elim b λK d w x y=>wpAny_mono (d5 (p:=t.c 0) (σ:=⟨σ.env,r.2⟩) j k m x y D) (λu M b=>w.more (b.toI λN z O P Q=>?_)) λ_ _ e=>e;exact⟨.nx,.nx,rfl,rfl⟩
theorem rH(H:cY F gs T n){b i e:X}{t:PT}{r q p:V×List aA}{z:PyData×List aA}{f:List aA}(l:Ok n A)(a:ur T gs (.asgI b i e) F.L t=true)(I:aF F g ρ s σ)(C:ev T n σ.env e σ.st=some r)(D:ev T n σ.env b r.2=some q)(E:ev T n σ.env i q.2=some p)(J:fz r.1 p.2=some z)(K:je z.2 q.1 p.1 z.1=some f):
  wpAny (model F.B.prog F.B.w) A (exec (rj (.asgI b i e) F.L t) F.env) (aC F g ρ s (ed F.B) (Is .nx ⟨σ.env,f⟩)) E0 s:=by
 change(_&&_)=true at a;rw[Bool.and_eq_true,Bool.and_eq_true]at a;refine aG λc=>?_;obtain⟨⟨L,M⟩,N⟩:=a;refine c (wpAny_Assign_Subscript (wpAny_mono (H A g ρ s σ e _ _ N l I C) (λv s1 d=>?_) λ_ _ e=>e) Dp);refine aC.elim d λO m P x Q=>wpAny_mono (H A O m s1 ⟨σ.env,r.2⟩ b _ _ L l x D) (λov s2 d=>?_) λ_ _ e=>e;refine aC.elim d λR o S y U=>wpAny_mono (H A R o s2 ⟨σ.env,q.2⟩ i _ _ M l y E) (λiv s3 d=>?_) λ_ _ e=>e;refine aC.elim d λg3 W B j Y=>?_;have h:=S.trans y B ⟨_,j⟩;refine aG λc=>aK (b5 (σ:=⟨σ.env,p.2⟩) r.1 j (h.rv Q) J) λg4 Z=>eY Z λw k rd=>c (wpAny_mono (me (σ:=⟨σ.env,z.2⟩) k ((B.trans j w ⟨_,k⟩).rv U) (w.rv Y) rd K) (λu s5 d=>(P.trans x (h.trans j w ⟨_,k⟩) ⟨_,k⟩).more (d.toI λg5 aa S5 I5 r5=>?_)) λ_ _ e=>e);exact⟨.nx,.nx,rfl,rfl⟩
theorem mT(H:cY F gs T n){i:Nat}{op:Operator}{e:X}{t:PT}{x y:Int}{st:List aA}{z:Int}(o:ca F.L F.env)(w:Ok n A)(a:ur T gs (.aug i op e) F.L t=true)(I:aF F g ρ s σ)(p:iY σ.env i=.d (.int x))(B:ev T n σ.env e σ.st=some (.d (.int y),st))(C:(op=.Add/\z=x+y)\/(op=.Sub/\z=x -y)):
  wpAny (model F.B.prog F.B.w) A (exec (rj (.aug i op e) F.L t) F.env) (aC F g ρ s (ed F.B) (Is .nx ⟨eA σ.env i (.d (.int z)),st⟩)) E0 s:=by
 replace a:=Bool.and_eq_true_iff.mp a;rw[Bf];refine aK (dB a.1) λv r=>?_;have c:=r.1;have D:=r.2;refine aB (f9 c) (wpAny_AugAssign_Name (wpAny_mono (lU (Q:=Is (.d (.int x)) σ) o I c (by rw[p];exact λq=>nomatch q) (by rw[p];exact⟨rfl,rfl⟩)) (λE s1 b=>?_) λ_ _ e=>e));refine aC.elim b λJ f K L j=>wpAny_mono (H A J f s1 _ e _ _ a.2 w L B) (λS s2 b=>?_) λ_ _ e=>e;refine aC.elim b λU M N O l=>?_;exact j.eD λj=>by cases l with|d l=>
  refine j.eInt λ_=>?_;refine l.eInt λ_=>?_;have fin:∀k m,wpAny (model F.B.prog F.B.w) A (storeName F.env v.name (.int z m)) (λ_=>aC F g ρ s (ed F.B) (Is .nx ⟨eA σ.env i (.d (.int z)),st⟩) .next) E0 {s2 with toks:=k}:=λk m=>by refine wpAny_mono (kf (Q:=Is () ⟨eA σ.env i (.d (.int z)),st⟩) o (O.toks k) c D (.d (.int z m)) ⟨rfl,rfl⟩) (λu V b=>K.more ((N.out (W:=[]) (λ_ h=>nomatch h) (St.toks s2 k)).more (b.toI λY R Z I5 r5=>?_))) λ_ _ e=>e;exact⟨.nx,.nx,rfl,rfl⟩
  rcases C with⟨rfl,rfl⟩|⟨rfl,rfl⟩
  ·exact P.iadd_int (fin _ _)
  ·exact P.isub_int (fin _ _)
theorem rL(H:cY F gs T n){b i e:X}{t:PT}{r q:V×List aA}{x y:Int}{st f:List aA}(m:Ok n A)(c:ur T gs (.augI b i .Add e) F.L t=true)(I:aF F g ρ s σ)(M:ev T n σ.env b σ.st=some r)(N:ev T n σ.env i r.2=some q)(O:cW q.2 r.1 q.1=some (.d (.int x)))(Q:ev T n σ.env e q.2=some (.d (.int y),st))(R:je st r.1 q.1 (.int (x+y))=some f):
  wpAny (model F.B.prog F.B.w) A (exec (rj (.augI b i .Add e) F.L t) F.env) (aC F g ρ s (ed F.B) (Is .nx ⟨σ.env,f⟩)) E0 s:=by
 change(_&&_)=true at c;rw[Bool.and_eq_true,Bool.and_eq_true]at c;obtain⟨⟨S,U⟩,Y⟩:=c;refine wpAny_AugAssign_SubscriptAny (wpAny_mono (H A g ρ s σ b _ _ S m I M) (λov s1 a=>?_) λ_ _ e=>e) (by intros;induction i using X.casesOn<;>rfl);refine aC.elim a λZ o S1 B C=>wpAny_mono (H A Z o s1 ⟨σ.env,r.2⟩ i _ _ U m B N) (λiv s2 a=>?_) λ_ _ e=>e;refine aC.elim a λg2 aa D E J=>wpAny_mono (nk (σ:=⟨σ.env,q.2⟩) E (D.rv C) J O).2 (λab s3 a=>?_) λ_ _ e=>e;refine aC.elim a λg3 p S3 K v=>wpAny_mono (H A g3 p s3 ⟨σ.env,q.2⟩ e _ _ Y m K Q) (λnv w a=>?_) λ_ _ e=>e;refine aC.elim a λg4 ac S4 l z=>?_;have j:=S3.trans K S4 ⟨_,l⟩;have k:=D.trans E j ⟨_,l⟩;exact v.eD λv=>by cases z with|d z=>refine v.eInt λ_=>?_;refine z.eInt λ_=>?_;refine P.iadd_int ?_;have L:=l.toks (w.toks+1);refine wpAny_mono (me L (k.rv C) (j.rv J) (.int (x+y) _) R) (λu s5 a=>(S1.trans B k ⟨_,l⟩).more (?_)) λ_ _ e=>e;refine(bw.refl.out (W:=[]) (λ_ h=>nomatch h) (St.toks w (w.toks+1))).more (a.toI λg5 ae S5 L r5=>?_);exact⟨.nx,.nx,rfl,rfl⟩
theorem xf(H:cY F gs T n){e:X}{t:PT}{st:List aA}(c:ca F.L F.env)(f:Ok n A)(a:ur T gs (.ex e) F.L t=true)(I:aF F g ρ s σ)(h:ev T n σ.env e σ.st=some (.d .none,st)):
  wpAny (model F.B.prog F.B.w) A (exec (rj (.ex e) F.L t) F.env) (aC F g ρ s (ed F.B) (Is .nx ⟨σ.env,st⟩)) E0 s:=by
 change(_&&_)=true at a;simp only[Bool.and_eq_true]at a;refine wpAny_Expr (wpAny_mono (H A g ρ s σ e _ _ a.2 f I h) (λv s1 i=>?_) λ_ _ e=>e) (by unfold interactive;rw[c.kind];rfl) (Ba a.1);refine aC.elim i λm j k l b=>?_;exact b.eD λb=>by cases b;exact k.post (R:=ed F.B) l ed.nx
theorem v2(p:rz F gs T n)(j:nL F gs T n){c:X}{a b:List S}{t:PT}{r:V×List aA}{k:Bool}{q:Fl×List V×List aA}(i:Ok n A)(d:ur T gs (.ite c a b) F.L t=true)(I:aF F g ρ s σ)(u:ev T n σ.env c σ.st=some r)(v:aZ r.1=some k)(l:exs T n σ.env (if k then a else b) r.2=some q):
  wpAny (model F.B.prog F.B.w) A (exec (rj (.ite c a b) F.L t) F.env) (aC F g ρ s (ed F.B) (Is q.1 ⟨q.2.1,q.2.2⟩)) E0 s:=by
 change(_&&_)=true at d;simp only[Bool.and_eq_true,Bool.and_eq_true]at d;refine wpAny_If (wpAny_mono (p A g ρ s σ c _ _ _ d.1.1 i I u v) (λx s2 f=>?_) λ_ _ e=>e);refine aC.elim f λm h S o w=>?_;subst w;induction x using Bool.casesOn with
 |true=>exact wpAny_mono (j A m h s2 ⟨σ.env,r.2⟩ a _ _ _ d.1.2 i o l) (λ_ _ f=>S.more f) λ_ _ e=>e
 |false=>exact wpAny_mono (j A m h s2 ⟨σ.env,r.2⟩ b _ _ _ d.2 i o l) (λ_ _ f=>S.more f) λ_ _ e=>e
theorem vZ(H:cY F gs T n){e:X}{t:PT}{r:V×List aA}(b:Ok n A)(a:ur T gs (.ret e) F.L t=true)(I:aF F g ρ s σ)(c:ev T n σ.env e σ.st=some r):
  wpAny (model F.B.prog F.B.w) A (exec (rj (.ret e) F.L t) F.env) (aC F g ρ s (ed F.B) (Is (.ret r.1) ⟨σ.env,r.2⟩)) E0 s:=by
 refine wpAny_Return_some (wpAny_mono (H A g ρ s σ e _ _ a b I c) (λv s1 d=>d.toI λi f j k h=>?_) λ_ _ e=>e);exact⟨_,.ret h,rfl,rfl⟩
theorem rJ(c:rz F gs T n){e:X}{t:PT}{r:V×List aA}(b:Ok n A)(a:ur T gs (.asrt e) F.L t=true)(I:aF F g ρ s σ)(d:ev T n σ.env e σ.st=some r)(f:aZ r.1=some true):
  wpAny (model F.B.prog F.B.w) A (exec (rj (.asrt e) F.L t) F.env) (aC F g ρ s (ed F.B) (Is .nx ⟨σ.env,r.2⟩)) E0 s:=by
 refine wpAny_Assert b.handled (wpAny_mono (c A g ρ s σ e _ _ _ a b I d f) (λx s2 h=>?_) λ_ _ e=>e);refine aC.elim h λl i S j k=>?_;subst k;exact S.post (R:=ed F.B) j ed.nx
theorem tf(H:cY F gs T n){b i:X}{t:PT}{r:V×List aA}{a:Nat}{st:List aA}{k:Int}{xs:List PyData}{j:Nat}(l:Ok n A)(c:ur T gs (.del b i) F.L t=true)(I:aF F g ρ s σ)(o:ev T n σ.env b σ.st=some (.ref a,r.2))(p:ev T n σ.env i r.2=some (.d (.int k),st))(q:aI st a=some (.list xs))(v:-1<=k/\k<=0/\xs.length<=sizeLine)(w:seqIndex? k xs.length=some j):
  wpAny (model F.B.prog F.B.w) A (exec (rj (.del b i) F.L t) F.env) (aC F g ρ s (ed F.B) (Is .nx ⟨σ.env,aT st a (.list (xs.eraseIdx j))⟩)) E0 s:=by
 replace c:=Bool.and_eq_true_iff.mp c;refine wpAny_Delete (wpAny_deleteEach_cons (wpAny_delete_Subscript (wpAny_mono (H A g ρ s σ b _ _ c.1 l I o) (λK s1 f=>?_) λ_ _ e=>e)));refine aC.elim f λx h y z B=>wpAny_mono (H A x h s1 ⟨σ.env,r.2⟩ i _ _ c.2 l z p) (λL s2 f=>?_) λ_ _ e=>e;refine aC.elim f λM C m D E=>wpAny_mono (u3 (σ:=⟨σ.env,st⟩) D (m.rv B) E q v w) (λu N f=>wpAny_deleteEach_nil (y.more (m.more (f.toI λO J P Q R=>?_)))) λ_ _ e=>e;exact⟨.nx,.nx,rfl,rfl⟩
theorem vh(m:Ga F gs T n)(o:nL F gs T n){xs:List S}{x:S}{t:PT}{j:Nat}{q r:Fl×List V×List aA}(k:Ok n A)(a:oY T gs (x::xs) F.L t j=true)(I:aF F g ρ s σ)(p:ex T n σ.env x σ.st=some q)(b:(match q.1 with
   |.nx=>exs T n q.2.1 xs q.2.2
   |f=>some (f,q.2.1,q.2.2))=some r):
  wpAny (model F.B.prog F.B.w) A (execs (mN (x::xs) F.L t j) F.env) (aC F g ρ s (ed F.B) (Is r.1 ⟨r.2.1,r.2.2⟩)) E0 s:=by
 change(_&&_)=true at a;simp only[Bool.and_eq_true]at a;refine wpAny_execs_cons (wpAny_mono (m A g ρ s σ x _ _ a.1 k I p) (λf s1 d=>?_) λ_ _ e=>e);refine aC.elim d λu h i c l=>?_;obtain⟨y,v,w⟩:=q
 dsimp only at l c b⊢
 induction l using ed.casesOn with
 |nx=>exact wpAny_mono (o A u h s1 ⟨v,w⟩ xs _ _ _ a.2 k c b) (λ_ _ d=>i.more d) λ_ _ e=>e
 |brk=>obtain rfl:=Option.some.inj b;exact i.post (R:=ed F.B) c ed.brk
 |ret r=>obtain rfl:=Option.some.inj b;exact i.post (R:=ed F.B) c (ed.ret r)
end
end Mine
end
noncomputable section
open PySem PySem.Calls PySem.Spec PySem.W PyProof.Rows Builtin.Str
namespace Mine
structure ms(B:Bs)(kk:Nat)(W:List Addr)(g g':G)(s s':Shared):Prop where
 le:∀b o,g b=some o->g' b=some o
 kept:∀b o,b∉W->s.heap.get? b=some o->s'.heap.get? b=some o
 newg:∀b o,g' b=some o->g b=some o\/b∈W\/s.heap.get? b=none
 old:OldK B.h₀ s.heap->OldK B.h₀ s'.heap
 os:s'.os=s.os
 gens:kk<=s.gens.size->kk<=s'.gens.size/\∀i,i<kk->s'.gens[i]?=s.gens[i]?
 bare:AllBare s.gens->AllBare s'.gens
theorem St.toK{B:Bs}{b:Nat}{W:List Addr}{g a:G}{s s':Shared}(x:St B W g a s s'):ms B b W g a s s':=
 ⟨x.le,x.kept,x.newg,x.old,x.os,λh=>⟨Nat.le_trans h x.gens.1,λi c=>x.gens.2 i (Nat.lt_of_lt_of_le c h)⟩,x.bare⟩
theorem ms.toSt{B:Bs}{W:List Addr}{g a:G}{s s':Shared}(x:ms B s.gens.size W g a s s'):St B W g a s s':=
 ⟨x.le,x.kept,x.newg,x.old,x.os,x.gens (Nat.le_refl _),x.bare⟩
theorem ms.trans{B:Bs}{j:Nat}{W l:List Addr}{g a c:G}{s d s₂:Shared}(x:ms B j W g a s d)(y:ms B j l a c d s₂)(m:∀b∈l,b∈W\/s.heap.get? b=none):ms B j W g c s s₂:=by
 refine⟨λb o e=>y.le b o (x.le b o e),λb o f e=>y.kept b o (λp=>?_) (x.kept b o f e),λb o e=>?_,λk=>y.old (x.old k),y.os.trans x.os,λh=>?_,λk=>y.bare (x.bare k)⟩
 ·rcases m b p with h|h
  ·exact f h
  ·rw[h]at e;exact aN e
 ·rcases y.newg b o e with h|h|h
  ·exact x.newg b o h
  ·rcases m b h with h|h
   ·exact .inr (.inl h)
   ·exact .inr (.inr h)
  ·by_cases f:b∈W
   ·exact .inr (.inl f)
   ·cases q:s.heap.get? b with
    |none=>exact .inr (.inr rfl)
    |some r=>rw[x.kept b r f q]at h;exact iu h
 ·obtain⟨t,u⟩:=x.gens h;exact cx (y.gens t) λv w=>⟨v,λi n=>(w i n).trans (u i n)⟩
structure fO(B:Bs)(A:Around)(tgt:Expr)(it:Value)(kk:Nat)(fp:List Addr)(T:List PyData->G->Shared->Prop):Prop where
 again:∀(ds:List PyData)(g:G)(s:Shared)(Q:Value->Shared->Prop),T ds g s->Q it s->wpAny (model B.prog B.w) A (pyIter it) Q E0 s
 next:∀(d:PyData)(ds:List PyData)(g:G)(s:Shared)(Q:Option Value->Shared->Prop),(∀b o,g b=some o->s.heap.get? b=some o)->kk<=s.gens.size->OldK B.h₀ s.heap->T (d::ds) g s->
  (∀v g' s',ms B kk fp g g' s s'->(∀b o,g' b=some o->s'.heap.get? b=some o)->(∀b∈fp,g' b=none)->Rd B.prog B.w g' v d->T ds g' s'->Q (some v) s')->
  wpAny (model B.prog B.w) A (pyNext it) (λr s₁=>match r with
   |none=>False
   |some v=>wpAny (model B.prog B.w) A (letOwnedTupleGo tgt it v) (λ_ s₂=>Q (some v) s₂) E0 s₁) E0 s
 fin:∀(g:G)(s:Shared)(Q:Option Value->Shared->Prop),(∀b o,g b=some o->s.heap.get? b=some o)->kk<=s.gens.size->OldK B.h₀ s.heap->T [] g s->
  (∀s',ms B kk fp g g s s'->(∀b o,g b=some o->s'.heap.get? b=some o)->Q none s')->wpAny (model B.prog B.w) A (pyNext it) Q E0 s
 keep:∀(ds:List PyData)(g g':G)(s s':Shared),T ds g s->(∀b∈fp,∀o,s.heap.get? b=some o->s'.heap.get? b=some o)->(∀b o,g b=some o->g' b=some o)->(∀b∈fp,g' b=none)->(∀i,i<s.gens.size->s'.gens[i]?=s.gens[i]?)->T ds g' s'
 fpo:∀(ds:List PyData)(g:G)(s:Shared),T ds g s->∀b∈fp,g b=none/\s.heap.get? b≠none/\B.h₀.get? b=none
theorem pq.walk{B:Bs}{A:Around}{a:Expr}{it:Value}{c:List Addr}{T:List PyData->G->Shared->Prop}(W:pq B A a it c T)(e:Nat):fO B A a it e c T:=
 ⟨W.again,λd ds g s Q sub _ _ t h=>W.next d ds g s Q sub t λv b s' st=>h v b s' st.toK,λg s Q sub _ _ t h=>W.fin g s Q sub t λs' st=>h s' st.toK,λds g b s s' t f i j _=>W.keep ds g b s s' t f i j,W.fpo⟩
section
variable{F:Fx}{gs:List Str}{TT:List FD}{n kk:Nat}{g g' g₀:G}{ρ ρ' ρ₀:List Addr}{s s' s₀:Shared}{σ σ':bo}{A:Around}{mg mb:Str->Option Value}
theorem aF.growK{W:List Addr}(I:aF F g ρ s σ)(st:ms F.B kk W g g' s s')(c:∀b∈W,b∉F.own/\b∉ρ/\(∀x∈F.env.cells,b≠x.2)/\F.B.h₀.get? b=none/\g' b=none)(sub:∀b o,g' b=some o->s'.heap.get? b=some o):aF F g' ρ s' σ:=by have x:St F.B W g g' s {s' with gens:=s.gens}:=⟨st.le,st.kept,st.newg,st.old,st.os,⟨Nat.le_refl _,λ_ _=>rfl⟩,id⟩;have a:aF F g' ρ {s' with gens:=s.gens} σ:=I.growW x c sub;exact⟨a.so,a.old,st.bare I.bare,a.tab,a.fr,a.stl,a.st⟩
structure cw(F:Fx)(kk:Nat)(fp:List Addr)(g:G)(ρ:List Addr)(s:Shared)(g':G)(ρ':List Addr)(s':Shared):Prop where
 pre:ρ<+:ρ'
 nw:∀x∈ρ',x∈ρ\/s.heap.get? x=none
 st:ms F.B kk (F.own++ρ++fp) g g' s s'
variable{tgt:Expr}{it:Value}{fp:List Addr}{T:List PyData->G->Shared->Prop}{d:PyData}{ds:List PyData}
theorem ms.mono{B:Bs}{W a:List Addr}{g g':G}{s s':Shared}(x:ms B kk W g g' s s')(h:∀b∈W,b∈a\/s.heap.get? b=none):ms B kk a g g' s s':=
 ⟨x.le,λb o c e=>x.kept b o (λf=>by
  rcases h b f with h|h
  ·exact c h
  ·rw[h]at e;exact aN e) e,λb o e=>by
  rcases x.newg b o e with q|q|q
  ·exact .inl q
  ·exact .inr (h b q)
  ·exact .inr (.inr q),x.old,x.os,x.gens,x.bare⟩
theorem bw.toK(S:bw F g ρ s g' ρ' s'):cw F kk fp g ρ s g' ρ' s':=⟨S.pre,S.nw,S.st.toK.mono λb a=>.inl (List.mem_append_left _ a)⟩
theorem cw.toStp(a:∀b∈fp,s.heap.get? b=none)(S:cw F s.gens.size fp g ρ s g' ρ' s'):bw F g ρ s g' ρ' s':=⟨S.pre,S.nw,(S.st.mono λb c=>by
 rcases List.mem_append.mp c with h|h
 ·exact .inl h
 ·exact .inr (a b h)).toSt⟩
theorem cw.refl:cw F kk fp g ρ s g ρ s:=bw.refl.toK
theorem cw.trans{c:G}{a:List Addr}{s₂:Shared}(x:cw F kk fp g ρ s g' ρ' s')(I:aF F g' ρ' s' σ')(j:∀b∈fp,s'.heap.get? b≠none)(y:cw F kk fp g' ρ' s' c a s₂)(f:∃σ,aF F c a s₂ σ):cw F kk fp g ρ s c a s₂:=by
 refine aK f λk f=>⟨x.pre.trans y.pre,λz i=>?_,?_⟩
 ·rcases y.nw z i with h|h
  ·exact x.nw z h
  ·by_cases hw:z∈F.own++ρ++fp
   ·rcases List.mem_append.mp hw with e|e
    ·rcases List.mem_append.mp e with e|e
     ·exact((f.so.rno z e) i).elim
     ·exact .inl e
    ·exact((j z e) h).elim
   ·cases q:s.heap.get? z with
    |none=>exact .inr rfl
    |some o=>rw[x.st.kept z o hw q]at h;exact iu h
 ·refine x.st.trans y.st λb l=>?_;rcases List.mem_append.mp l with h|h
  ·rcases List.mem_append.mp h with h|h
   ·exact .inl (List.mem_append_left _ (List.mem_append_left _ h))
   ·refine Or.elim (x.nw b h) (λh=>?_) λh=>?_
    ·exact .inl (List.mem_append_left _ (List.mem_append_right _ h))
    ·exact .inr h
  ·exact .inl (List.mem_append_right _ h)
theorem cw.out{W:List Addr}{a:G}{s₂:Shared}(x:cw F kk fp g ρ s g' ρ' s')(c:∀b∈W,b∈fp\/s.heap.get? b=none)(y:ms F.B kk W g' a s' s₂):cw F kk fp g ρ s a ρ' s₂:=
 ⟨x.pre,x.nw,x.st.trans y λb e=>(c b e).imp (List.mem_append_right _) id⟩
structure nN(F:Fx)(A:Around)(tgt:Expr)(it:Value)(kk:Nat)(fp:List Addr)(T:List PyData->G->Shared->Prop)(g₀:G)(ρ₀:List Addr)(s₀:Shared)(g:G)(ρ:List Addr)(s:Shared)(σ:bo)(ds:List PyData):Prop where
 S:cw F kk fp g₀ ρ₀ s₀ g ρ s
 I:aF F g ρ s σ
 t:T ds g s
 out:∀b∈fp,dZ F g ρ s b
 gsz:kk<=s.gens.size
theorem nN.step(W:fO F.B A tgt it kk fp T)(M:nN F A tgt it kk fp T g₀ ρ₀ s₀ g ρ s σ ds)(S:bw F g ρ s g' ρ' s')(I:aF F g' ρ' s' σ'):nN F A tgt it kk fp T g₀ ρ₀ s₀ g' ρ' s' σ' ds:=
 ⟨M.S.trans M.I (λb a=>(M.out b a).th) S.toK ⟨_,I⟩,I,W.keep ds g g' s s' M.t (λb a o e=>((M.out b a).step S).2 o e) S.st.le (λb a=>((M.out b a).step S).1.g) S.st.gens.2,λb a=>((M.out b a).step S).1,Nat.le_trans M.gsz S.st.gens.1⟩
theorem nN.hW(M:nN F A tgt it kk fp T g₀ ρ₀ s₀ g ρ s σ ds)(c:∀b∈fp,g' b=none):∀b∈fp,b∉F.own/\b∉ρ/\(∀x∈F.env.cells,b≠x.2)/\F.B.h₀.get? b=none/\g' b=none:=
 λb a=>let O:=M.out b a;⟨O.own,O.r,λx e q=>O.cells x e q.symm,O.hi,c b a⟩
theorem nN.after(W:fO F.B A tgt it kk fp T)(M:nN F A tgt it kk fp T g₀ ρ₀ s₀ g ρ s σ (d::ds))(st:ms F.B kk fp g g' s s')(sub:∀b o,g' b=some o->s'.heap.get? b=some o)(c:∀b∈fp,g' b=none)(e:T ds g' s'):nN F A tgt it kk fp T g₀ ρ₀ s₀ g' ρ s' σ ds:=
 ⟨M.S.out (λb a=>.inl a) st,M.I.growK st (M.hW c) sub,e,λb a=>let O:=M.out b a;⟨c b a,O.own,O.r,O.cells,O.hi,(W.fpo _ _ _ e b a).2.1⟩,(st.gens M.gsz).1⟩
theorem nN.next(W:fO F.B A tgt it kk fp T)(M:nN F A tgt it kk fp T g₀ ρ₀ s₀ g ρ s σ (d::ds)){Q:Option Value->Shared->Prop}(h:∀v g' s',nN F A tgt it kk fp T g₀ ρ₀ s₀ g' ρ s' σ ds->(∀a,a∉fp->dZ F g ρ s a->dZ F g' ρ s' a/\∀o,s.heap.get? a=some o->s'.heap.get? a=some o)->(∀b o,g b=some o->g' b=some o)->Rd F.B.prog F.B.w g' v d->Q (some v) s'):
  wpAny (model F.B.prog F.B.w) A (pyNext it) (λr c=>match r with
   |none=>False
   |some v=>wpAny (model F.B.prog F.B.w) A (letOwnedTupleGo tgt it v) (λ_ s₂=>Q (some v) s₂) E0 c) E0 s:=by
 refine W.next d ds g s Q M.I.so.sub M.gsz M.I.old M.t λv g' s' st sub i j k=>h v g' s' (M.after W st sub i k) (λa f O=>?_) st.le j;have kp:∀o,s.heap.get? a=some o->s'.heap.get? a=some o:=λo e=>st.kept a o f e;refine⟨⟨?_,O.own,O.r,O.cells,O.hi,?_⟩,kp⟩
 ·cases q:g' a with
  |none=>rfl
  |some o=>
   rcases st.newg a o q with h|h|h
   ·rw[O.g]at h;exact aN h
   ·exact absurd h f
   ·exact absurd h O.th
 ·cases q:s.heap.get? a with
  |none=>exact absurd q O.th
  |some o=>rw[kp o q];exact λq=>nomatch q
theorem nN.fin(W:fO F.B A tgt it kk fp T)(M:nN F A tgt it kk fp T g₀ ρ₀ s₀ g ρ s σ []){Q:Option Value->Shared->Prop}(h:∀s',cw F kk fp g₀ ρ₀ s₀ g ρ s'->aF F g ρ s' σ->(∀b o,b∉fp->s.heap.get? b=some o->s'.heap.get? b=some o)->Q none s'):wpAny (model F.B.prog F.B.w) A (pyNext it) Q E0 s:=by exact W.fin g s Q M.I.so.sub M.gsz M.I.old M.t λs' st sub=>h s' (M.S.out (λb a=>.inl a) st) (M.I.growK st (M.hW λb a=>(M.out b a).g) sub) st.kept
noncomputable def jV(F:Fx)(A:Around)(tgt:Expr)(g:G)(ρ:List Addr)(s:Shared)(σ:bo)(ds:List PyData)(it:Value)(s₂:Shared):Prop:=
 ∃c a fp T,fO F.B A tgt it s.gens.size fp T/\(∀b∈fp,s.heap.get? b=none)/\nN F A tgt it s.gens.size fp T g ρ s c a s₂ σ ds
noncomputable def po(F:Fx)(gs:List Str)(T:List FD)(n:Nat):Prop:=∀(A:Around)(g:G)(ρ:List Addr)(s:Shared)(σ:bo)(it:It)(t:PT)(r:List PyData×List aA)(L:List bl)(c:dJ)(p:PT),zg T gs it F.L t=true->yW it c=true->Ok n A->aF F g ρ s σ->
 evi T n σ.env it σ.st=some r->wpAny (model F.B.prog F.B.w) A (eval (mM it F.L t) F.env) (λx a=>wpAny (model F.B.prog F.B.w) A (pyIter x) (λb s₂=>jV F A (g0 L p c) g ρ s ⟨σ.env,r.2⟩ r.1 b s₂) E0 a) E0 s
theorem gD(it:It)(L:List bl)(t:PT)(env:Env):∀x,foldedSetIterable (mM it L t) env x=pure x:=by
 intro v;induction it using It.casesOn with
 |x e=>induction e using X.casesOn<;>rfl
 |_=>rfl
noncomputable def iz(F:Fx)(A:Around)(tgt:Expr)(it:Value)(kk:Nat)(h₀:Heap):List PyData->G->List Addr->Shared->bo->Prop
 |[],g,ρ,s,σ=>∀Q:Option Value->Shared->Prop,(∀s' W,(∀b∈W,h₀.get? b=none)->ms F.B kk W g g s s'->aF F g ρ s' σ->Q none s')->wpAny (model F.B.prog F.B.w) A (pyNext it) Q E0 s
 |d::ds,g,ρ,s,σ=>∀Q:Option Value->Shared->Prop,
  (∀v g' s' W,(∀b∈W,h₀.get? b=none)->ms F.B kk W g g' s s'->aF F g' ρ s' σ->Rd F.B.prog F.B.w g' v d->
   (∀c a s₂ e,bw F g' ρ s' c a s₂->aF F c a s₂ e->iz F A tgt it kk h₀ ds c a s₂ e)->Q (some v) s')->
  wpAny (model F.B.prog F.B.w) A (pyNext it) (λr f=>match r with
   |none=>False
   |some v=>wpAny (model F.B.prog F.B.w) A (letOwnedTupleGo tgt it v) (λ_ s₂=>Q (some v) s₂) E0 f) E0 s
noncomputable def nM(F:Fx)(A:Around)(tgt:Expr)(g:G)(ρ:List Addr)(s:Shared)(σ:bo)(ds:List PyData)(it:Value)(s₂:Shared):Prop:=
 ∃c a W,(∀b∈W,s.heap.get? b=none)/\cw F s.gens.size W g ρ s c a s₂/\aF F c a s₂ σ/\iz F A tgt it s.gens.size s.heap ds c a s₂ σ
noncomputable def DV(F:Fx)(gs:List Str)(T:List FD)(n:Nat):Prop:=∀(A:Around)(g:G)(ρ:List Addr)(s:Shared)(σ:bo)(e:X)(t:PT)(r:List PyData×List aA)(L:List bl)(c:dJ)(p:PT),zg T gs (.gen e) F.L t=true->Ok n A->aF F g ρ s σ->
 evi T n σ.env (.gen e) σ.st=some r->wpAny (model F.B.prog F.B.w) A (eval (mM (.gen e) F.L t) F.env) (λx a=>wpAny (model F.B.prog F.B.w) A (pyIter x) (λb s₂=>nM F A (g0 L p c) g ρ s ⟨σ.env,r.2⟩ r.1 b s₂) E0 a) E0 s
theorem cw.trans'{W:List Addr}{c:G}{a:List Addr}{s₂:Shared}(x:cw F kk W g ρ s g' ρ' s')(I:aF F g' ρ' s' σ')(f:∀b∈W,s.heap.get? b=none)(y:bw F g' ρ' s' c a s₂):cw F kk W g ρ s c a s₂:=by
 refine⟨x.pre.trans y.pre,λz i=>?_,?_⟩
 ·rcases y.nw z i with h|h
  ·exact x.nw z h
  ·by_cases hw:z∈F.own++ρ++W
   ·rcases List.mem_append.mp hw with e|e
    ·rcases List.mem_append.mp e with e|e
     ·exact((I.so.olt z e) h).elim
     ·exact .inl e
    ·exact .inr (f z e)
   ·cases q:s.heap.get? z with
    |none=>exact .inr rfl
    |some o=>rw[x.st.kept z o hw q]at h;exact iu h
 ·refine x.st.trans y.st.toK λb j=>?_;rcases List.mem_append.mp j with h|h
  ·exact .inl (List.mem_append_left _ (List.mem_append_left _ h))
  ·rcases x.nw b h with h|h
   ·exact .inl (List.mem_append_left _ (List.mem_append_right _ h))
   ·exact .inr h
theorem cw.wide{W a:List Addr}(x:cw F kk W g ρ s g' ρ' s')(h:∀b∈W,b∈a):cw F kk a g ρ s g' ρ' s':=
 ⟨x.pre,x.nw,x.st.mono λb c=>.inl ((List.mem_append.mp c).elim (List.mem_append_left _) λq=>List.mem_append_right _ (h b q))⟩
theorem iz.turn{h₀:Heap}(l:iz F A tgt it kk h₀ (d::ds) g ρ s σ){R:Shared->Prop}{K:Value->Shared->Prop}{E m:Value->Shared->Prop}(h:∀v g' s' W,(∀b∈W,h₀.get? b=none)->ms F.B kk W g g' s s'->aF F g' ρ s' σ->Rd F.B.prog F.B.w g' v d->(∀c a s₂ f,bw F g' ρ s' c a s₂->aF F c a s₂ f->iz F A tgt it kk h₀ ds c a s₂ f)->K v s'):
  wpAny (model F.B.prog F.B.w) A (pyNext it) (λr i=>match r with
   |none=>R i
   |some v=>wpAny (model F.B.prog F.B.w) A (letOwnedTupleGo tgt it v) (λ_ j=>K v j) m i) E s:=by
 refine wpAny_mono (l (λo s'=>match o with
  |some v=>K v s'
  |none=>True) h) (λr s' k=>?_) λ_ _ e=>e.elim
 induction r using Option.casesOn with
 |none=>exact k.elim
 |some v=>exact wpAny_mono k (λ_ _ e=>e) λ_ _ e=>e.elim
theorem x8(w:fO F.B A tgt it kk fp T)(e:∀b∈fp,s₀.heap.get? b=none):∀(ds:List PyData){g:G}{ρ:List Addr}{s:Shared}{σ:bo},nN F A tgt it kk fp T g₀ ρ₀ s₀ g ρ s σ ds->iz F A tgt it kk s₀.heap ds g ρ s σ:=by
 intro a;induction a with
 |nil=>exact@λ_ _ _ _ M=>λQ h=>w.fin _ _ Q M.I.so.sub M.gsz M.I.old M.t λs' st sub=>h s' fp e st (M.I.growK st (M.hW λb i=>(M.out b i).g) sub)
 |cons d ds c=>
  exact@λ_ _ _ _ M=>λQ h=>w.next d ds _ _ Q M.I.so.sub M.gsz M.I.old M.t λv g' s' st sub f j k=>
   h v g' s' fp e st (M.I.growK st (M.hW f) sub) j λ_ _ _ _ S l=>c ((M.after w st sub f k).step w S l)
inductive Hc(F:Fx)(A:Around)(tgt:Expr)(it:Value)(g₀:G)(ρ₀:List Addr)(s₀:Shared)(L:List PyData->bo->Prop):Nat->Shared->Prop
 |mk (ds:List PyData) (g:G) (ρ:List Addr) (s:Shared) (σ:bo) (W:List Addr) (fr:∀b∈W,s₀.heap.get? b=none) (S:cw F s₀.gens.size W g₀ ρ₀ s₀ g ρ s) (I:aF F g ρ s σ) (Lv:iz F A tgt it s₀.gens.size s₀.heap ds g ρ s σ) (h:L ds σ):Hc F A tgt it g₀ ρ₀ s₀ L ds.length s
inductive BN(F:Fx)(g₀:G)(ρ₀:List Addr)(s₀:Shared)(r:Fl×List V×List aA):Result->Shared->Prop
 |mk (f:Flow) (s:Shared) (h:aC F g₀ ρ₀ s₀ (ed F.B) (Is r.1 ⟨r.2.1,r.2.2⟩) f s):BN F g₀ ρ₀ s₀ r (.ok f) s
theorem iR{j:dJ}{p t:PT}{body:List S}{r:Fl×List V×List aA}{W:List Addr}(P:ca F.L F.env)(D:Ok n A)(Q:nL F gs TT n)(U:qN j F.L=true)(a:oY TT gs body F.L t 0=true)(l:∀b∈W,s₀.heap.get? b=none)(S:cw F s₀.gens.size W g₀ ρ₀ s₀ g ρ s)(I:aF F g ρ s σ)(m:iz F A (g0 F.L p j) it s₀.gens.size s₀.heap ds g ρ s σ)(h:qa j (λenv'=>exs TT n env' body) ds σ.env σ.st=some r):
  codeAny (model F.B.prog F.B.w) A (.forLoop (g0 F.L p j) it (mN body F.L t 0) [] F.env) (BN F g₀ ρ₀ s₀ r) s:=by
 refine codeAny_forLoop_any (Hc F A (g0 F.L p j) it g₀ ρ₀ s₀ λds σ=>qa j (λenv'=>exs TT n env' body) ds σ.env σ.st=some r) (λk s1 X=>?_) ds.length ⟨ds,g,ρ,s,σ,W,l,S,I,m,h⟩;clear l S I m h;obtain⟨ds,g,ρ,s,σ,W,l,S,I,m,h⟩:=X;induction ds using List.casesOn with
 |nil=>
  obtain rfl:=Option.some.inj h;exact wpAny_mono (m (λo s'=>match o with
   |none=>BN F g₀ ρ₀ s₀ _ (.ok .next) s'
   |some _=>False) λs' x i st Y=>⟨_,_,(((S.wide λb a=>List.mem_append_left x a).out (λb a=>.inl (List.mem_append_right _ a)) st).toStp λb a=>(List.mem_append.mp a).elim (l b) (i b)).post (R:=ed F.B) Y ed.nx⟩) (λo s' E=>by
    induction o using Option.casesOn with
    |none=>exact wpAny_pure E
    |some _=>exact E.elim) λ_ _ e=>e.elim
 |cons d ds=>
  refine bO h λenv' Z h=>bO h λq h2 h=>m.turn λv g2 s2 x i st H rd nx=>?_;have c:∀b∈W++x,s₀.heap.get? b=none:=λb a=>(List.mem_append.mp a).elim (l b) (i b);refine wpAny_mono (d5 P D U H (.d rd) Z) (λ_ s3 y=>?_) λ_ _ e=>e.elim;refine aC.elim y λg3 z J B _=>wpAny_mono (Q A g3 z s3 ⟨env',σ.st⟩ body t 0 q a D B h2) (λf K y=>?_) λ_ _ e=>e.elim;refine aC.elim y λL u M w r4=>?_;have C:=(((S.wide λb a=>List.mem_append_left x a).out (λb a=>.inl (List.mem_append_right _ a)) st).trans' H c J).trans' B c M;obtain⟨qf,N,O⟩:=q;cases r4 with
  |nx=>exact⟨_,Nat.lt_succ_self _,⟨ds,L,u,K,⟨N,O⟩,_,c,C,w,nx L u K ⟨N,O⟩ (J.trans B M ⟨_,w⟩) w,h⟩⟩
  |brk=>obtain rfl:=Option.some.inj h;exact⟨_,_,(C.toStp c).post (R:=ed F.B) w ed.nx⟩
  |ret r=>obtain rfl:=Option.some.inj h;exact⟨_,_,(C.toStp c).post (R:=ed F.B) w (ed.ret r)⟩
theorem vo{h:dJ}{i:It}{body:List S}{t:PT}{q:List PyData×List aA}{r:Fl×List V×List aA}(w:ca F.L F.env)(j:Ok n A)(H:po F gs TT n)(J:DV F gs TT n)(y:nL F gs TT n)(c:ur TT gs (.for h i body) F.L t=true)(I:aF F g ρ s σ)(z:evi TT n σ.env i σ.st=some q)(B:qa h (λenv'=>exs TT n env' body) q.1 σ.env q.2=some r):
  wpAny (model F.B.prog F.B.w) A (exec (rj (.for h i body) F.L t) F.env) (aC F g ρ s (ed F.B) (Is r.1 ⟨r.2.1,r.2.2⟩)) E0 s:=by
 change(_&&_)=true at c;simp only[Bool.and_eq_true,Bool.and_eq_true,Bool.and_eq_true]at c;obtain⟨⟨⟨C,D⟩,E⟩,a⟩:=c;by_cases b:BC i=true
 ·induction i using It.casesOn with
  |gen e=>refine wpAny_For (wpAny_mono (J A g ρ s σ e (t.c 1) q F.L h (t.c 0) D j I z) (λx s1 hw=>wpAny_mono hw (λl s2 m=>?_) λ_ _ e=>e) λ_ _ e=>e) (gD _ _ _ _);refine cU m λK o W p=>ko p λk S L N=>codeAny_mono (iR (σ:=⟨σ.env,q.2⟩) w j y C E k S L N B) λr' s' u=>?_;obtain⟨f,_,v⟩:=u;exact v
  |_=>exact en b
 have a:yW i h=true:=by simp only[Bool.or_eq_true]at a;exact a.resolve_left b
 refine wpAny_For (wpAny_mono (H A g ρ s σ i (t.c 1) q F.L h (t.c 0) D a j I z) (λx s1 hw=>wpAny_mono hw (λl s2 m=>?_) λ_ _ e=>e) λ_ _ e=>e) (gD _ _ _ _);refine c8 m λK o fp T p=>eY p λW k M=>codeAny_mono (iR (σ:=⟨σ.env,q.2⟩) w j y C E k M.S M.I (x8 W k _ M) B) λr' s' u=>?_;obtain⟨f,_,v⟩:=u;exact v
end
section
variable{F:Fx}{gs:List Str}{T:List FD}{n kk:Nat}{g g' g₀ g₁:G}{ρ ρ' ρ₀ ρ₁:List Addr}{s s' s₀ s₁ s₂:Shared}{σ σ':bo}{A:Around}{mg mb:Str->Option Value}
theorem dw(S:bw F g ρ s g₁ ρ₁ s₁)(I:aF F g₁ ρ₁ s₁ σ){b:Addr}(h:s₁.heap.get? b=none):s.heap.get? b=none:=by
 cases q:s.heap.get? b with
 |none=>rfl
 |some o=>
  exfalso;by_cases c:b∈F.own++ρ
  ·rcases List.mem_append.mp c with a|a
   ·exact I.so.olt b a h
   ·exact I.so.rlt b (S.pre.subset a) h
  ·replace h:=Eq.trans (Eq.symm (S.st.kept b o c q)) h;exact iu h
theorem bc{a:Expr}{it:Value}{f:List Addr}{W:List PyData->G->Shared->Prop}{ds:List PyData}(S:bw F g ρ s g₁ ρ₁ s₁)(I:aF F g₁ ρ₁ s₁ σ)(j:∀b o,s₁.heap.get? b=some o->s₂.heap.get? b=some o)(i:s₂.os=s₁.os)(c:s₂.gens=s₁.gens)(w:fO F.B A a it s.gens.size f W)(t:W ds g₁ s₂)(k:∀b∈f,s₁.heap.get? b=none):jV F A a g ρ s σ ds it s₂:=by have st:St F.B [] g₁ g₁ s₁ s₂:=St.kept' j i c;have l:bw F g ρ s g₁ ρ₁ s₂:=S.out (W:=[]) (λ_ h=>nomatch h) st;exact vg g₁ ρ₁ f W ⟨w,λb d=>dw S I (k b d),l.toK,((I.grow st λb o e=>j b o (I.so.sub b o e):aF F g₁ ρ₁ s₂ σ)),t,λb d=>dZ.new I (k b d) (w.fpo _ _ _ t b d).2.1,l.st.gens.1⟩
theorem ni(I:aF F g ρ s σ){b:Addr}(h:s.heap.get? b=none):g b=none/\F.B.h₀.get? b=none:=⟨I.none_g h,I.hi h⟩
theorem eE{a b:Type}:∀{ks:List a}{vs:List b},ks.length=vs.length->(ks.zip vs).map (·.1)=ks
 |[],[],_=>rfl
 |k::ks,v::vs,h=>by rw[List.zip_cons_cons,List.map_cons,eE (Nat.succ.inj h)]
theorem j8{a b:Type}:∀{ks:List a}{vs:List b},ks.length=vs.length->(ks.zip vs).map (·.2)=vs
 |[],[],_=>rfl
 |k::ks,v::vs,h=>by rw[List.zip_cons_cons,List.map_cons,j8 (Nat.succ.inj h)]
theorem sI{p:Expr}{d:PyData}{v:Value}{ds:List PyData}(q:A.handled=none)(S:bw F g ρ s g₁ ρ₁ s₁)(I:aF F g₁ ρ₁ s₁ σ)(r:Rd F.B.prog F.B.w g₁ v d)(c:qZ d=some ds):
  wpAny (model F.B.prog F.B.w) A (pyIter v) (λt s₂=>jV F A p g ρ s σ ds t s₂) E0 s₁:=by
 refine cx (ni I (aU s₁.heap)) λu w=>?_;induction d using PyData.casesOn with
 |list xs=>
  cases c;cases r with
  |@list l vs m xs a f=>refine wpAny_pyIter_list (IsL.isList (I.so.sub _ _ a)) (bc S I (λb o e=>Heap.get?_push_of_some _ e) rfl rfl ((vE q s₁.heap.objs.size).walk _) ⟨u,w,l,vs,m,0,⟨_,Heap.get?_push_size _ rfl,rfl,rfl⟩,a,by simpa using f⟩ λb i=>?_);cases List.mem_singleton.mp i;exact aU _
 |tuple xs=>
  cases c;cases r with
  |@tuple l vs m xs a f=>refine wpAny_pyIter_tuple (cj (I.so.sub _ _ a)) (bc S I (λb o e=>Heap.get?_push_of_some _ e) rfl rfl ((xN q s₁.heap.objs.size).walk _) ⟨u,w,l,vs,m,0,⟨_,Heap.get?_push_size _ rfl,rfl,rfl⟩,a,by simpa using f⟩ λb i=>?_);cases List.mem_singleton.mp i;exact aU _
 |dict kvs=>
  cases c;cases r with
  |@dict l o ks vs xs a c hl hs f=>
   have x:=f.length;refine aK (Heap.DictOf.dictAt ((Heap.dictOf_iff.mpr ⟨o,I.so.sub _ _ a,c⟩:s₁.heap.DictOf (strKind F.B.prog F.B.w) l (ks.zip vs)))) λep j=>?_;have k:∀h:Heap,h.get? l=some o->h.DictAt (strKind F.B.prog F.B.w) l (ks.zip vs) ep:=λh y=>j.at λz e=>by rw[I.so.sub _ _ a]at e;obtain rfl:=Option.some.inj e;exact y
   refine wpAny_pyIter_dict hs j (bc S I (λb o e=>Heap.get?_push_of_some _ e) rfl rfl ((xL q s₁.heap.objs.size).walk _) ⟨u,w,l,o,ks.zip vs,ep,0,⟨_,Heap.get?_push_size _ rfl,rfl,rfl⟩,a,k,?_⟩ λb i=>?_)
   ·refine aB (eE (by rw[List.length_map];lia)) (aB (List.drop_zero) ?_);exact aB ((by rw[List.map_map];rfl:(ks.zip vs).map (λkv=>PyData.str kv.1)=((ks.zip vs).map (·.1)).map PyData.str)) (aB (eE hl) rfl)
   ·cases List.mem_singleton.mp i;exact aU _
 |_=>exact aN c
theorem sf(H:cY F gs T n){e:X}{t:PT}{r:V×List aA}{q:PyData×List aA}{ds:List PyData}{a:Expr}(f:Ok n A)(b:zg T gs (.x e) F.L t=true)(I:aF F g ρ s σ)(j:ev T n σ.env e σ.st=some r)(k:fz r.1 r.2=some q)(l:qZ q.1=some ds):
  wpAny (model F.B.prog F.B.w) A (eval (mM (.x e) F.L t) F.env) (λx s₁=>wpAny (model F.B.prog F.B.w) A (pyIter x) (λc s₂=>jV F A a g ρ s ⟨σ.env,q.2⟩ ds c s₂) E0 s₁) E0 s:=by
 refine wpAny_mono (H A g ρ s σ e t r b f I j) (λv s1 m=>?_) λ_ _ e=>e;exact aC.elim m λB o p h u=>aG λd=>aK (b5 (σ:=⟨σ.env,r.2⟩) r.1 h u k) λC w=>eY w λy i z=>d (sI f.handled (p.trans h y ⟨_,i⟩) i z l)
theorem uy{a b:Int}{d tb f:Tok}{i:Expr}{rg:Addr}{k:Nat}{x y:Tok}(p:A.handled=none)(m:-(2^62)<=a/\a<2^62)(c:-(2^62)<=b/\b<2^62)(S:bw F g ρ s g₁ ρ₁ s₁)(I:aF F g₁ ρ₁ s₁ σ)(r:k=(b -a).toNat):
  wpAny (model F.B.prog F.B.w) A (pyIter (.ref s₁.heap.objs.size)) (λj s₂=>jV F A i g ρ s σ (jU a k) j s₂) E0 {s₁ with heap:=s₁.heap.push {cls:=.type "range",data:=.fields #[.int a d,.int b tb,.int 1 f]},toks:=x}:=by
 have l:=I.push {cls:=.type "range",data:=.fields #[.int a d,.int b tb,.int 1 f]} x;refine wpAny_pyIter_range (IsRange.new ..) (small_one m.1 m.2 c.1 c.2) ?_;have q:=(ni l (aU _)).1;refine bc (S.out (W:=[]) (λ_ h=>nomatch h) (St.push s₁ {cls:=.type "range",data:=.fields #[.int a d,.int b tb,.int 1 f]} x)) l (λb o e=>Heap.get?_push_of_some _ e) rfl rfl ((xM p _).walk _) ⟨q,((ni l (aU _)).2),a,k,?_,rfl⟩ λb c=>?_
 ·have e:Builtin.Range.rangeSize a b 1=(k:Int):=by rw[rangeSize_one];split<;>lia
  exact aB e (Heap.get?_push_size _ rfl)
 ·cases List.mem_singleton.mp c;exact aU _
theorem oo(w:Wf F gs)(gd:Gd0 F.B mg mb)(H:cY F gs T n){es:List X}{t:PT}{r:List V×List aA}{ds:List PyData}{h:Expr}(i:Ok n A)(d:zg T gs (.rng es) F.L t=true)(I:aF F g ρ s σ)(z:pk (ev T n σ.env) es σ.st=some r)(c:AV r.1=some ds):
  wpAny (model F.B.prog F.B.w) A (eval (mM (.rng es) F.L t) F.env) (λx s₁=>wpAny (model F.B.prog F.B.w) A (pyIter x) (λk s₂=>jV F A h g ρ s ⟨σ.env,r.2⟩ ds k s₂) E0 s₁) E0 s:=by
 change(_&&_)=true at d;simp only[Bool.and_eq_true,Bool.and_eq_true,List.contains_iff_mem,decide_eq_true_eq]at d;refine wpAny_Call_NameR (dr (v:=.type "range") w gd I d.1.1 (by decide) ?_);have key:=dv H (A:=A) (σ:=σ) (t:=t) (pos:=t.p) i es 1 d.2 I z;refine bd (jR (L:=F.L) (t:=t) (j:=1) d.1.2) λe o B=>?_;obtain⟨rfl,J⟩:=B;refine PyProof.Rows.callWith_type1 (wpAny_mono key (λvs s1 C=>?_) λ_ _ e=>e) (aW ..) (ip ..);refine aC.elim C λK D p q f=>?_;generalize r.1=as at f c;induction f using aM.casesOn with
 |nil=>exact aN c
 |cons f l=>
  induction l using aM.casesOn with
  |nil=>refine bI f c λb u c=>bC c λm c=>?_;obtain rfl:=Option.some.inj c;have m:=iT.mp m;exact call_range_1 (uy (rg:=0) (y:=0) i.handled (by decide) ⟨by lia,by lia⟩ p q (by lia))
  |cons E l=>
   induction l using aM.casesOn with
   |nil=>refine bI f c λa u c=>bI E c λb M c=>bC c λhc c=>?_;obtain rfl:=Option.some.inj c;have N:=iT.mp hc.1;have m:=iT.mp hc.2;exact call_range_2 (uy (rg:=0) (y:=0) i.handled ⟨by lia,by lia⟩ ⟨by lia,by lia⟩ p q rfl)
   |cons _ _=>exact aN c
theorem oj(B:Wf F gs)(gd:Gd0 F.B mg mb)(H:cY F gs T n){e:X}{t:PT}{r:V×List aA}{q:PyData×List aA}{xs:List PyData}{L:List bl}{is:List Nat}{p:PT}(u:Ok n A)(a:zg T gs (.enu e) F.L t=true)(I:aF F g ρ s σ)(C:ev T n σ.env e σ.st=some r)(D:fz r.1 r.2=some q)(E:q.1=.list xs):
  wpAny (model F.B.prog F.B.w) A (eval (mM (.enu e) F.L t) F.env) (λx s₁=>wpAny (model F.B.prog F.B.w) A (pyIter x) (λh s₂=>jV F A (g0 L p (.tup is)) g ρ s ⟨σ.env,q.2⟩ (dQ 0 xs) h s₂) E0 s₁) E0 s:=by
 change(_&&_)=true at a;simp only[Bool.and_eq_true,List.contains_iff_mem]at a;refine wpAny_Call_NameR (dr (v:=.type "enumerate") B gd I a.1 (by decide) ?_);rw[Bp];refine PySem.callWith_type1 (wpAny_mono (H A g ρ s σ e _ r a.2 u I C) (λv s1 J=>?_) λ_ _ e=>e);refine aC.elim J λY K M w N=>?_;obtain⟨Z,O,d,i⟩:=b5 (σ:=⟨σ.env,r.2⟩) r.1 w N D;replace i:=E▸i;cases i with
 |@list l vs m xs y P=>
  refine call_enumerate_list (IsL.isList (d.so.sub _ _ y)) λh' z j hz Q=>wpAny_pyIter_enum z (aG λc=>?_);obtain⟨R,S⟩:=ni d (aU s1.heap);refine c ?_;have f:s1.heap.get? (s1.heap.objs.size+1)=none:=by
   cases q:s1.heap.get? (s1.heap.objs.size+1)with
   |none=>rfl
   |some o=>exact absurd (Heap.lt_size q) (Nat.not_lt.mpr (Nat.le_succ _))
  refine aG λc=>?_;obtain⟨U,W⟩:=ni d f;refine c (bc (M.trans w O ⟨_,d⟩) d (s₂:={s1 with heap:=h'}) Q rfl rfl ((xJ u.handled (s1.heap.objs.size+1) s1.heap.objs.size).walk _) ⟨U,R,Nat.succ_ne_self _,W,S,l,vs,m,0,.none,xs,z,j,y,by simpa using P,rfl⟩ λb k=>?_);rcases List.mem_cons.mp k with rfl|k
  ·exact f
  ·cases List.mem_singleton.mp k;exact aU _
theorem Av(ks:List Str):∀{ds:List PyData},ks.length=ds.length->GU ks ds=((ks.map PyData.str).zip ds).map λkv=>PyData.tuple [kv.1,kv.2]:=by
 induction ks with
 |nil=>exact λ{ds}h=>(List.length_eq_zero_iff.mp h.symm)▸rfl
 |cons k ks a=>
  intro ds h;induction ds using List.casesOn with
  |nil=>exact nomatch h
  |cons d ds=>exact congrArg (_::·) (a (Nat.succ.inj h))
theorem om(H:cY F gs T n){e:X}{t:PT}{st:List aA}{kvs:List (PyData×PyData)}{L:List bl}{is:List Nat}{p:PT}(y:Ok n A)(a:zg T gs (.items e) F.L t=true)(I:aF F g ρ s σ)(D:ev T n σ.env e σ.st=some (.d (.dict kvs),st)):
  wpAny (model F.B.prog F.B.w) A (eval (mM (.items e) F.L t) F.env) (λx s₁=>wpAny (model F.B.prog F.B.w) A (pyIter x) (λm s₂=>jV F A (g0 L p (.tup is)) g ρ s ⟨σ.env,st⟩ (kvs.map λkv=>.tuple [kv.1,kv.2]) m s₂) E0 s₁) E0 s:=by
 change(_&&_)=true at a;simp only[Bool.and_eq_true]at a;refine wpAny_Call_method (T:="dict") (id:="dict.items") (fR a.2) rfl a.1 PySem.F.plainAttrs_dict PySem.F.slot_dict_items PySem.F.type_dict_items (wpAny_mono (H A g ρ s σ e _ _ a.2 y I D) (λv s1 E=>?_) λ_ _ e=>e);refine aC.elim E λR J K z q=>?_;cases q with
 |d q=>cases q with
  |@dict l o ks vs xs r B hl hs C=>
   have M:=C.length;have c:s1.heap.DictOf (strKind F.B.prog F.B.w) l (ks.zip vs):=Heap.dictOf_iff.mpr ⟨o,z.so.sub _ _ r,B⟩;refine⟨c.typeIs,c.mapOf.noDict,?_⟩;refine method_meetsIn PySem.F.slot_dict_items PySem.F.entry_dict_items rfl (PySem.evalArgs_none ⟨rfl,c.typeIs,PySem.F.args_dict_items_1 _,_,meets_dict_items (strKind F.B.prog F.B.w) l hs,⟨ks.zip vs,c⟩,?_⟩);refine aG λu=>?_;have w:=z.push {cls:=.type "dict_items",data:=.fields #[.ref l]} s1.toks;have f:=w.so.sub _ _ r;have i:(s1.heap.push {cls:=.type "dict_items",data:=.fields #[.ref l]}).DictOf (strKind F.B.prog F.B.w) l (ks.zip vs):=Heap.dictOf_iff.mpr ⟨o,f,B⟩;obtain⟨ep,j⟩:=Heap.DictOf.dictAt i;have k:∀h:Heap,h.get? l=some o->h.DictAt (strKind F.B.prog F.B.w) l (ks.zip vs) ep:=λh N=>j.at λS e=>by rw[f]at e;obtain rfl:=Option.some.inj e;exact N
   refine cx (ni w (aU _)) λO P=>u (wpAny_pyIter_items (knd:=strKind F.B.prog F.B.w) (d:=l) (kvs:=ks.zip vs) (ep:=ep) ⟨_,Heap.get?_push_size _ rfl,rfl,rfl⟩ j ?_);refine bc (K.out (W:=[]) (λ_ h=>nomatch h) (St.push s1 {cls:=.type "dict_items",data:=.fields #[.ref l]} s1.toks)) w (λb o e=>Heap.get?_push_of_some _ e) rfl rfl ((xK y.handled _).walk _) ⟨O,P,l,o,ks.zip vs,ep,0,.none,.none,xs,Heap.get?_push_size _ rfl,r,k,?_,?_⟩ λb Q=>?_
   ·refine aB (List.drop_zero) (aB (j8 hl) ?_);exact C
   ·refine aB (List.drop_zero) (aB (eE hl) ?_);exact aB (Av _ (by lia)) rfl
   ·cases List.mem_singleton.mp Q;exact aU _
end
noncomputable def pJ(env:Env):List (Str×NameKind)->List (Str×Addr)->List (Str×Addr)
 |[],acc=>acc
 |(n,k)::r,acc=>if k==.free then pJ env r ((n,(env.cells.lookup n).getD 0)::acc)else pJ env r acc
theorem fW(env:Env)(n:Str)(k:NameKind)(r:List (Str×NameKind))(acc:List (Str×Addr)):pJ env ((n,k)::r) acc=if k==.free then pJ env r ((n,(env.cells.lookup n).getD 0)::acc)else pJ env r acc:=rfl
theorem k0{scope:Scope}{env:Env}(h:∀n,(n,NameKind.free)∈scope.names->(env.cells.lookup n).isSome=true):closureFor scope env=pure (pJ env scope.names []):=by
 have key:∀(names:List (Str×NameKind))(acc:List (Str×Addr))(f:Str×NameKind->List (Str×Addr)->Sem (ForInStep (List (Str×Addr)))),
   (∀n k a,f (n,k) a=if k==.free then(do let c<-cellOf env n;pure (.yield ((n,c)::a)))else pure (.yield a))->(∀n,(n,NameKind.free)∈names->(env.cells.lookup n).isSome=true)->
   forIn names acc f=pure (pJ env names acc):=by
  intro names;induction names with
  |nil=>intro acc f _ _;rw[List.forIn_nil];rfl
  |cons x r l=>
   obtain⟨n,k⟩:=x;intro acc f b d;simp only[List.forIn_cons,b,fW];cases g:k==NameKind.free with
   |true=>have e:=beq_iff_eq.mp g;refine aG λi=>?_;subst e;obtain⟨c,hc⟩:=Option.isSome_iff_exists.mp (d n (.head _));refine i ?_;unfold cellOf;exact aB hc (l _ f b λm j=>d m (.tail _ j))
   |false=>exact l _ f b λm j=>d m (.tail _ j)
 unfold closureFor
 dsimp only
 refine aB (key scope.names [] _ (λn k a=>by cases g:k==NameKind.free<;>simp[g]) h) ?_;rfl
theorem n4{env:Env}:∀{names:List (Str×NameKind)}{acc:List (Str×Addr)}{n:Str}{c:Addr},(n,c)∈pJ env names acc->(n,c)∈acc\/((n,NameKind.free)∈names/\c=(env.cells.lookup n).getD 0):=by
 intro b;induction b with
 |nil=>exact@λacc n c h=>.inl h
 |cons d r a=>
  obtain⟨m,k⟩:=d;intro acc n c h;simp only[fW]at h;split at h
  ·rename_i hk
   have e:=beq_iff_eq.mp hk;subst e;rcases a h with h|⟨h,e⟩
   ·rcases List.mem_cons.mp h with h|h
    ·cases h;exact .inr ⟨.head _,rfl⟩
    ·exact .inl h
   ·exact .inr ⟨.tail _ h,e⟩
  ·rcases a h with h|⟨h,e⟩
   ·exact .inl h
   ·exact .inr ⟨.tail _ h,e⟩
theorem zt{env:Env}:∀{names:List (Str×NameKind)}{acc:List (Str×Addr)}{x:Str×Addr},x∈acc->x∈pJ env names acc:=by
 intro b;induction b with
 |nil=>exact@λacc x h=>h
 |cons c r a=>
  obtain⟨m,k⟩:=c;intro acc x h;rw[fW];split
  ·exact a (.tail _ h)
  ·exact a h
theorem nZ{env:Env}:∀{names:List (Str×NameKind)}{acc:List (Str×Addr)}{n:Str},(n,NameKind.free)∈names->(n,(env.cells.lookup n).getD 0)∈pJ env names acc
 |(m,k)::r,acc,n,h=>by
  rw[fW];refine Or.elim (List.mem_cons.mp h) (λh=>?_) λh=>?_
  ·cases h;exact zt (.head _)
  ·split
   ·exact nZ h
   ·exact nZ h
theorem wO{env:Env}{R:Str×Addr->Str×Addr->Prop}:∀{names:List (Str×NameKind)}{acc:List (Str×Addr)},(names.map (·.1)).Nodup->acc.Pairwise R->(∀x∈acc,x.1∉names.map (·.1))->
  (∀n c x,(n,NameKind.free)∈names->c=(env.cells.lookup n).getD 0->n≠x.1->(x∈acc\/((x.1,NameKind.free)∈names/\x.2=(env.cells.lookup x.1).getD 0))->R (n,c) x)->(pJ env names acc).Pairwise R:=by
 intro s;induction s with
 |nil=>exact@λacc _ o _ _=>o
 |cons w r f=>
  obtain⟨m,k⟩:=w;intro acc p o t h;rw[List.map_cons,List.nodup_cons]at p;rw[fW];split
  ·rename_i hk
   have e:=beq_iff_eq.mp hk;subst e;refine f p.2 (List.pairwise_cons.mpr ⟨λy v=>?_,o⟩) (λx g=>?_) λn c x i j l d=>?_
   ·exact h m _ y (.head _) rfl (λq=>t y v (q▸.head _)) (.inl v)
   ·rcases List.mem_cons.mp g with rfl|g
    ·exact p.1
    ·exact λu=>t x g (.tail _ u)
   ·rcases d with d|⟨d,z⟩
    ·rcases List.mem_cons.mp d with rfl|d
     ·exact h n c _ (.tail _ i) j l (.inr ⟨.head _,rfl⟩)
     ·exact h n c x (.tail _ i) j l (.inl d)
    ·exact h n c x (.tail _ i) j l (.inr ⟨.tail _ d,z⟩)
  ·exact f p.2 o (λx g u=>t x g (.tail _ u)) λn c x i j l d=>h n c x (.tail _ i) j l (d.imp id λ⟨a,b⟩=>⟨.tail _ a,b⟩)
theorem dX{g:Type}:∀{l:List (Str×g)}{n:Str}{c:g},(n,c)∈l->(∀c',(n,c')∈l->c'=c)->l.lookup n=some c:=by
 intro a;induction a with
 |nil=>exact@λ_ _ h _=>nomatch h
 |cons i r b=>
  obtain⟨m,d⟩:=i;intro n c h u;refine Eq.trans (List.lookup_cons) ?_;cases f:n==m with
  |true=>have e:=beq_iff_eq.mp f;subst e;exact aB (u d (.head _)) rfl
  |false=>
   rcases List.mem_cons.mp h with q|h
   ·cases q;rw[beq_self_eq_true]at f;exact HR f
   ·exact b h λc' hc=>u c' (.tail _ hc)
theorem bK:∀(names:List (Str×NameKind))(n:Nat)(acc:List (Str×Addr)),cellsFrom n names acc=cellsFrom n names []++acc:=by
 intro b;induction b with
 |nil=>exact λ_ _=>rfl
 |cons c r a=>
  intro n acc;simp only[cellsFrom,cellsFrom];split
  ·simp only[a (n+1) (_::acc),a (n+1) [_],List.append_assoc];rfl
  ·exact a n acc
theorem hG:∀{names:List (Str×NameKind)}{n:Nat}{acc:List (Str×Addr)}{x:Str}{c:Addr},(x,c)∈cellsFrom n names acc->(x,c)∈acc\/(x,NameKind.cell)∈names:=by
 intro b;induction b with
 |nil=>exact@λ_ _ _ _ h=>.inl h
 |cons d r a=>
  obtain⟨m,k⟩:=d;intro n acc x c h;simp only[cellsFrom]at h;split at h
  ·rename_i hk
   have e:=beq_iff_eq.mp hk;subst e;rcases a h with h|h
   ·refine Or.elim (List.mem_cons.mp h) (λh=>?_) λh=>?_
    ·cases h;exact .inr (.head _)
    ·exact .inl h
   ·exact .inr (.tail _ h)
  ·exact(a h).imp id (.tail _)
theorem bN:∀{names:List (Str×NameKind)}{n:Nat}{x:Str},(x,NameKind.cell)∈names->∃c,(cellsFrom n names []).lookup x=some c
 |(m,k)::r,n,x,h=>by
  rw[cellsFrom];refine Or.elim (List.mem_cons.mp h) (λh=>?_) λh=>?_
  ·cases h;refine aB (if_pos rfl) ?_;rw[bK];cases q:(cellsFrom (n+1) r []).lookup m with
   |some c=>exact⟨c,by rw[List.lookup_append,q];rfl⟩
   |none=>exact⟨n,by rw[List.lookup_append,q];simp[List.lookup]⟩
  ·split
   ·refine aK (bN (n:=n+1) h) λc hc=>?_;rw[bK];exact⟨c,by rw[List.lookup_append,hc];rfl⟩
   ·exact bN h
theorem lV{e:Type}:∀{l:List (Str×e)}{n:Str},(∀c,(n,c)∉l)->l.lookup n=none:=by
 intro a;induction a with
 |nil=>exact@λ_ _=>rfl
 |cons f r b=>
  obtain⟨m,d⟩:=f;intro n h;refine Eq.trans (List.lookup_cons) ?_;cases g:n==m with
  |true=>rw[beq_iff_eq.mp g]at h;exact absurd (.head _) (h d)
  |false=>exact b λc hc=>h c (.tail _ hc)
theorem lW{scope:Scope}{env:Env}{x:Str}{k:NameKind}(h:scope.names.lookup x=some k):
  (relabel scope env).names.lookup x=some (if(k==.free&&env.scope.kind==.function&&env.kindOf x==some .cell)=true then .cell else k):=by
 have key:∀(names:List (Str×NameKind)),names.lookup x=some k->(names.map λ(n,k)=>if(k==NameKind.free&&env.scope.kind==.function&&env.kindOf n==some .cell)=true then(n,NameKind.cell)else(n,k)).lookup x=
   some (if(k==.free&&env.scope.kind==.function&&env.kindOf x==some .cell)=true then .cell else k):=by
  intro names;induction names with
  |nil=>intro h;exact aN h
  |cons y r b=>
   obtain⟨m,j⟩:=y;intro h;refine aB (List.map_cons) ?_;simp only[List.lookup_cons]at h;cases a:x==m with
   |true=>
    simp only[a]at h;obtain rfl:=Option.some.inj h;have e:=beq_iff_eq.mp a;subst e
    dsimp only
    split<;>simp[List.lookup_cons]
   |false=>
    rw[a]at h
    dsimp only
    split<;>(rw[List.lookup_cons,a];exact b h)
 exact key _ h
theorem jN:∀{L vs:List bl}{a:List (Option Nat)},fF L vs a=true->vs.length=a.length
 |_,[],[],_=>rfl
 |L,v::vs,none::a,h=>by replace h:=Bool.and_eq_true_iff.mp h;exact congrArg (·+1) (jN h.2)
 |L,v::vs,some i::a,h=>by replace h:=Bool.and_eq_true_iff.mp h;exact congrArg (·+1) (jN h.2)
 |_,[],_::_,h=>en h
 |_,_::_,[],h=>en h
theorem cp:∀{L vs:List bl}{b:List (Option Nat)},fF L vs b=true->∀{j:Nat}{v:bl},vs[j]?=some v->
  (b[j]?=some none/\v.mine=true/\(v.kind=.local\/v.kind=.cell))\/∃i u,b[j]?=some (some i)/\L[i]?=some u/\u.name=v.name/\u.kind=.cell/\v.kind=.cell/\v.mine=false
 |_,[],[],_,j,v,a=>by simp at a
 |L,w::vs,none::b,h,0,v,a=>by replace h:=Bool.and_eq_true_iff.mp h;rw[Bool.and_eq_true]at h;simp only[List.getElem?_cons_zero,Option.some.injEq]at a⊢;subst a;refine aG λc=>?_;obtain⟨⟨e,d⟩,_⟩:=h;refine c ?_;simp only[Bool.or_eq_true,beq_iff_eq]at d;exact .inl ⟨trivial,e,d⟩
 |L,w::vs,some i::b,h,0,v,a=>by
  replace h:=Bool.and_eq_true_iff.mp h;simp only[List.getElem?_cons_zero,Option.some.injEq]at a⊢;subst a;refine .inr ⟨i,?_⟩;cases q:L[i]?with
  |none=>rw[q]at h;cases h.1
  |some u=>rw[q]at h;simp only[Bool.and_eq_true,beq_iff_eq,Bool.not_eq_true']at h;exact⟨u,rfl,rfl,h.1.1.1.1,h.1.1.1.2,h.1.1.2,h.1.2⟩
 |L,w::vs,none::b,h,j+1,v,a=>by replace h:=Bool.and_eq_true_iff.mp h;exact cp h.2 a
 |L,w::vs,some i::b,h,j+1,v,a=>by replace h:=Bool.and_eq_true_iff.mp h;exact cp h.2 a
 |_,[],_::_,h,_,_,_=>en h
 |_,_::_,[],h,_,_,_=>en h
theorem iC{env:List V}(a:List (Option Nat)):∀{j:Nat},(∀(h:a[j]?=some none),(dM env a)[j]?=some .unb)/\∀(i:Nat)(h:a[j]?=some (some i)),(dM env a)[j]?=some (iY env i):=by
 induction a with
 |nil=>exact λ{j}=>⟨λh=>aN h,λi h=>aN h⟩
 |cons k a b=>
  intro j;induction k using Option.casesOn with
  |none=>induction j using Nat.casesOn with
   |zero=>exact⟨λ_=>rfl,λi h=>aN (Option.some.inj h)⟩
   |succ j=>exact b
  |some k=>induction j using Nat.casesOn with
   |zero=>exact⟨λh=>iu (Option.some.inj h),λi h=>congrArg (λi=>some (iY env i)) (Option.some.inj (Option.some.inj h))⟩
   |succ j=>exact b
theorem fS{env:List V}:∀(a:List (Option Nat)),(dM env a).length=a.length
 |[]=>rfl
 |none::a=>congrArg (·+1) (fS a)
 |some _::a=>congrArg (·+1) (fS a)
section
variable{F F':Fx}{gs:List Str}{T:List FD}{n kk:Nat}{g g' g₀ g₁:G}{ρ ρ' ρ₀ ρ₁:List Addr}{s s' s₀ s₁ s₂:Shared}{σ σ':bo}{A:Around}{mg mb:Str->Option Value}{fp:List Addr}
theorem aF.reframeK(I:aF F g ρ s σ)(H:F'.B=F.B)(p:∀b∈F'.own,s.heap.get? b=none\/b=F.B.P0)(u:∀b∈fp,dZ F g ρ s b)(S:cw F' kk fp g ρ s g' ρ' s')(f:aF F' g' ρ' s' σ'):aF F g' ρ' s' ⟨σ.env,σ'.st⟩:=by
 obtain⟨B,W,env',w⟩:=F'
 dsimp only at H
 subst H;have L:∀b∈w,b≠F.B.P0->s.heap.get? b=none:=λb a h=>(p b a).resolve_right h;have J:∀b,s.heap.get? b≠none->b∉ρ->b∉ρ':=λb j k l=>by
  rcases S.nw b l with h|h
  ·exact k h
  ·exact j h
 have K:∀b,s.heap.get? b≠none->b∉ρ->b∉fp->g b=none->g' b=none:=λb j k y l=>by
  cases q:g' b with
  |none=>rfl
  |some o=>
   rcases S.st.newg b o q with h|h|h
   ·rw[l]at h;exact aN h
   ·rcases List.mem_append.mp h with h|h
    ·rcases List.mem_append.mp h with h|h
     ·rw[f.so.gno b h]at q;exact aN q
     ·exact absurd h k
    ·exact absurd h y
   ·exact(j h).elim
 refine aG λr=>?_;have kp:∀b o,b≠F.B.P0->b∉ρ->b∉fp->s.heap.get? b=some o->s'.heap.get? b=some o:=λb o j k y l=>S.st.kept b o (λt=>by
  rcases List.mem_append.mp t with h|h
  ·rcases List.mem_append.mp h with h|h
   ·rw[L b h j]at l;exact aN l
   ·exact k h
  ·exact y h) l
 have C:∀b,F.B.h₀.get? b=none->b≠F.B.P0:=λb h q=>F.B.hP0 (q▸h);have lv:∀b,b≠F.B.P0->b∉ρ->b∉fp->s.heap.get? b≠none->s'.heap.get? b≠none:=λb j k y l=>by
  cases q:s.heap.get? b with
  |none=>exact absurd q l
  |some o=>rw[kp b o j k y q];exact λq=>nomatch q
 have D:∀b∈F.own,b∉fp:=λb a t=>(u b t).own a;have E:∀x∈F.env.cells,x.2∉fp:=λx d t=>(u _ t).cells x d rfl;refine aK (f.tab) λmore z=>?_;obtain⟨t,_⟩:=z;refine r ?_;refine⟨⟨f.so.sub,f.so.base,λb a=>K b (I.so.olt b a) (I.so.rno b a) (D b a) (I.so.gno b a),λb a=>J b (I.so.olt b a) (I.so.rno b a),f.so.rhi,I.so.ohi,I.so.lown,I.so.lhi,
  λx d=>⟨(I.so.chi x d).1,(I.so.chi x d).2.1,K _ (I.so.clt x d) (I.so.chi x d).2.2.2 (E x d) (I.so.chi x d).2.2.1,J _ (I.so.clt x d) (I.so.chi x d).2.2.2⟩,I.so.cap,f.so.rn,λb a=>?_,f.so.rlt,λx d=>lv _ (C _ (I.so.chi x d).1) (I.so.chi x d).2.2.2 (E x d) (I.so.clt x d)⟩,
  f.old,f.bare,f.tab,⟨I.fr.len,?_,?_⟩,f.stl,f.st⟩
 ·by_cases h:b=F.B.P0
  ·subst h;rw[t];exact λq=>(iu q)
  ·exact lv b h (I.so.rno b a) (D b a) (I.so.olt b a)
 ·obtain⟨m,M,N⟩:=I.fr.loc;exact⟨m,dF M λo e=>kp _ o (C _ I.so.lhi) (I.so.rno _ I.so.lown) (D _ I.so.lown) e,λi x b v j k=>(N i x b v j k).mono S.st.le S.pre⟩
 ·intro i x b v j k;refine aG λr=>bd (I.fr.cel i x b v j k) λc O z=>ko z λe1 P Q R=>aK P λo z=>?_;obtain⟨U,V⟩:=z;refine r ?_;have hc:=mem_of_lookup e1;exact j7 c O ⟨e1,⟨o,kp _ o (C _ (I.so.chi _ hc).1) (I.so.chi _ hc).2.2.2 (E _ hc) U,V⟩,Q.mono S.st.le S.pre,R⟩
theorem cw.reframe(d:F'.B=F.B)(f:F.B.P0∈F.own)(a:∀b∈F'.own,s.heap.get? b=none\/b=F.B.P0)(S:cw F' kk fp g ρ s g' ρ' s'):cw F kk fp g ρ s g' ρ' s':=by
 refine aG λc=>?_;obtain⟨B,j,env',e⟩:=F';refine c ?_
 dsimp only at d
 subst d;refine⟨S.pre,S.nw,S.st.mono λb i=>?_⟩;rcases List.mem_append.mp i with h|h
 ·rcases List.mem_append.mp h with h|h
  ·refine Or.elim (a b h) (λh=>?_) λh=>?_
   ·exact .inr h
   ·exact .inl (h▸List.mem_append_left _ (List.mem_append_left _ f))
  ·exact .inl (List.mem_append_left _ (List.mem_append_right _ h))
 ·exact .inl (List.mem_append_right _ h)
noncomputable def dU(F:Fx)(C:CS)(c:Addr):Fx:=
 ⟨F.B,C.L,{scope:=relabel C.scope F.env,locals:=c,globals:=F.env.globals,cells:=cellsFrom (c+1) C.scope.names (pJ F.env C.scope.names []),qual:=F.env.qual,func:=none,code:=F.env.code,frame:=F.env.frame,builtins:=F.env.builtins},
  F.B.P0::c::(cellsFrom (c+1) C.scope.names []).map (·.2)⟩
theorem qE{M:Model}{E:Value->Shared->Prop}{C:CS}{b:List (Str×Addr)}{Q:Env->Shared->Prop}(c:Q {scope:=C.scope,locals:=s.heap.objs.size,globals:=F.env.globals,cells:=cellsFrom (s.heap.objs.size+1) C.scope.names b,qual:=F.env.qual,func:=none,code:=F.env.code,frame:=F.env.frame,builtins:=F.env.builtins}
   {s with heap:=pushCells (s.heap.push {cls:=.type "dict",data:=.dict #[]}) C.scope.names}):
  wpAny M A (newFunctionEnv C.scope F.env.globals b [] F.env.qual none .none (some F.env)) Q E s:=by
 refine wpAny_bind (wpAny_alloc ?_);refine wpAny_bind (wpAny_layCells _ (λname kind cells=>by cases a:kind==NameKind.cell<;>simp[a]) _ _ _ _ ?_);refine aB (show({s with heap:=s.heap.push {cls:=.type "dict",data:=.dict #[]}}:Shared).heap.objs.size=s.heap.objs.size+1 from Heap.size_push ..) (wpAny_bind ?_);exact wpAny_pure (wpAny_pure c)
structure gq(C:CS):Prop where
 kind:C.scope.kind=.function
 nozip:("zip":Str)∉C.gs
 gs:∀n∈C.gs,C.scope.names.lookup n=some .globalImplicit
 nd:(C.L.map bl.name).Nodup
 L:∀v∈C.L,(v.name==("__debug__":Str))=false/\C.scope.names.lookup v.name=some (if v.mine then v.kind else .free)
 look:∀y∈C.scope.names,C.scope.names.lookup y.1=some y.2
 nn:(C.scope.names.map (·.1)).Nodup
 all:∀y∈C.scope.names,y.2≠.free\/∃v∈C.L,v.name=y.1
theorem l8{C:CS}(h:kD C=true):gq C:=by
 unfold kD at h;simp only[Bool.and_eq_true,beq_iff_eq,decide_eq_true_eq,List.all_eq_true,Bool.or_eq_true,List.any_eq_true,bne_iff_ne,Bool.not_eq_true',List.contains_eq_mem,decide_eq_false_iff_not]at h;obtain⟨⟨⟨⟨⟨⟨⟨c,d⟩,f⟩,i⟩,b⟩,j⟩,k⟩,l⟩:=h;refine⟨c,d,f,i,λv a=>⟨?_,(b v a).2⟩,j,k,λy m=>?_⟩
 ·have:=(b v a).1;simpa using this
 ·rcases l y m with h|⟨v,a,e⟩
  ·exact .inl h
  ·exact .inr ⟨v,a,e⟩
theorem eS{C:CS}(z:ca F.L F.env)(I:aF F g ρ s σ)(sc:gq C)(r:fF F.L C.L C.caps=true){m:Str}(o:(m,NameKind.free)∈C.scope.names):
  ∃i u c l,F.L[i]?=some u/\u.name=m/\u.kind=.cell/\F.env.cells.lookup m=some c/\s.heap.IsCell c l/\dK F.B g ρ (iY σ.env i) l:=by
 rcases sc.all _ o with h|⟨v,d,e⟩
 ·exact(h rfl).elim
 ·dsimp only at e
  subst e;refine aG λa=>?_;obtain⟨j,t⟩:=List.mem_iff_getElem?.mp d;have hl:=sc.look _ o;simp only[(sc.L v d).2]at hl;injection hl with hl
  refine a ?_;rcases cp r t with⟨_,f,b⟩|⟨i,u,B,f,b,p,D,E⟩
  ·replace hl:=f▸hl;replace hl:=(if_pos rfl)▸hl;rcases b with b|b<;>(rw[b]at hl;cases hl)
  ·have k:i<σ.env.length:=by rw[I.fr.len];exact(List.getElem?_eq_some_iff.mp f).1
   obtain⟨H,J,K⟩:=u
   dsimp only at b p
   subst b;subst p;refine aG λa=>bd (I.fr.cel i _ _ _ f (List.getElem?_eq_getElem k)) λc l w=>?_;refine ko w λe1 x y L=>a (vg i _ c l ⟨f,rfl,rfl,e1,x,?_⟩);by_cases q:iY σ.env i=.unb
   ·refine aB q ?_;trivial
   ·have:=iZ q;rw[List.getElem?_eq_getElem k]at this;injection this with this
    exact aB (Eq.symm (this)) y
theorem iI{C:CS}(b:ca F.L F.env)(I:aF F g ρ s σ)(sc:gq C)(d:fF F.L C.L C.caps=true):closureFor C.scope F.env=pure (pJ F.env C.scope.names []):=
 k0 λm e=>by refine aG λa=>c8 (eS b I sc d e) λi u c j f=>wl f λk l o h _=>a (aB h ?_);rfl
theorem zu{C:CS}{c:Addr}(l:Wf F gs)(sc:gq C)(o:fF F.L C.L C.caps=true):Wf (dU F C c) C.gs:=by
 have t:∀{x:Str}{k:NameKind},C.scope.names.lookup x=some k->(dU F C c).env.kindOf x=some (if(k==.free&&F.env.scope.kind==.function&&F.env.kindOf x==some .cell)=true then .cell else k):=λh=>lW h;refine⟨⟨sc.kind,λi v e=>⟨?_,(sc.L v (List.mem_of_getElem? e)).1⟩,λi v e=>?_,sc.nd,λi v e p=>?_⟩,l.globals,l.builtins,λm y=>?_,.head _,λh=>absurd h sc.nozip⟩
 ·refine Eq.trans (t (sc.L v (List.mem_of_getElem? e)).2) (aG λa=>?_);rcases cp o e with⟨_,d,b⟩|⟨j,u,w,d,b,q,f,r⟩
  ·refine a (aB d ?_);refine aB (if_pos rfl) ?_;rcases b with b|b<;>(rw[b];rfl)
  ·refine a ?_;simp only[r,f,Bool.false_eq_true,if_false];refine aB (l.lay.kind) (aB (Eq.symm (b)) ?_);refine aB ((l.lay.names j u d).1) (aB q ?_);rfl
 ·refine aG λa=>?_;rcases cp o e with⟨_,d,b⟩|⟨j,u,w,d,b,q,f,r⟩
  ·exact a b
  ·exact a (.inr f)
 ·rcases cp o e with⟨_,d,b⟩|⟨j,u,w,d,b,q,f,r⟩
  ·exact d
  ·replace p:=Eq.trans (Eq.symm f) p;cases p
 ·refine Eq.trans (t (sc.gs m y)) ?_;rfl
theorem rT{C:CS}(Q:Wf F gs)(I:aF F g ρ s σ)(sc:gq C)(L:fF F.L C.L C.caps=true):
  (∀b∈(dU F C s.heap.objs.size).own,s.heap.get? b=none\/b=F.B.P0)/\(∀b o,s.heap.get? b=some o->(pushCells (s.heap.push {cls:=.type "dict",data:=.dict #[]}) C.scope.names).get? b=some o)/\
  (∀x∈(dU F C s.heap.objs.size).env.cells,s.heap.get? x.2=none\/∃y∈F.env.cells,y.2=x.2)/\
  aF (dU F C s.heap.objs.size) g ρ {s with heap:=pushCells (s.heap.push {cls:=.type "dict",data:=.dict #[]}) C.scope.names} ⟨dM σ.env C.caps,σ.st⟩:=by
 have hsz:(s.heap.push {cls:=.type "dict",data:=.dict #[]}).objs.size=s.heap.objs.size+1:=Heap.size_push ..;have k:=cellsFrom_ok C.scope.names (s.heap.push {cls:=.type "dict",data:=.dict #[]}) (s.heap.objs.size+1) [] ⟨λ_ _ t=>(List.not_mem_nil t).elim,List.Pairwise.nil⟩ (by rw[hsz];exact Nat.le_refl _);replace k:=hsz▸k;have U:∀b o,s.heap.get? b=some o->(pushCells (s.heap.push {cls:=.type "dict",data:=.dict #[]}) C.scope.names).get? b=some o:=λb o e=>pushCells_keeps _ _ b o (Heap.get?_push_of_some _ e);have l:∀{x:Str}{c:Addr},(x,c)∈cellsFrom (s.heap.objs.size+1) C.scope.names []->s.heap.get? c=none/\c≠s.heap.objs.size:=λt=>by
  refine aG λa=>?_;have d:=(k.empty _ _ t).2;refine a ⟨?_,λq=>by rw[q]at d;exact Nat.not_succ_le_self _ d⟩;cases q:s.heap.get? _ with
  |none=>rfl
  |some o=>exact absurd (Heap.lt_size q) (Nat.not_lt.mpr (Nat.le_of_succ_le d))
 have p:∀b∈(dU F C s.heap.objs.size).own,s.heap.get? b=none\/b=F.B.P0:=λb r=>by
  rcases List.mem_cons.mp r with rfl|r
  ·exact .inr rfl
  ·rcases List.mem_cons.mp r with rfl|r
   ·exact .inl (aU _)
   ·refine aG λa=>?_;obtain⟨⟨x,c⟩,t,rfl⟩:=List.mem_map.mp r;exact a (.inl (l t).1)
 have R:(pushCells (s.heap.push {cls:=.type "dict",data:=.dict #[]}) C.scope.names).Ns s.heap.objs.size (λ_=>none):=(Heap.Ns.new s.heap (.type "dict")).keeps (pushCells_keeps _ _);have f:∀{x:Str}{c:Addr},(x,c)∈cellsFrom (s.heap.objs.size+1) C.scope.names (pJ F.env C.scope.names [])->(x,c)∈cellsFrom (s.heap.objs.size+1) C.scope.names []\/((x,NameKind.free)∈C.scope.names/\F.env.cells.lookup x=some c):=λt=>by
  refine aG λa=>?_;rw[bK]at t;refine a ?_;rcases List.mem_append.mp t with h|h
  ·exact .inl h
  ·rcases n4 h with h|⟨h,e⟩
   ·exact(List.not_mem_nil h).elim
   ·refine c8 (eS Q.lay I sc L h) λi u c' V w=>wl w λM d h3 H _=>?_;replace e:=H▸e;exact .inr ⟨h,by rw[H,e];rfl⟩
 refine⟨p,U,λx N=>(f (x:=x.1) (c:=x.2) N).imp (λh=>(l h).1) (λh=>⟨_,mem_of_lookup h.2,rfl⟩),I.frame (F':=dU F C s.heap.objs.size) rfl Q.P0 p (St.kept' U rfl rfl) (.tail _ (.head _)) (aU _) (λb r=>?_) (λx N=>?_) ?_ ⟨?_,?_,?_⟩⟩
 ·rcases List.mem_cons.mp r with rfl|r
  ·have:=I.so.olt _ Q.P0;cases q:s.heap.get? F.B.P0 with
   |none=>exact absurd q this
   |some o=>rw[U _ _ q];exact λq=>(iu q)
  ·rcases List.mem_cons.mp r with rfl|r
   ·exact gf R
   ·refine aG λa=>?_;obtain⟨⟨x,c⟩,t,rfl⟩:=List.mem_map.mp r;exact a (fc (k.empty _ _ t).1)
 ·obtain⟨x,c⟩:=x;rcases f N with h|⟨M,d⟩
  ·exact .inl ⟨.tail _ (.tail _ (List.mem_map.mpr ⟨_,h,rfl⟩)),(l h).1,(l h).2⟩
  ·exact .inr ⟨_,mem_of_lookup d,rfl⟩
 ·show(cellsFrom (s.heap.objs.size+1) C.scope.names (pJ F.env C.scope.names [])).Pairwise _;rw[bK,List.pairwise_append];refine⟨k.apart,wO sc.nn .nil (λx N=>nomatch N) λm c x M d h3 H=>?_,λx N y hy q=>?_⟩
  ·rcases H with H|⟨H,W⟩
   ·exact(List.not_mem_nil H).elim
   ·refine c8 (eS Q.lay I sc L M) λi u c1 V w=>wl w λJ B O D _=>aG λa=>c8 (eS Q.lay I sc L H) λi' u' c2 aa w=>wl w λb1 b2 b3 b4 _=>a ?_;rw[D]at d;replace W:=b4▸W;intro q
    dsimp only at q
    have e:c1=c2:=d.symm.trans (q.trans W);subst e;exact h3 (name_of_addr I.so.cap (mem_of_lookup D) (mem_of_lookup b4))
  ·obtain⟨x,c⟩:=x;obtain⟨y,c'⟩:=y
   dsimp only at q
   subst q;rcases n4 hy with h|⟨h,e⟩
   ·exact(List.not_mem_nil h).elim
   ·refine c8 (eS Q.lay I sc L h) λi u c1 V w=>wl w λJ B O D _=>?_;replace e:=D▸e;have:=I.so.clt _ (mem_of_lookup D);simp only[Option.getD_some]at e;rw[<-e]at this;exact this (l N).1
 ·show(dM σ.env C.caps).length=C.L.length;simp only[fS,jN L]
 ·refine⟨_,R,λi x b v M d=>?_⟩;refine aG λa=>?_;have E:C.L[i]?=some (bl.mk x .local b):=M;rcases cp L E with⟨J,B,O⟩|⟨j,u,J,B,O,D,a5,X⟩
  ·refine a ?_;replace d:=Eq.trans (Eq.symm ((iC _).1 J)) d;refine aG λa=>?_;obtain rfl:=Option.some.inj d;refine a ?_;trivial
  ·refine a ?_;cases a5
 ·intro i x b v M d;have E:=M;have S:=(sc.L _ (List.mem_of_getElem? E)).2
  dsimp only at S
  have P:=mem_of_lookup S;rcases cp L E with⟨J,B,O⟩|⟨j,u,J,B,O,D,a5,X⟩
  ·replace d:=Eq.trans (Eq.symm ((iC _).1 J)) d;obtain rfl:=Option.some.inj d
   dsimp only at B
   subst B;refine aG λa=>?_;obtain⟨c,hc⟩:=bN (n:=s.heap.objs.size+1) P;refine a (j7 c none ⟨?_,(k.empty _ _ (mem_of_lookup hc)).1,trivial,λ_=>.tail _ (.tail _ (List.mem_map.mpr ⟨_,mem_of_lookup hc,rfl⟩))⟩);show(cellsFrom (s.heap.objs.size+1) C.scope.names (pJ F.env C.scope.names [])).lookup x=some c;rw[bK];refine Eq.trans (List.lookup_append) (aB hc ?_);rfl
  ·dsimp only at X
   subst X;replace d:=Eq.trans (Eq.symm ((iC _).2 j J)) d;injection d with d
   subst d;have K:j<σ.env.length:=by rw[I.fr.len];exact(List.getElem?_eq_some_iff.mp B).1
   obtain⟨xn,xk,xb⟩:=u
   dsimp only at O D
   subst O;subst D;refine aG λa=>bd (I.fr.cel j _ _ _ B (List.getElem?_eq_getElem K)) λc V w=>?_;refine ko w λe1 e2 e3 e4=>a (j7 c V ⟨?_,e2.keeps U,?_,λq=>(en q)⟩)
   ·show(cellsFrom (s.heap.objs.size+1) C.scope.names (pJ F.env C.scope.names [])).lookup xn=some c;have Y:(cellsFrom (s.heap.objs.size+1) C.scope.names []).lookup xn=none:=lV λc' hc=>by
     rcases hG hc with h|h
     ·exact(List.not_mem_nil h).elim
     ·have z:=sc.look _ h;have z2:=sc.look _ P
      dsimp only at z z2
      replace z:=Eq.trans (Eq.symm z2) z;cases z
    rw[bK];refine Eq.trans (List.lookup_append) (aB Y ?_);refine dX (by have:=nZ (env:=F.env) (acc:=[]) P;rwa [e1]at this) λc' Z=>?_;rcases n4 Z with h|⟨h,e⟩
    ·exact(List.not_mem_nil h).elim
    ·rw[e1]at e;exact e
   ·by_cases hu:iY σ.env j=.unb
    ·refine aB hu ?_;trivial
    ·have:=iZ hu;rw[List.getElem?_eq_getElem K]at this;injection this with this
     exact aB (Eq.symm (this)) e3
end
section
variable{prog:Program}{w:World}{A:Around}{R:Result->Shared->Prop}{s:Shared}
theorem mF{l a f:Expr}{o:List Expr}{scope:Scope}{pos:Pos}{it acc:Value}{env:Env}(I:Nat->Shared->Prop)(turn:∀n s,I n s->wpAny (model prog w) A (pyNext it) (λr b=>match r with
   |none=>R (.ok .next) b
   |some v=>wpAny (model prog w) A (letOwnedTupleGo a it v) (λ_ d=>wpAny (model prog w) A (assign a env v) (λ_ s₂=>
     wpAny (model prog w) A (forIn o true λc r=>if r=true then do let q<-isTrue c env (eval c env);pure (ForInStep.yield q)else pure (ForInStep.yield r)) (λq e=>
      if q=true then wpAny (model prog w) A (eval l env) (λx g=>
       wpAny (model prog w) A (call (.builtin "list.append") [acc,x]) (λ_ i=>∃m,m<n/\I m i) E0 g) E0 e
      else∃m,m<n/\I m e) E0 s₂) E0 d) E0 b) E0 s)(n:Nat)(h:I n s):
  codeAny (model prog w) A (.compLoop (.ListComp l [⟨a,f,o,0⟩] scope pos) 0 it acc env) R s:=by
 refine codeAny_loop rfl I (λn s z=>?_) n h;show wpAny _ A ((compTurn (.ListComp l [⟨a,f,o,0⟩] scope pos) 0 it acc env).onRaise (λx=>do noteFrame x env;theTreesLotGoes x)) _ _ s;refine wpAny_noted ?_;rw[compTurn_list];refine wpAny_bind (wpAny_standAt (wpAny_bind (wpAny_mono (turn n s z) (λr b j=>?_) λ_ _ h'=>h'.elim)));induction r using Option.casesOn with
 |none=>exact wpAny_pure j
 |some v=>
  refine wpAny_bind (wpAny_mono j (λ_ d p=>?_) λ_ _ h'=>h'.elim);refine wpAny_bind (wpAny_mono p (λ_ s₂ t=>wpAny_bind (wpAny_mono t (λq e k=>?_) λ_ _ h'=>h'.elim)) λ_ _ h'=>h'.elim);induction q using Bool.casesOn with
  |false=>exact wpAny_pure ⟨rfl,k⟩
  |true=>exact wpAny_bind (wpAny_bind (wpAny_mono k (λx g u=>wpAny_bind (wpAny_mono u (λ_ i y=>wpAny_pure (wpAny_pure ⟨rfl,y⟩)) λ_ _ h'=>h'.elim)) λ_ _ h'=>h'.elim))
theorem mE{q t a d:Expr}{scope:Scope}{pos:Pos}{it:Value}{D:Addr}{env:Env}(I:Nat->Shared->Prop)(turn:∀n s,I n s->wpAny (model prog w) A (pyNext it) (λr b=>match r with
   |none=>R (.ok .next) b
   |some v=>wpAny (model prog w) A (letOwnedTupleGo a it v) (λ_ c=>wpAny (model prog w) A (assign a env v) (λ_ s₂=>
      wpAny (model prog w) A (eval q env) (λkv e=>wpAny (model prog w) A (eval t env) (λu f=>
       wpAny (model prog w) A (dictSet D kv u) (λ_ g=>∃m,m<n/\I m g) E0 f) E0 e) E0 s₂) E0 c) E0 b) E0 s)(n:Nat)(h:I n s):
  codeAny (model prog w) A (.compLoop (.DictComp q t [⟨a,d,[],0⟩] scope pos) 0 it (.ref D) env) R s:=by
 refine codeAny_loop rfl I (λn s y=>?_) n h;show wpAny _ A ((compTurn (.DictComp q t [⟨a,d,[],0⟩] scope pos) 0 it (.ref D) env).onRaise (λx=>do noteFrame x env;theTreesLotGoes x)) _ _ s;refine wpAny_noted ?_;rw[compTurn_dict];refine wpAny_bind (wpAny_standAt (wpAny_bind (wpAny_mono (turn n s y) (λr b i=>?_) λ_ _ h'=>h'.elim)));induction r using Option.casesOn with
 |none=>exact wpAny_pure i
 |some v=>refine wpAny_bind (wpAny_mono i (λ_ c j=>?_) λ_ _ h'=>h'.elim);refine wpAny_bind (wpAny_mono j (λ_ s₂ k=>wpAny_bind (wpAny_tests_nil ?_)) λ_ _ h'=>h'.elim);exact wpAny_bind (wpAny_bind (wpAny_mono k (λkv e l=>wpAny_bind (wpAny_holding (wpAny_mono l (λu f o=>wpAny_bind (wpAny_standAt (wpAny_holding (wpAny_mono o (λ_ g p=>wpAny_pure ⟨rfl,p⟩) λ_ _ h'=>h'.elim)))) λ_ _ h'=>h'.elim))) λ_ _ h'=>h'.elim))
end
section
variable{F F':Fx}{gs:List Str}{T:List FD}{n kk:Nat}{g g' g₀ g₁:G}{ρ ρ' ρ₀ ρ₁:List Addr}{s s' s₀ s₁ s₂:Shared}{σ σ':bo}{A:Around}{mg mb:Str->Option Value}{fp:List Addr}
theorem px{is:List Nat}:∀{vs env env':List V},dL is vs env=some env'->env'.length=env.length/\∀i,i∉is->env'[i]?=env[i]?:=by
 induction is with
 |nil=>
  intro vs env env' h;induction vs using List.casesOn with
  |nil=>exact Option.some.inj h▸⟨rfl,λ_ _=>rfl⟩
  |cons _ _=>exact aN h
 |cons i is b=>
  intro vs env env' h;induction vs using List.casesOn with
  |nil=>exact aN h
  |cons v vs=>have H:=b (vs:=vs) (env:=eA env i v) h;rw[cG]at H;replace H:=(List.length_set)▸H;refine⟨H.1,λj a=>?_⟩;refine Eq.trans (H.2 j λc=>a (.tail _ c)) ?_;rw[List.getElem?_set_ne];exact λq=>a (q▸.head _)
theorem e8{b:dJ}{L:List bl}{v:V}{env env':List V}(f:qN b L=true)(k:∀(i:Nat)(x:bl),L[i]?=some x->x.mine=true->env[i]?=some .unb)(h:cd b v env=some env'):
  env.length=env'.length/\∀i:Nat,env[i]?=some .unb\/env[i]?=env'[i]?:=by
 induction b using dJ.casesOn with
 |v i=>
  obtain rfl:=Option.some.inj (h:some (eA env i v)=some env');rw[cG];refine⟨by rw[List.length_set],λj=>?_⟩;by_cases e:i=j
  ·subst e;refine aG λa=>?_;obtain⟨x,c,d⟩:=dB f;exact a (.inl (k i x c d))
  ·exact .inr (by rw[List.getElem?_set_ne e])
 |tup is=>
  refine aG λa=>?_;obtain⟨vs,_,l⟩:=mZ h;obtain⟨m,o⟩:=px l;refine a ⟨m.symm,λj=>?_⟩;by_cases e:j∈is
  ·refine aG λa=>?_;obtain⟨x,c,d⟩:=dB (List.all_eq_true.mp f j e);exact a (.inl (k j x c d))
  ·exact .inr (o j e).symm
noncomputable def lj(T:List FD)(n:Nat)(a:Option X)(env':List V)(st:List aA):Option (Bool×List aA):=match a with
 |none=>some (true,st)
 |some c=>(ev T n env' c st).bind λr=>(aZ r.1).map λb=>(b,r.2)
theorem rc{a:Option X}{t:PT}{r:Bool×List aA}(f:rz F gs T n)(d:Ok n A)(hc:DQ T gs a F.L t=true)(I:aF F g ρ s σ)(h:lj T n a σ.env σ.st=some r):
  wpAny (model F.B.prog F.B.w) A (forIn (Be a F.L t).toList true λc r=>if r=true then do let d<-isTrue c F.env (eval c F.env);pure (ForInStep.yield d)else pure (ForInStep.yield r)) (aC F g ρ s (λ_ _(b:Bool)(c:Bool)=>c=b) (Is r.1 ⟨σ.env,r.2⟩)) E0 s:=by
 induction a using Option.casesOn with
 |none=>exact(Option.some.inj h)▸(wpAny_tests_nil (aC.is I rfl))
 |some c=>
  unfold lj at h
  dsimp only at h
  rw[Option.bind_eq_some_iff]at h;refine aG λe=>?_;obtain⟨q,i,h⟩:=h;rw[Option.map_eq_some_iff]at h;obtain⟨b,j,rfl⟩:=h;exact e (wpAny_tests_one (f A g ρ s σ c t q b hc d I i j))
inductive uM(F:Fx)(C:Obj->G->Prop)(g:G)(ρ:List Addr)(s:Shared)(D:Addr):Prop
 |mk (o:Obj) (O:dZ F g ρ s D) (ho:s.heap.get? D=some o) (c:C o g):uM F C g ρ s D
inductive rC(B:Bs)(acc:List PyData):Obj->G->Prop
 |mk (ys:Array Value) (m:Nat) (g:G) (rs:aD B.prog B.w g ys.toList acc):rC B acc {cls:=.type "list",data:=.seq ys m} g
inductive pn(B:Bs)(ks:List Str)(xs:List PyData):Obj->G->Prop
 |mk (o:Obj) (vs:List Value) (g:G) (hd:o.IsDictOf (strKind B.prog B.w) (ks.zip vs)) (hl:ks.length=vs.length) (rs:aD B.prog B.w g vs xs):pn B ks xs o g
noncomputable def tI(C:Obj->G->Prop):Prop:=∀(o:Obj)(g g':G),(∀b o,g b=some o->g' b=some o)->C o g->C o g'
theorem qt{B:Bs}{acc:List PyData}:tI (rC B acc):=λ_ _ _ a c=>by obtain⟨ys,m,_,b⟩:=c;exact⟨ys,m,_,b.mono a⟩
theorem qs{B:Bs}{ks:List Str}{xs:List PyData}:tI (pn B ks xs):=λ_ _ _ a c=>by obtain⟨vs,_,b,hl,d⟩:=c;exact .mk _ vs _ b hl (d.mono a)
variable{tgt:Expr}{it:Value}{W:List PyData->G->Shared->Prop}{ds:List PyData}{d:PyData}{D:Addr}{C C':Obj->G->Prop}
structure At(F:Fx)(A:Around)(tgt:Expr)(it:Value)(kk:Nat)(fp:List Addr)(W:List PyData->G->Shared->Prop)(g₀:G)(ρ₀:List Addr)(s₀:Shared)(D:Addr)(C:Obj->G->Prop)(g:G)(ρ:List Addr)(s:Shared)(σ:bo)(ds:List PyData):Prop where
 M:nN F A tgt it kk fp W g₀ ρ₀ s₀ g ρ s σ ds
 H:uM F C g ρ s D
theorem At.step(w:fO F.B A tgt it kk fp W)(kp:tI C)(X:At F A tgt it kk fp W g₀ ρ₀ s₀ D C g ρ s σ ds)(S:bw F g ρ s g' ρ' s')(I:aF F g' ρ' s' σ'):At F A tgt it kk fp W g₀ ρ₀ s₀ D C g' ρ' s' σ' ds:=by refine aG λa=>?_;obtain⟨M,⟨o,O,b,c⟩⟩:=X;exact cx (O.step S) λe k=>a ⟨M.step w S I,⟨o,e,k _ b,kp _ _ _ S.st.le c⟩⟩
theorem At.next(w:fO F.B A tgt it kk fp W)(kp:tI C)(b:D∉fp)(X:At F A tgt it kk fp W g₀ ρ₀ s₀ D C g ρ s σ (d::ds)){R:Shared->Prop}{K:Value->Shared->Prop}(h:∀v g' s',At F A tgt it kk fp W g₀ ρ₀ s₀ D C g' ρ s' σ ds->Rd F.B.prog F.B.w g' v d->K v s'):
  wpAny (model F.B.prog F.B.w) A (pyNext it) (λr s₁=>match r with
   |none=>R s₁
   |some v=>wpAny (model F.B.prog F.B.w) A (letOwnedTupleGo tgt it v) (λ_ a=>K v a) E0 s₁) E0 s:=by
 refine aG λi=>?_;obtain⟨M,⟨o,O,k,c⟩⟩:=X;refine i ?_;refine wpAny_mono (M.next (Q:=λo s'=>match o with
  |some v=>K v s'
  |none=>True) w λv g' s' l f m p=>h v g' s' ⟨l,⟨o,(f D b O).1,(f D b O).2 _ k,kp _ _ _ m c⟩⟩ p) (λr s' j=>?_) λ_ _ e=>e
 induction r using Option.casesOn with
 |none=>exact j.elim
 |some v=>exact j
theorem At.fin(w:fO F.B A tgt it kk fp W)(b:D∉fp)(X:At F A tgt it kk fp W g₀ ρ₀ s₀ D C g ρ s σ []){R:Shared->Prop}{K:Value->Shared->Prop}(h:∀s',cw F kk fp g₀ ρ₀ s₀ g ρ s'->aF F g ρ s' σ->uM F C g ρ s' D->R s'):
  wpAny (model F.B.prog F.B.w) A (pyNext it) (λr s₁=>match r with
   |none=>R s₁
   |some v=>wpAny (model F.B.prog F.B.w) A (letOwnedTupleGo tgt it v) (λ_ a=>K v a) E0 s₁) E0 s:=by
 refine aG λe=>?_;obtain⟨M,⟨o,O,f,c⟩⟩:=X;exact e (M.fin w λs' S I i=>h s' S I ⟨o,⟨O.g,O.own,O.r,O.cells,O.hi,by rw[i D _ b f];exact λq=>(iu q)⟩,i D _ b f,c⟩)
theorem At.weak{env a:List V}{st:List aA}(X:At F A tgt it kk fp W g₀ ρ₀ s₀ D C g ρ s ⟨env,st⟩ ds)(b:a.length=env.length)(c:∀i:Nat,a[i]?=some .unb\/a[i]?=env[i]?):At F A tgt it kk fp W g₀ ρ₀ s₀ D C g ρ s ⟨a,st⟩ ds:=
 ⟨⟨X.M.S,X.M.I.weak b c,X.M.t,X.M.out,X.M.gsz⟩,X.H⟩
theorem At.put(w:fO F.B A tgt it kk fp W)(h:s₀.heap.get? D=none)(i:D∉fp)(X:At F A tgt it kk fp W g₀ ρ₀ s₀ D C g ρ s σ ds){h':Heap}{t:Nat}{j:Obj}(hs:Heap.SameBut D s.heap h')(l:h'.get? D=some j)(c:C' j g):
  At F A tgt it kk fp W g₀ ρ₀ s₀ D C' g ρ {s with heap:=h',toks:=t} σ ds:=by
 refine aG λk=>?_;obtain⟨M,⟨o,O,_,_⟩⟩:=X;have y:St F.B [D] g g s {s with heap:=h',toks:=t}:=St.ext t (.head _) hs.extBut O.hi;refine cx (O.turn M.I y (by show h'.get? D≠none;rw[l];exact λq=>nomatch q)) λp r=>?_;have m:∀b∈fp,∀o,s.heap.get? b=some o->h'.get? b=some o:=λb a o e=>(hs.2 b λq=>i (q▸a)).trans e;refine k ⟨⟨M.S.out (λb a=>.inr (by cases List.mem_singleton.mp a;exact h)) y.toK,p,w.keep ds g g _ _ M.t m (λ_ _ e=>e) (λb a=>(M.out b a).g) (λ_ _=>rfl),λb a=>?_,M.gsz⟩,⟨j,r,l,c⟩⟩;have f:=M.out b a;refine⟨f.g,f.own,f.r,f.cells,f.hi,?_⟩;cases q:s.heap.get? b with
 |none=>exact absurd q f.th
 |some o=>show h'.get? b≠none;rw[m b a o q];exact λq=>nomatch q
inductive BQ(F:Fx)(kk:Nat)(fp:List Addr)(g₀:G)(ρ₀:List Addr)(s₀:Shared)(D:Addr)(C:Obj->G->Prop)(σ:bo):Result->Shared->Prop
 |mk (f:Flow) (g:G) (ρ:List Addr) (s:Shared) (S:cw F kk fp g₀ ρ₀ s₀ g ρ s) (I:aF F g ρ s σ) (H:uM F C g ρ s D):BQ F kk fp g₀ ρ₀ s₀ D C σ (.ok f) s
inductive Gc(F:Fx)(A:Around)(tgt:Expr)(it:Value)(kk:Nat)(fp:List Addr)(W:List PyData->G->Shared->Prop)(g₀:G)(ρ₀:List Addr)(s₀:Shared)(D:Addr)(env0:List V)(L:List PyData->List aA->List PyData->Prop):Nat->Shared->Prop
 |mk (ds:List PyData) (g:G) (ρ:List Addr) (s:Shared) (st:List aA) (acc:List PyData) (X:At F A tgt it kk fp W g₀ ρ₀ s₀ D (rC F.B acc) g ρ s ⟨env0,st⟩ ds) (h:L ds st acc):Gc F A tgt it kk fp W g₀ ρ₀ s₀ D env0 L ds.length s
theorem x6{J:Nat}{e:X}{l:PT}{env' a:List V}{st:List aA}{acc b:List PyData}{c:List aA}{L:List PyData->List aA->List PyData->Prop}(O:Ok n A)(H:cY F gs T n)(P:bG T gs e F.L l=true)(w:fO F.B A tgt it kk fp W)(p:s₀.heap.get? D=none)(u:D∉fp)(v:a.length=env'.length)(y:∀i:Nat,a[i]?=some .unb\/a[i]?=env'[i]?)(X:At F A tgt it kk fp W g₀ ρ₀ s₀ D (rC F.B acc) g ρ s ⟨env',st⟩ ds)(R:ds.length<J)(h:((ev T n env' e st).bind λr=>(fz r.1 r.2).bind λq=>if acc.length<=sizeLine then some (q.2,acc++[q.1])else none)=some (c,b))(S:L ds c b):
  wpAny (model F.B.prog F.B.w) A (eval (aV e F.L l) F.env) (λx f=>wpAny (model F.B.prog F.B.w) A (call (.builtin "list.append") [.ref D,x]) (λ_ j=>∃m,m<J/\Gc F A tgt it kk fp W g₀ ρ₀ s₀ D a L m j) E0 f) E0 s:=by
 refine bO h λx U h=>bO h λz Y h=>bC h λhsz h=>wpAny_mono (H A g ρ s ⟨env',st⟩ e l x P O X.M.I U) (λxv Z k=>?_) λ_ _ e=>e;refine aC.elim k λg5 aa S5 K r5=>aG λB=>aK (b5 (σ:=⟨env',x.2⟩) x.1 K r5 Y) λg6 h_=>?_;obtain⟨S6,I6,E⟩:=h_;have M:=(X.step w qt S5 K).step w qt S6 I6;obtain⟨o,O6,I,c6⟩:=(M.H);obtain⟨ys,m,_,N⟩:=c6;have hl:=N.length;simp only[Array.length_toList]at hl;refine B (wpAny_list_append_plain (Q:=_) ⟨m,I⟩ (λh' k hs=>?_) (by rw[hl];exact hsz));refine aK k λm' k=>?_;cases h;exact⟨_,R,⟨_,_,_,_,_,_,((M.put (C':=rC F.B (acc++[z.1])) w p u (t:=Z.toks) hs k ⟨_,_,_,by rw[Array.toList_push];exact N.append (.cons E .nil)⟩).weak v y),S⟩⟩
theorem lT{j:dJ}{p M N:PT}{e:X}{f:Option X}{m:Expr}{scope:Scope}{pos:Pos}{a:List V}{r:List PyData×List aA}{acc:List PyData}{st:List aA}(U:ca F.L F.env)(t:Ok n A)(H:cY F gs T n)(Y:rz F gs T n)(u:qN j F.L=true)(Z:bG T gs e F.L M=true)(hc:DQ T gs f F.L N=true)(O:∀(i:Nat)(x:bl),F.L[i]?=some x->x.mine=true->a[i]?=some .unb)(w:fO F.B A (g0 F.L p j) it kk fp W)(y:s₀.heap.get? D=none)(l:D∉fp)(X:At F A (g0 F.L p j) it kk fp W g₀ ρ₀ s₀ D (rC F.B acc) g ρ s ⟨a,st⟩ ds)(h:x1 j a (lj T n f) (λenv'=>ev T n env' e) ds st acc=some r):
  codeAny (model F.B.prog F.B.w) A (.compLoop (.ListComp (aV e F.L M) [⟨g0 F.L p j,m,(Be f F.L N).toList,0⟩] scope pos) 0 it (.ref D) F.env) (BQ F kk fp g₀ ρ₀ s₀ D (rC F.B r.1) ⟨a,r.2⟩) s:=by
 refine mF (Gc F A (g0 F.L p j) it kk fp W g₀ ρ₀ s₀ D a λds st acc=>x1 j a (lj T n f) (λenv'=>ev T n env' e) ds st acc=some r) (λk s1 hI=>?_) ds.length ⟨ds,g,ρ,s,st,acc,X,h⟩;clear X h;obtain⟨ds,g,ρ,s,st,acc,X,h⟩:=hI;induction ds using List.casesOn with
 |nil=>exact X.fin w l λs' S I H=>by obtain rfl:=Option.some.inj h;exact⟨_,_,_,_,S,I,H⟩
 |cons d ds=>
  refine X.next w qt l λv g2 s2 P rd=>bO h λenv' B h=>bO h λc h2 h=>?_;have o:=(e8 u O B).1;have q:=(e8 u O B).2;refine wpAny_mono (d5 U t u P.M.I (.d rd) B) (λ_ s3 E=>?_) λ_ _ e=>e;refine aC.elim E λg3 aa S3 Q _=>wpAny_mono (rc (σ:=⟨env',st⟩) Y t hc Q h2) (λb s4 E=>?_) λ_ _ e=>e;refine aC.elim E λg4 J S4 I4 r4=>?_;subst r4;have R:=(P.step w qt S3 Q).step w qt S4 I4;obtain⟨cb,K⟩:=c;induction cb using Bool.casesOn with
  |false=>exact⟨_,Nat.lt_succ_self _,⟨ds,g4,J,s4,K,acc,R.weak o q,h⟩⟩
  |true=>refine bO h λx L h=>bO h λz h6 h=>bC h λhsz h=>?_;have L:ev T n env' e K=some x:=L;exact x6 t H Z w y l o q R (Nat.lt_succ_self _) (by show(ev T n env' e K).bind _=_;rw[L];show(fz x.1 x.2).bind _=_;rw[h6];exact if_pos hsz) h
end
end Mine
end
noncomputable section
open PySem PySem.Calls PySem.Spec PySem.W PyProof.Rows Builtin.Str
set_option backward.match.sparseCases false
namespace Mine
section
variable{F F':Fx}{gs:List Str}{T:List FD}{n kk:Nat}{g g' g₀ g₁:G}{ρ ρ' ρ₀ ρ₁:List Addr}{s s' s₀ s₁ s₂:Shared}{σ σ':bo}{A:Around}{mg mb:Str->Option Value}{fp:List Addr}
theorem u4{prog:Program}{w:World}{h:Heap}{a:Addr}{kvs:List (Str×Value)}(x:h.DictOf (strKind prog w) a kvs):h.get? a≠none:=by exact cU x λo _ _ b=>cx b λc _=>aB c (λq=>(iu q))
variable{tgt:Expr}{it:Value}{W:List PyData->G->Shared->Prop}{ds:List PyData}{d:PyData}{D:Addr}{C C':Obj->G->Prop}
theorem GF{a:Type}{v:V}{ks:List Str}{f:Str->Option a}{r:a}{P:Prop}(h:(match v with
   |.d (.str x)=>if ks.length<=sizeLine then f x else none
   |_=>none)=some r)(k:∀x,v=.d (.str x)->ks.length<=sizeLine->f x=some r->P):P:=by
 induction v using V.casesOn with
 |d q=>induction q using PyData.casesOn with
  |str x=>exact bC h λhs h=>k x rfl hs h
  |_=>exact aN h
 |_=>exact aN h
theorem uM.dict{ks:List Str}{xs:List PyData}(H:uM F (pn F.B ks xs) g ρ s D):∃vs,s.heap.DictOf (strKind F.B.prog F.B.w) D (ks.zip vs)/\ks.length=vs.length/\aD F.B.prog F.B.w g vs xs:=by refine aG λa=>?_;obtain⟨o,O,b,c⟩:=H;obtain⟨vs,_,e,hl,f⟩:=c;exact a ⟨vs,Heap.dictOf_iff.mpr ⟨_,b,e⟩,hl,f⟩
inductive F9(F:Fx)(A:Around)(tgt:Expr)(it:Value)(kk:Nat)(fp:List Addr)(W:List PyData->G->Shared->Prop)(g₀:G)(ρ₀:List Addr)(s₀:Shared)(D:Addr)(env0:List V)(L:List PyData->List aA->List Str->List PyData->Prop):Nat->Shared->Prop
 |mk (ds:List PyData) (g:G) (ρ:List Addr) (s:Shared) (st:List aA) (ks:List Str) (xs:List PyData) (X:At F A tgt it kk fp W g₀ ρ₀ s₀ D (pn F.B ks xs) g ρ s ⟨env0,st⟩ ds) (h:L ds st ks xs):F9 F A tgt it kk fp W g₀ ρ₀ s₀ D env0 L ds.length s
theorem wX{B:Nat}{kv h:Value}{k:Str}{x:V}{z:PyData×List aA}{env' a:List V}{st:List aA}{ks:List Str}{xs:List PyData}{L:List PyData->List aA->List Str->List PyData->Prop}(w:fO F.B A tgt it kk fp W)(j:s₀.heap.get? D=none)(l:D∉fp)(o:a.length=env'.length)(p:∀i:Nat,a[i]?=some .unb\/a[i]?=env'[i]?)(X:At F A tgt it kk fp W g₀ ρ₀ s₀ D (pn F.B ks xs) g ρ s ⟨env',st⟩ ds)(K:ds.length<B)(M:Rv F.B g ρ (.d (.str k)) kv)(N:Rv F.B g ρ x h)(O:fz x st=some z)(hsz:ks.length<=sizeLine)(P:L ds z.2 (cg ks k) (cA ks xs k z.1)):
  wpAny (model F.B.prog F.B.w) A (dictSet D kv h) (λ_ b=>∃m,m<B/\F9 F A tgt it kk fp W g₀ ρ₀ s₀ D a L m b) E0 s:=by
 refine aG λq=>aK (b5 (σ:=⟨env',st⟩) x X.M.I N O) λS c=>eY c λE Q r=>?_;have H:=X.step w qs E Q;refine aK (H.H.dict) λvs c=>eY c λI hl R=>?_;have u:=iJ I hl;refine q (bS (f:=some) (E.rv M) rfl λU t e=>?_);cases e;refine wpAny_dictSet_pairs (jO (.str (g:=g) k t)) I (λh' J hs=>?_) (hsz:=by rw[List.length_zip];lia);rw[ir _ _ _ _ hl u]at J;refine aK (Heap.dictOf_iff.mp J) λY c=>?_;obtain⟨v,y⟩:=c;exact⟨_,K,⟨_,_,_,_,_,_,_,(H.put (C':=pn F.B (cg ks k) (cA ks xs k z.1)) w j l hs v (.mk _ _ _ y (fX ks vs k h hl).symm (n9 r ks vs xs k hl R))).weak o p,P⟩⟩
theorem lu{j:dJ}{p q tb:PT}{a b:X}{m:Expr}{scope:Scope}{pos:Pos}{f:List V}{r:List Str×List PyData×List aA}{ks:List Str}{xs:List PyData}{st:List aA}(R:ca F.L F.env)(t:Ok n A)(H:cY F gs T n)(u:qN j F.L=true)(U:bG T gs a F.L q=true)(Y:bG T gs b F.L tb=true)(M:∀(i:Nat)(x:bl),F.L[i]?=some x->x.mine=true->f[i]?=some .unb)(w:fO F.B A (g0 F.L p j) it kk fp W)(y:s₀.heap.get? D=none)(l:D∉fp)(X:At F A (g0 F.L p j) it kk fp W g₀ ρ₀ s₀ D (pn F.B ks xs) g ρ s ⟨f,st⟩ ds)(h:wW j f (λenv'=>ev T n env' a) (λenv'=>ev T n env' b) ds st ks xs=some r):
  codeAny (model F.B.prog F.B.w) A (.compLoop (.DictComp (aV a F.L q) (aV b F.L tb) [⟨g0 F.L p j,m,[],0⟩] scope pos) 0 it (.ref D) F.env) (BQ F kk fp g₀ ρ₀ s₀ D (pn F.B r.1 r.2.1) ⟨f,r.2.2⟩) s:=by
 refine mE (F9 F A (g0 F.L p j) it kk fp W g₀ ρ₀ s₀ D f λds st ks xs=>wW j f (λenv'=>ev T n env' a) (λenv'=>ev T n env' b) ds st ks xs=some r) (λk s1 Z=>?_) ds.length ⟨ds,g,ρ,s,st,ks,xs,X,h⟩;clear X h;obtain⟨ds,g,ρ,s,st,ks,xs,X,h⟩:=Z;induction ds using List.casesOn with
 |nil=>exact X.fin w l λs' S I H=>by obtain rfl:=Option.some.inj h;exact⟨_,_,_,_,S,I,H⟩
 |cons d ds=>refine X.next w qs l λv g2 s2 N rd=>bO h λenv' B h=>bO h λc h2 h=>bO h λx h5 h=>bO h λz h6 h=>GF h λk e hsz h=>?_;have E:=(e8 u M B).1;have J:=(e8 u M B).2;refine wpAny_mono (d5 R t u N.M.I (.d rd) B) (λ_ s3 o=>?_) λ_ _ e=>e;refine aC.elim o λg3 K S3 O _=>wpAny_mono (H A g3 K s3 ⟨env',st⟩ a q c U t O h2) (λkv s4 o=>?_) λ_ _ e=>e;refine aC.elim o λg4 L S4 P r4=>wpAny_mono (H A g4 L s4 ⟨env',c.2⟩ b tb x Y t P h5) (λxv s5 o=>?_) λ_ _ e=>e;exact aC.elim o λg5 aa Q I5 r5=>wX w y l E J (((N.step w qs S3 O).step w qs S4 P).step w qs Q I5) (Nat.lt_succ_self _) (e▸Q.rv r4) r5 h6 hsz h
end
end Mine
end
noncomputable section
open PySem PySem.Calls PySem.Spec PySem.W PyProof.Rows Builtin.Str
namespace Mine
section
variable{F F':Fx}{gs:List Str}{T:List FD}{n kk:Nat}{g g' g₀ g₁:G}{ρ ρ' ρ₀ ρ₁:List Addr}{s s' s₀ s₁ s₂:Shared}{σ σ':bo}{A:Around}{mg mb:Str->Option Value}{fp:List Addr}
noncomputable def fM(F:Fx)(g:G)(ρ:List Addr)(s:Shared)(σ':bo)(d:PyData)(D c:Addr)(s':Shared):Prop:=
 ∃g' ρ' o m,bw F g ρ s g' ρ' s'/\aF F g' ρ' s' σ'/\dZ F g' ρ' s' D/\dZ F g' ρ' s' c/\D≠c/\s.heap.get? c=none/\s.heap.get? D=none/\s'.heap.Ns c m/\s'.heap.get? D=some o/\Rd F.B.prog F.B.w (g'.put D o) (.ref D) d
theorem dZ.inv{a:Addr}(I:aF F g ρ s σ)(O:dZ F g ρ s a)(y:St F.B [a] g g s s'):aF F g ρ s' σ:=by
 refine I.growW y (λb c=>?_) λb o e=>y.kept b o (λd=>?_) (I.so.sub b o e)
 ·cases List.mem_singleton.mp c;exact⟨O.own,O.r,λx f q=>O.cells x f q.symm,O.hi,O.g⟩
 ·cases List.mem_singleton.mp d;replace e:=Eq.trans (Eq.symm (O.g)) e;exact aN e
theorem dZ.put{a b:Addr}{o:Obj}(O:dZ F g ρ s a)(h:a≠b):dZ F (g.put b o) ρ s a:=⟨by rw[G.put_ne g o h];exact O.g,O.own,O.r,O.cells,O.hi,O.th⟩
theorem m5{D c:Addr}{d:PyData}{f:Flow}(h:fM F g ρ s σ' d D c s'):compPost (model F.B.prog F.B.w) A E0 none (aC F g ρ s (Rv F.B) (Is (.d d) σ')) (.ref D) c (.ok f) s':=by refine c8 h λg' ρ' o m i=>DC i λS I a p j hc i=>ko i λr t u v=>⟨m,t,λh' hs=>?_⟩;have y:St F.B [c] g' g' s' {s' with heap:=h'}:=St.ext s'.toks (.head _) hs.extBut p.hi;have e:h'.get? D=some o:=(hs.2 D j).trans u;have k:dZ F g' ρ' {s' with heap:=h'} D:=⟨a.g,a.own,a.r,a.cells,a.hi,by show h'.get? D≠none;rw[e];exact λq=>(iu q)⟩;obtain⟨w,x⟩:=k.take (p.inv I y) e;exact((S.out (W:=[c]) (λb l=>by cases List.mem_singleton.mp l;exact hc) y).out (W:=[D]) (λb l=>by cases List.mem_singleton.mp l;exact r) x).post (R:=Rv F.B) w (.d v)
theorem pY{D c:Addr}{d:PyData}{f:Flow}{i:Nat}{p:Pos}(z:ca F.L F.env)(B:(F.L[i]?).any (·.mine)=true)(h:fM F g ρ s σ' d D c s'):
  compPost (model F.B.prog F.B.w) A E0 (some (assign (.Name (nm F.L i) p) F.env)) (λ_ s''=>aC F g ρ s (ed F.B) (Is .nx ⟨eA σ'.env i (.d d),σ'.st⟩) .next s'') (.ref D) c (.ok f) s':=by
 refine aG λj=>c8 h λg' ρ' o m k=>DC k λS I C E l hc k=>?_;obtain⟨H,J,K,L⟩:=k;obtain⟨t,M⟩:=C.take I K;refine j (wpAny_mono (eo z B A _ _ _ σ' _ _ t (.d L)) (λu q N=>?_) λ_ _ e=>e);refine aC.elim N λv O w x Q=>?_;obtain⟨a,P⟩:=((E.put (Ne.symm l):dZ F (g'.put D o) ρ' s' c)).step w;refine⟨m,dF J P,λh' hs=>?_⟩;have y:St F.B [c] v v q {q with heap:=h'}:=St.ext q.toks (.head _) hs.extBut a.hi;exact(((S.out (W:=[D]) (λb r=>by cases List.mem_singleton.mp r;exact H) M).trans t w ⟨_,x⟩).out (W:=[c]) (λb r=>by cases List.mem_singleton.mp r;exact hc) y).post (R:=ed F.B) (a.inv x y) ed.nx
theorem qy{C:CS}{env:List V}(d:fF F.L C.L C.caps=true):∀(i:Nat)(x:bl),C.L[i]?=some x->x.mine=true->(dM env C.caps)[i]?=some .unb:=λi x e b=>by
 refine aG λa=>?_;rcases cp d e with⟨c,f,h⟩|⟨j,u,c,f,h,l,m,k⟩
 ·exact a ((iC _).1 c)
 ·refine a ?_;replace b:=Eq.trans (Eq.symm k) b;exact en b
theorem li{C:CS}{J:dJ}{p:PT}{it:Value}{W:List PyData->G->Shared->Prop}{ds:List PyData}{oD:Obj}(L:Wf F gs)(sc:gq C)(U:fF F.L C.L C.caps=true)(w:fO F.B A (g0 C.L p J) it kk fp W)(M:nN F A (g0 C.L p J) it kk fp W g ρ s g₁ ρ₁ s₁ σ ds)(hf:oD.isFreed=false)(hsz:kk=s.gens.size)(fr:∀b∈fp,s.heap.get? b=none):
  let D:=s₁.heap.objs.size
  let H:=s₁.heap.push oD
  let F':=dU F C H.objs.size
  let a:Shared:={s₁ with heap:=pushCells (H.push {cls:=.type "dict",data:=.dict #[]}) C.scope.names}
  Wf F' C.gs/\nN F' A (g0 C.L p J) it kk fp W g₁ ρ₁ s₁ g₁ ρ₁ a ⟨dM σ.env C.caps,σ.st⟩ ds/\dZ F' g₁ ρ₁ a D/\a.heap.get? D=some oD/\s₁.heap.get? D=none/\D∉fp/\
  ∀(g':G)(ρ':List Addr)(s':Shared)(env':List V)(l:List aA),cw F' kk fp g₁ ρ₁ s₁ g' ρ' s'->aF F' g' ρ' s' ⟨env',l⟩->dZ F' g' ρ' s' D->∀o d,s'.heap.get? D=some o->Rd F.B.prog F.B.w (g'.put D o) (.ref D) d->fM F g ρ s ⟨σ.env,l⟩ d D H.objs.size s':=by
 intro D H F' a;have I3:aF F g₁ ρ₁ {s₁ with heap:=H} σ:=M.I.push oD s₁.toks;refine ko (rT L I3 sc U) λX N c3 c4=>?_;have c:s₁.heap.get? D=none:=aU _;have z:H.get? D=some oD:=Heap.get?_push_size _ hf;have B:∀b o,s₁.heap.get? b=some o->a.heap.get? b=some o:=λb o e=>N b o (Heap.get?_push_of_some _ e);have j:∀b,H.get? b=none->s₁.heap.get? b=none:=λb h=>by
  cases q:s₁.heap.get? b with
  |none=>rfl
  |some o=>rw[show H.get? b=some o from Heap.get?_push_of_some _ q]at h;exact iu h
 have E:∀b∈F'.own,s₁.heap.get? b=none\/b=F.B.P0:=λb f=>(X b f).imp (j b) id;have nP:∀b,F.B.h₀.get? b=none->b≠F.B.P0:=λb h q=>F.B.hP0 (q▸h);have k:∀b,dZ F g₁ ρ₁ {s₁ with heap:=H} b->dZ F' g₁ ρ₁ a b:=λb O=>by
  refine⟨O.g,λr=>?_,O.r,λx I q=>?_,O.hi,?_⟩
  ·rcases X b r with h|h
   ·exact O.th h
   ·exact nP b O.hi h
  ·rcases c3 x I with h|⟨y,hy,e⟩
   ·rw[q]at h;exact O.th h
   ·exact O.cells y hy (e.trans q)
  ·cases q:H.get? b with
   |none=>exact absurd q O.th
   |some o=>rw[N b o q];exact λq=>nomatch q
 have t:bw F g₁ ρ₁ s₁ g₁ ρ₁ {s₁ with heap:=H}:=bw.refl.out (W:=[]) (λ_ h=>nomatch h) (St.push s₁ oD s₁.toks);have M4:nN F' A (g0 C.L p J) it kk fp W g₁ ρ₁ s₁ g₁ ρ₁ a ⟨dM σ.env C.caps,σ.st⟩ ds:=
  ⟨⟨List.prefix_refl _,λ_ h=>.inl h,(St.kept' B rfl rfl).toK⟩,c4,w.keep ds g₁ g₁ s₁ a M.t (λb _ o e=>B b o e) (λ_ _ e=>e) (λb f=>(M.out b f).g) (λ_ _=>rfl),λb f=>k b ((M.out b f).step t).1,M.gsz⟩
 have P:dZ F g₁ ρ₁ {s₁ with heap:=H} D:=dZ.new M.I c (by show H.get? D≠none;rw[z];exact λq=>nomatch q);refine⟨zu L sc U,M4,k D P,((N _ _ z:a.heap.get? D=some oD)),c,((λr=>(M.out D r).th c:D∉fp)),λg' ρ' s' env' l S i K o d ho rd=>?_⟩;have Y:=M.I.reframeK (F':=F') rfl E M.out S i;have Q:bw F g ρ s g' ρ' s':=by have:=M.S.trans M.I (λb f=>(M.out b f).th) ((cw.reframe (F:=F) (F':=F') rfl L.P0 E S:cw F kk fp g₁ ρ₁ s₁ g' ρ' s')) ⟨_,Y⟩;subst hsz;exact this.toStp fr
 have u:s₁.heap.get? H.objs.size=none:=j _ (aU _);refine aG λR=>?_;obtain⟨m,hn,_⟩:=i.fr.loc;have Z:∀b,s₁.heap.get? b=none->s.heap.get? b=none:=λb h=>by
  cases q:s.heap.get? b with
  |none=>rfl
  |some o=>
   exfalso;by_cases f:b∈F.own++ρ++fp
   ·rcases List.mem_append.mp f with v|v
    ·rcases List.mem_append.mp v with v|v
     ·exact M.I.so.olt b v h
     ·exact M.I.so.rlt b (M.S.pre.subset v) h
    ·exact(M.out b v).th h
   ·rw[M.S.st.kept b o f q]at h;exact iu h
 refine R (vg g' ρ' o m ⟨Q,Y,⟨K.g,λr=>M.I.so.olt D r c,K.r,λx I q=>M.I.so.clt x I (q▸c),K.hi,K.th⟩,⟨i.so.gno _ i.so.lown,λr=>M.I.so.olt _ r u,i.so.rno _ i.so.lown,λx I q=>M.I.so.clt x I (q▸u),i.so.lhi,i.so.olt _ i.so.lown⟩,(by show s₁.heap.objs.size≠_;rw[((Heap.size_push ..:H.objs.size=s₁.heap.objs.size+1))];exact Nat.ne_of_lt (Nat.lt_succ_self _)),Z _ u,Z _ c,hn,ho,rd⟩)
end
end Mine
end
noncomputable section
open PySem PySem.Calls PySem.Spec PySem.W PyProof.Rows Builtin.Str
set_option backward.match.sparseCases false
namespace Mine
section
variable{F F':Fx}{gs:List Str}{T:List FD}{n kk:Nat}{g g' g₀ g₁:G}{ρ ρ' ρ₀ ρ₁:List Addr}{s s' s₀ s₁ s₂:Shared}{σ σ':bo}{A:Around}{mg mb:Str->Option Value}{fp:List Addr}
theorem xZ{C:CS}{k:dJ}{it:It}{e:X}{b:Option X}{t:PT}{q r:List PyData×List aA}{use:Option (Value->Sem Unit)}{Q:Value->Shared->Prop}(B:Wf F gs)(E:Ok n A)(K:po F gs T n)(L:∀(F':Fx)(i:List Str),F'.B=F.B->Wf F' i->cY F' i T n/\rz F' i T n)(j:bG T gs (.lc e k it b C) F.L t=true)(I:aF F g ρ s σ)(N:evi T n σ.env it σ.st=some q)(O:x1 k (dM σ.env C.caps) (lj T n b) (λenv'=>ev T n env' e) q.1 q.2 []=some r)(P:∀D c f s',fM F g ρ s ⟨σ.env,r.2⟩ (.list r.1) D c s'->compPost (model F.B.prog F.B.w) A E0 use Q (.ref D) c (.ok f) s'){pos:Pos}:
  wpAny (model F.B.prog F.B.w) A (comprehension (aV (.lc e k it b C) F.L t) C.scope F.env pos (newList []) false (eval (mM it F.L (t.c 2)) F.env) use) Q E0 s:=by
 change(_&&_)=true at j;simp only[Bool.and_eq_true]at j;refine aG λa=>?_;obtain⟨⟨⟨⟨⟨⟨R,U⟩,V⟩,p⟩,Y⟩,Z⟩,k7⟩:=j;refine a ?_;have sc:=l8 V;refine wpAny_comprehension_free rfl (gD it F.L (t.c 2) F.env) (iI B.lay I sc p) sc.kind (λx hx hl=>by rw[sc.look x hx,hl]) (wpAny_mono (K A g ρ s σ it (t.c 2) q C.L k (t.c 1) R k7 E I N) (λx s1 hw=>wpAny_mono hw (λu s2 l=>?_) λ_ _ e=>e) λ_ _ e=>e);refine aG λa=>c8 l λg2 aa fp W h_=>eY h_ λw fr M=>a (wpAny_newObj_type (qE ?_));refine aG λa=>DC (li (oD:={cls:=.type "list",dict:=none,data:=.seq ([]:List Value).toArray}) B sc p w M rfl rfl fr) λo H O4 hD v y fin=>?_;obtain⟨H',z⟩:=L (dU F C _) C.gs rfl o;refine a ?_;have d:codeAny (model F.B.prog F.B.w) A (.compLoop (.ListComp (aV e C.L (t.c 0)) [⟨g0 C.L (t.c 1) k,mM it F.L (t.c 2),(Be b C.L (t.c 3)).toList,0⟩] C.scope t.p) 0 u (.ref s2.heap.objs.size) (dU F C (s2.heap.push {cls:=.type "list",dict:=none,data:=.seq ([]:List Value).toArray}).objs.size).env) (compPost (model F.B.prog F.B.w) A E0 use Q (.ref s2.heap.objs.size) (s2.heap.push {cls:=.type "list",dict:=none,data:=.seq ([]:List Value).toArray}).objs.size) {s2 with heap:=pushCells ((s2.heap.push {cls:=.type "list",dict:=none,data:=.seq ([]:List Value).toArray}).push {cls:=.type "dict",data:=.dict #[]}) C.scope.names}:=by
  refine codeAny_mono (lT (D:=s2.heap.objs.size) (acc:=[]) o.lay E H' z U Y Z (qy p) w v y ⟨H,.mk _ O4 hD (.mk #[] 0 _ .nil)⟩ O) λqq s' hr=>?_;obtain⟨f,g',ρ',_,S,I',⟨o',J,ho,c⟩⟩:=hr;refine aG λa=>?_;cases c with
  |mk ys m _ rs=>refine a ?_;exact P _ _ f s' (fin g' ρ' s' _ _ S I' J _ _ ho (.list (G.put_self ..) (rs.mono (G.put_le J.g))))
 exact codeAny_compStart_list d (wpAny_mono (w.again _ _ _ _ H.t d) (λ_ _ h=>h) λ_ _ e=>e.elim)
theorem x0{C:CS}{j:dJ}{it:It}{e:X}{a:Option X}{t:PT}{q r:List PyData×List aA}(l:Wf F gs)(m:Ok n A)(o:po F gs T n)(p:∀(F':Fx)(i:List Str),F'.B=F.B->Wf F' i->cY F' i T n/\rz F' i T n)(k:bG T gs (.lc e j it a C) F.L t=true)(I:aF F g ρ s σ)(u:evi T n σ.env it σ.st=some q)(v:x1 j (dM σ.env C.caps) (lj T n a) (λenv'=>ev T n env' e) q.1 q.2 []=some r):
  wpAny (model F.B.prog F.B.w) A (eval (aV (.lc e j it a C) F.L t) F.env) (aC F g ρ s (Rv F.B) (Is (.d (.list r.1)) ⟨σ.env,r.2⟩)) E0 s:=by
 have b:=xZ (use:=none) (Q:=aC F g ρ s (Rv F.B) (Is (.d (.list r.1)) ⟨σ.env,r.2⟩)) (pos:=(mM it F.L (t.c 2)).pos) l m o p k I u v (λD c f s' h=>m5 h);rw[mo]at b⊢;exact b
theorem wT{C:CS}{l:dJ}{it:It}{a b:X}{t:PT}{q:List PyData×List aA}{r:List Str×List PyData×List aA}{use:Option (Value->Sem Unit)}{Q:Value->Shared->Prop}(O:Wf F gs)(gd:Gd0 F.B mg mb)(P:Ok n A)(Y:po F gs T n)(Z:∀(F':Fx)(j:List Str),F'.B=F.B->Wf F' j->cY F' j T n/\rz F' j T n)(k:bG T gs (.dc a b l it C) F.L t=true)(I:aF F g ρ s σ)(h1:evi T n σ.env it σ.st=some q)(y:wW l (dM σ.env C.caps) (λenv'=>ev T n env' a) (λenv'=>ev T n env' b) q.1 q.2 [] []=some r)(hQ:∀D c f s',fM F g ρ s ⟨σ.env,r.2.2⟩ (dD r.1 r.2.1) D c s'->compPost (model F.B.prog F.B.w) A E0 use Q (.ref D) c (.ok f) s'){pos:Pos}:
  wpAny (model F.B.prog F.B.w) A (comprehension (aV (.dc a b l it C) F.L t) C.scope F.env pos newDict false (eval (mM it F.L (t.c 2)) F.env) use) Q E0 s:=by
 change(_&&_)=true at k;simp only[Bool.and_eq_true]at k;refine aG λd=>?_;obtain⟨⟨⟨⟨⟨⟨k1,k2⟩,k3⟩,z⟩,k5⟩,k6⟩,k7⟩:=k;have sc:=l8 k3;refine d (wpAny_comprehension_free rfl (gD it F.L (t.c 2) F.env) (iI O.lay I sc z) sc.kind (λx hx hl=>by rw[sc.look x hx,hl]) ?_);refine wpAny_mono (Y A g ρ s σ it (t.c 2) q C.L l (t.c 1) k1 k7 P I h1) (λx s1 hw=>wpAny_mono hw (λB s2 m=>?_) λ_ _ e=>e) λ_ _ e=>e;refine aG λd=>c8 m λg2 aa fp W E=>eY E λw fr M=>d (wpAny_newObj_type (qE ?_));refine aG λd=>DC (li (oD:={cls:=.type "dict",dict:=none,data:=.dict #[]}) O sc z w M rfl rfl fr) λp R O4 hD H J fin=>?_;obtain⟨H',ab⟩:=Z (dU F C _) C.gs rfl p;refine d ?_;have u:(s2.heap.push {cls:=.type "dict",dict:=none,data:=.dict #[]}).DictOf (strKind F.B.prog F.B.w) s2.heap.objs.size ([]:List (Str×Value)):=Heap.DictOf.new s2.heap;have v:(pushCells ((s2.heap.push {cls:=.type "dict",dict:=none,data:=.dict #[]}).push {cls:=.type "dict",data:=.dict #[]}) C.scope.names).DictOf (strKind F.B.prog F.B.w) s2.heap.objs.size (([]:List Str).zip ([]:List Value)):=u.at λo e=>pushCells_keeps _ _ _ _ (Heap.get?_push_of_some _ e);have K:(s2.heap.objs.size==sysModules)=false:=by refine aG λd=>cU (M.I.ns gd gd.mgP gd.mgN) λo _ _ E=>?_;obtain⟨L,_⟩:=E;refine d ?_;have y:=Heap.lt_size L;rw[beq_eq_false_iff_ne];intro q;rw[q]at y;exact absurd y (by decide)
 refine aG λd=>?_;obtain⟨U,N,GO⟩:=Heap.dictOf_iff.mp v;refine d ?_;have i:codeAny (model F.B.prog F.B.w) A (.compLoop (.DictComp (aV a C.L ((t.c 0).c 0)) (aV b C.L ((t.c 0).c 1)) [⟨g0 C.L (t.c 1) l,mM it F.L (t.c 2),[],0⟩] C.scope t.p) 0 B (.ref s2.heap.objs.size) (dU F C (s2.heap.push {cls:=.type "dict",dict:=none,data:=.dict #[]}).objs.size).env) (compPost (model F.B.prog F.B.w) A E0 use Q (.ref s2.heap.objs.size) (s2.heap.push {cls:=.type "dict",dict:=none,data:=.dict #[]}).objs.size) {s2 with heap:=pushCells ((s2.heap.push {cls:=.type "dict",dict:=none,data:=.dict #[]}).push {cls:=.type "dict",data:=.dict #[]}) C.scope.names}:=by
  refine codeAny_mono (lu (D:=s2.heap.objs.size) (ks:=[]) (xs:=[]) p.lay P H' k2 k5 k6 (qy z) w H J ⟨R,.mk U O4 N (.mk U [] _ GO rfl .nil)⟩ y) λqq s' hr=>?_;obtain⟨f,g',ρ',_,S,I',⟨o',V,L,c⟩⟩:=hr;refine aG λd=>?_;cases c with
  |mk vs _ hd hl rs=>refine d ?_;exact hQ _ _ f s' (fin g' ρ' s' _ _ S I' V _ _ L (.dict (G.put_self ..) hd hl K (rs.mono (G.put_le V.g))))
 exact codeAny_compStart_dict i (wpAny_mono (w.again _ _ _ _ R.t i) (λ_ _ h=>h) λ_ _ e=>e.elim)
theorem wV{C:CS}{j:dJ}{it:It}{a b:X}{t:PT}{q:List PyData×List aA}{r:List Str×List PyData×List aA}(l:Wf F gs)(gd:Gd0 F.B mg mb)(m:Ok n A)(o:po F gs T n)(p:∀(F':Fx)(i:List Str),F'.B=F.B->Wf F' i->cY F' i T n/\rz F' i T n)(k:bG T gs (.dc a b j it C) F.L t=true)(I:aF F g ρ s σ)(u:evi T n σ.env it σ.st=some q)(v:wW j (dM σ.env C.caps) (λenv'=>ev T n env' a) (λenv'=>ev T n env' b) q.1 q.2 [] []=some r):
  wpAny (model F.B.prog F.B.w) A (eval (aV (.dc a b j it C) F.L t) F.env) (aC F g ρ s (Rv F.B) (Is (.d (dD r.1 r.2.1)) ⟨σ.env,r.2.2⟩)) E0 s:=by
 have e:=wT (use:=none) (Q:=aC F g ρ s (Rv F.B) (Is (.d (dD r.1 r.2.1)) ⟨σ.env,r.2.2⟩)) (pos:=(mM it F.L (t.c 2)).pos) l gd m o p k I u v (λD c f s' h=>m5 h);rw[mn]at e⊢;exact e
theorem mj{i:Nat}{v:bl}{e:Expr}{sc:Scope}{p:Pos}{l:Nat}(f:ca F.L F.env)(h:F.L[i]?=some v)(q:v.kind=.local)(b:(match e with
   |.ListComp _ _ s _=>some s
   |.DictComp _ _ _ s _=>some s
   |_=>none)=some sc)(j:(p.line==e.pos.line)=true)(m:(sc.names.any λ(n,k)=>n==nm F.L i&&(k==.local||k==.cell))=false):swapsWith e (some (.Name (nm F.L i) p)) l F.env=pure true:=by
 have o:(F.env.blockKind==ScopeKind.function)=true:=by unfold Env.blockKind;rw[f.kind];rfl
 have a:(F.env.kindOf (nm F.L i)==some NameKind.local)=true:=by rw[f9 h,(f.names i v h).1,q];rfl
 induction e using Expr.casesOn with
 |ListComp r gens c pos=>refine aG λd=>?_;obtain rfl:=Option.some.inj b;refine d ?_;unfold swapsWith;simp only[o,a,j,m,Bool.and_self,Bool.not_false]
 |DictComp k t gens c pos=>obtain rfl:=Option.some.inj b;unfold swapsWith;simp only[o,a,j,m,Bool.and_self,Bool.not_false]
 |_=>exact aN b
theorem rG{i:Nat}{e:X}{t:PT}{r:V×List aA}(w:Wf F gs)(gd:Gd0 F.B mg mb)(W:Ok (n+1) A)(R:po F gs T n)(S:∀(F':Fx)(o:List Str),F'.B=F.B->Wf F' o->cY F' o T n/\rz F' o T n)(j:ur T gs (.asgC i e) F.L t=true)(I:aF F g ρ s σ)(l:ev T (n+1) σ.env e σ.st=some r):
  wpAny (model F.B.prog F.B.w) A (exec (rj (.asgC i e) F.L t) F.env) (aC F g ρ s (ed F.B) (Is .nx ⟨eA σ.env i r.1,r.2⟩)) E0 s:=by
 have x:=W.less (Nat.le_succ n);induction e using X.casesOn with
 |lc e E it m C=>
  change(_&&_)=true at j;rw[Bool.and_eq_true,Bool.and_eq_true,Bool.and_eq_true,Bool.not_eq_true']at j;refine cx j λk y=>?_;have H:=k.1;have J:=k.2;have K:=y.1;have L:=y.2;obtain⟨v,B,u⟩:=dB J;rw[Bool.and_eq_true,beq_iff_eq]at u;refine bO l λq M l=>bM l λz U l=>?_;subst l;rw[rk];refine aB (exec_Assign_Name_used (hs:=((mj (sc:=C.scope) w.lay B u.1 (by rw[mo]) (by rw[mo];exact K) L:swapsWith (aV (.lc e E it m C) F.L (t.c 1)) (some (.Name (nm F.L i) (t.c 0).p)) t.p.line F.env=pure true)))) ?_;have N:x1 E (dM σ.env C.caps) (lj T n m) (λenv'=>ev T n env' e) q.1 q.2 []=some z:=by
   congr 1
  refine wpAny_bind (wpAny_standAt (wpAny_bind ?_));exact wpAny_bind (wpAny_mono (xZ (use:=some (assign (.Name (nm F.L i) (t.c 0).p) F.env)) (Q:=λ_ s''=>aC F g ρ s (ed F.B) (Is .nx ⟨eA σ.env i (.d (.list z.1)),z.2⟩) .next s'') (pos:=(mM it F.L ((t.c 1).c 2)).pos) w x R S H I M N (λD c f s' h=>pY w.lay (by rw[B];exact u.2) h)) (λ_ s' O=>wpAny_pure (wpAny_pure O)) λ_ _ e=>e)
 |dc a b E it C=>change(_&&_)=true at j;rw[Bool.and_eq_true,Bool.and_eq_true,Bool.and_eq_true,Bool.not_eq_true']at j;refine cx j λk y=>?_;have H:=k.1;have J:=k.2;have K:=y.1;have L:=y.2;obtain⟨v,B,u⟩:=dB J;rw[Bool.and_eq_true,beq_iff_eq]at u;refine bO l λq M l=>bM l λz U l=>?_;subst l;rw[rk];refine aB (exec_Assign_Name_used (hs:=((mj (sc:=C.scope) w.lay B u.1 (by rw[mn]) (by rw[mn];exact K) L:swapsWith (aV (.dc a b E it C) F.L (t.c 1)) (some (.Name (nm F.L i) (t.c 0).p)) t.p.line F.env=pure true)))) (aG λP=>?_);refine P (wpAny_bind (wpAny_standAt (wpAny_bind ?_)));exact wpAny_bind (wpAny_mono (wT (use:=some (assign (.Name (nm F.L i) (t.c 0).p) F.env)) (Q:=λ_ s''=>aC F g ρ s (ed F.B) (Is .nx ⟨eA σ.env i (.d (dD z.1 z.2.1)),z.2.2⟩) .next s'') (pos:=(mM it F.L ((t.c 1).c 2)).pos) w gd x R S H I M U (λD c f s' h=>pY w.lay (by rw[B];exact u.2) h)) (λ_ s' O=>wpAny_pure (wpAny_pure O)) λ_ _ e=>e)
 |_=>exact en (Bool.and_eq_true_iff.mp j).2
end
end Mine
end
noncomputable section
open PySem PySem.Calls PySem.Spec PySem.W PyProof.Rows Builtin.Str
namespace Mine
section
variable{F F':Fx}{gs:List Str}{T:List FD}{n kk:Nat}{g g' g₀ g₁:G}{ρ ρ' ρ₀ ρ₁:List Addr}{s s' s₀ s₁ s₂:Shared}{σ σ':bo}{A:Around}{mg mb:Str->Option Value}{fp:List Addr}
noncomputable def HK(B:Bs)(g:G)(ρ:List Addr)(b:List V×List V)(a:List (Value×Value)):Prop:=aM B g ρ b.1 (a.map (·.1))/\aM B g ρ b.2 (a.map (·.2))
theorem ve(H:cY F gs T n){tk l:PT}{pos:Pos}(m:Ok n A):∀(ks vs:List X)(j:Nat){g:G}{ρ:List Addr}{s:Shared}{σ:bo}{r:List V×List V×List aA},gX T gs ks F.L tk j=true->gX T gs vs F.L l j=true->aF F g ρ s σ->
  DI (ev T n σ.env) ks vs σ.st=some r->wpAny (model F.B.prog F.B.w) A (evalPairs (pairTrees (tw ks F.L tk j) (cn vs F.L l j) F.env pos)) (aC F g ρ s (HK F.B) (Is (r.1,r.2.1) ⟨σ.env,r.2.2⟩)) E0 s:=by
 intro ks;induction ks with
 |nil=>
  intro vs j g ρ s σ r c d I h;induction vs using List.casesOn with
  |nil=>obtain rfl:=Option.some.inj h;exact pairTrees_nil_walk (aC.is I ⟨.nil,.nil⟩)
  |cons _ _=>exact aN h
 |cons k ks u=>
  intro vs j g ρ s σ r c d I h;induction vs using List.casesOn with
  |nil=>exact aN h
  |cons v vs=>refine bO h λa w h=>bO h λb x h=>bO h λq y h=>?_;obtain rfl:=Option.some.inj h;replace c:=Bool.and_eq_true_iff.mp c;replace d:=Bool.and_eq_true_iff.mp d;refine pairTrees_cons_walk (wpAny_mono (H A g ρ s σ k _ a c.1 m I w) (λkv s1 f=>?_) λ_ _ e=>e);refine aC.elim f λz i B C D=>wpAny_mono (H A z i s1 ⟨σ.env,a.2⟩ v _ b d.1 m C x) (λM s2 f=>?_) λ_ _ e=>e;refine aC.elim f λN E o J K=>wpAny_mono (u vs (j+1) (σ:=⟨σ.env,b.2⟩) c.2 d.2 J y) (λO P f=>B.more (o.more (f.toI λQ L p R t=>?_))) λ_ _ e=>e;exact⟨(a.1::q.1,b.1::q.2.1),⟨.cons (p.rv (o.rv D)) t.1,.cons (p.rv K) t.2⟩,rfl,rfl⟩
theorem sM:∀{ks:List Str}{k:Str},ks.Nodup->(cg ks k).Nodup:=by
 intro ks k h;unfold cg;split
 ·exact h
 ·rename_i hk
  rw[List.nodup_append];refine⟨h,by simp,λa c b d q=>?_⟩;cases List.mem_singleton.mp d;subst q;exact hk (by simpa using c)
theorem aD.vCons{prog:Program}{w:World}{P:List PyData->Prop}{v:Value}{vs:List Value}{ds:List PyData}(r:aD prog w g (v::vs) ds)(k:∀d ds,Rd prog w g v d->aD prog w g vs ds->P (d::ds)):P ds:=by cases r with|cons a b=>exact k _ _ a b
theorem aD.vNil{prog:Program}{w:World}{P:List PyData->Prop}{ds:List PyData}(r:aD prog w g [] ds)(k:P []):P ds:=by cases r;exact k
inductive DA(B:Bs)(g:G)(kv:List (Value×Value))(z:List (Str×Value))(d:PyData):Prop
 |mk (kvs:List (Str×Value)) (hc:Carries (strKind B.prog B.w) kv kvs) (ks:List Str) (vs:List Value) (ds:List PyData) (h1:merged z kvs=ks.zip vs) (h2:ks.length=vs.length) (h3:aD B.prog B.w g vs ds) (h4:d=dD ks ds)
theorem pU{B:Bs}{d:PyData}(kv:List (Value×Value)):∀{b a:List PyData}{ks:List Str}{vs:List Value}{ds:List PyData},aD B.prog B.w g (kv.map (·.1)) b->aD B.prog B.w g (kv.map (·.2)) a->ks.length=vs.length->ks.Nodup->aD B.prog B.w g vs ds->lq b a ks ds=some d->DA B g kv (ks.zip vs) d:=by
 induction kv with
 |nil=>intro b a ks vs ds c e hl f i;exact aD.vNil (P:=λb=>lq b a ks ds=some d->DA B g [] (ks.zip vs) d) c (aD.vNil (P:=λa=>lq [] a ks ds=some d->DA B g [] (ks.zip vs) d) e λh=>⟨[],trivial,ks,vs,ds,rfl,hl,i,(Option.some.inj h).symm⟩)
 |cons p kv o=>
  intro b a ks vs ds c e hl f i;refine aD.vCons (P:=λb=>lq b a ks ds=some d->DA B g (p::kv) (ks.zip vs) d) c λk b q c=>aD.vCons (P:=λa=>lq (k::b) a ks ds=some d->DA B g (p::kv) (ks.zip vs) d) e λx a r e=>?_;induction k using PyData.casesOn with
  |str k=>
   intro h;induction(o (vs:=cA ks vs k p.2) c e (fX ks vs k p.2 hl).symm (sM f) (n9 r ks vs ds k hl i) h)using DA.casesOn with
   |mk kvs hc j l m t u v w=>refine⟨(k,p.2)::kvs,⟨jO q,rfl,hc⟩,j,l,m,?_,u,v,w⟩;refine aB (Eq.symm (t)) (aB (Eq.symm (ir ks vs k p.2 hl f)) ?_);rfl
  |_=>exact λh=>aN h
theorem rh{L:List bl}{t:PT}:∀(ks:List X)(j:Nat),(tw ks L t j).length=ks.length/\(tw ks L t j).all (·.isSome)=true
 |[],j=>⟨rfl,rfl⟩
 |k::ks,j=>by rw[Dw];exact aG λa=>cx (rh (L:=L) (t:=t) ks (j+1)) λb c=>a ⟨by rw[List.length_cons,b,List.length_cons],by rw[List.all_cons,c];rfl⟩
theorem rW{t:PT}(gd:Gd0 F.B mg mb)(I:aF F g ρ s σ):wpAny (model F.B.prog F.B.w) A (eval (aV (.dct [] []) F.L t) F.env) (aC F g ρ s (Rv F.B) (Is (.d (.dict [])) σ)) E0 s:=by
 refine wpAny_Dict_empty ?_;have e:(s.heap.objs.size==sysModules)=false:=by refine aG λa=>cU (I.ns gd gd.mgP gd.mgN) λo _ _ i=>?_;obtain⟨c,_⟩:=i;refine a ?_;have h:=Heap.lt_size c;rw[beq_eq_false_iff_ne];intro q;rw[q]at h;exact absurd h (by decide)
 have b:(s.heap.push {cls:=.type "dict",data:=.dict #[]}).DictOf (strKind F.B.prog F.B.w) s.heap.objs.size (([]:List Str).zip ([]:List Value)):=Heap.DictOf.new s.heap;refine aG λa=>?_;obtain⟨o,c,j⟩:=Heap.dictOf_iff.mp b;refine a ?_;have f:(s.heap.push {cls:=.type "dict",data:=.dict #[]}).get? s.heap.objs.size=some {cls:=.type "dict",data:=.dict #[]}:=Heap.get?_push_size _ rfl;rw[f]at c;obtain rfl:=Option.some.inj c;exact C0 (d:=.dict []) I _ rfl s.toks (.dict (ks:=[]) (vs:=[]) (ds:=[]) (G.put_self ..) j rfl e .nil) ⟨rfl,rfl⟩
theorem u2(H:cY F gs T n){ks vs:List X}{t:PT}{r:List V×List V×List aA}{J K:List PyData}{d:PyData}(gd:Gd0 F.B mg mb)(Y:Ok n A)(c:bG T gs (.dct ks vs) F.L t=true)(I:aF F g ρ s σ)(hc:ks≠[]/\ks.length<=15/\ks.length=vs.length)(Z:DI (ev T n σ.env) ks vs σ.st=some r)(l:gM r.1=some J)(h3:gM r.2.1=some K)(h4:lq J K [] []=some d):
  wpAny (model F.B.prog F.B.w) A (eval (aV (.dct ks vs) F.L t) F.env) (aC F g ρ s (Rv F.B) (Is (.d d) ⟨σ.env,r.2.2⟩)) E0 s:=by
 change(_&&_)=true at c;simp only[Bool.and_eq_true]at c;refine cx (rh (L:=F.L) (t:=t.c 0) ks 0) λm k2=>eY hc λc1 c2 c3=>?_;have p:(s.heap.objs.size==sysModules)=false:=by refine aG λa=>cU (I.ns gd gd.mgP gd.mgN) λo _ _ h_=>cx h_ λu _=>a ?_;have l:=Heap.lt_size u;rw[beq_eq_false_iff_ne];intro q;rw[q]at l;exact absurd l (by decide)
 have M:=I.push {cls:=.type "dict",data:=.dict #[]} s.toks;have S1:bw F g ρ s g ρ {s with heap:=s.heap.push {cls:=.type "dict",data:=.dict #[]}}:=bw.refl.out (W:=[]) (λ_ h=>nomatch h) (St.push s {cls:=.type "dict",data:=.dict #[]} s.toks);have f:s.heap.get? s.heap.objs.size=none:=aU _;have v:(s.heap.push {cls:=.type "dict",data:=.dict #[]}).get? s.heap.objs.size=some {cls:=.type "dict",data:=.dict #[]}:=Heap.get?_push_size _ rfl;have N:dZ F g ρ {s with heap:=s.heap.push {cls:=.type "dict",data:=.dict #[]}} s.heap.objs.size:=dZ.new I f (by show(s.heap.push _).get? _≠none;rw[v];exact λq=>nomatch q);have i:(s.heap.push {cls:=.type "dict",data:=.dict #[]}).DictOf (strKind F.B.prog F.B.w) s.heap.objs.size ([]:List (Str×Value)):=Heap.DictOf.new s.heap;refine wpAny_Dict_walk (knd:=strKind F.B.prog F.B.w) k2 (by rw[m,gl];exact c3) (λq=>c1 (List.length_eq_zero_iff.mp (by rw[<-m,q];rfl))) (by rw[m];exact c2) (wpAny_mono (ve H Y ks vs 0 c.1 c.2 M Z) (λkv s2 hp=>?_) λ_ _ e=>e);refine aC.elim hp λO aa w P Q=>?_;have S:=(N.step w).1;have k:=(N.step w).2;refine aG λa=>?_;obtain⟨kvs,j,x,z,ab,e1,e2,e3,rfl⟩:=pU (B:=F.B) (ks:=[]) (vs:=[]) _ (el Q.1 l) (el Q.2 h3) rfl (by simp) .nil h4;refine a ⟨kvs,j,i.at k,λh' C hs=>?_⟩;have D:merged [] kvs=x.zip z:=e1;simp only[D]at C;have y:St F.B [s.heap.objs.size] O O s2 {s2 with heap:=h',toks:=s2.toks+kv.length}:=St.ext _ (.head _) hs.extBut S.hi;refine cx (S.turn P y (u4 C)) λI3 U=>aG λa=>?_;obtain⟨o,u,hd⟩:=Heap.dictOf_iff.mp C;exact cx (U.take I3 u) λI4 y4=>a ((((S1.trans M w ⟨_,P⟩).out (W:=[s.heap.objs.size]) (λb E=>by cases List.mem_singleton.mp E;exact f) y).out (W:=[s.heap.objs.size]) (λb E=>by cases List.mem_singleton.mp E;exact f) y4).post (R:=Rv F.B) I4 (.d (.dict (G.put_self ..) hd e2 p (e3.mono (G.put_le U.g)))))
end
section
variable{F F':Fx}{gs:List Str}{T:List FD}{n kk:Nat}{g g' g₀ g₁:G}{ρ ρ' ρ₀ ρ₁:List Addr}{s s' s₀ s₁ s₂:Shared}{σ σ':bo}{A:Around}{mg mb:Str->Option Value}{fp:List Addr}
theorem AM(I:aF F g ρ s σ){a:Addr}{h':Heap}(f:a∈F.own)(m:a≠F.B.P0)(hs:Heap.ExtBut a s.heap h')(hl:h'.get? a≠none)(t:Nat){env':List V}(j:zj F g ρ h' env'):aF F g ρ {s with heap:=h',toks:=t} {σ with env:=env'}:=by
 have p:=I.so.gno a f;have r:∀b o,g b=some o->b≠a:=λb o e q=>by subst q;rw[p]at e;exact aN e
 have lv:∀b,s.heap.get? b≠none->h'.get? b≠none:=λb h=>by
  by_cases d:b=a
  ·exact d▸(hl)
  ·cases q:s.heap.get? b with
   |none=>exact absurd q h
   |some o=>rw[hs b o d q];exact λq=>(iu q)
 refine aG λk=>aK (I.tab) λmore u=>?_;obtain⟨v,l⟩:=u;refine k ?_;refine⟨⟨λb o e=>hs b o (r b o e) (I.so.sub b o e),I.so.base,I.so.gno,I.so.rno,I.so.rhi,I.so.ohi,I.so.lown,I.so.lhi,I.so.chi,I.so.cap,I.so.rn,λb d=>lv b (I.so.olt b d),λb d=>lv b (I.so.rlt b d),λx w=>lv _ (I.so.clt x w)⟩,
  (St.ext (B:=F.B) (W:=[a]) (g:=g) (s:=s) t (.head _) hs (((I.so.ohi a f).resolve_left m:F.B.h₀.get? a=none))).old I.old,I.bare,⟨more,hs _ _ (Ne.symm m) v,l⟩,j,I.stl,λi b c d hc=>?_⟩
 exact(I.st i b c d hc).mono (λ_ _ e=>e) id λo e=>hs b o ((λq=>I.so.rno a f (q▸List.mem_of_getElem? d):b≠a)) e
theorem Hk(I:aF F g ρ s σ){h':Heap}{m:Str->Option Value}(hs:Heap.ExtBut F.env.locals s.heap h')(e:h'.Ns F.env.locals m)(f:∀(i:Nat)(x:Str)(b:Bool)(v:V),F.L[i]?=some (bl.mk x .local b)->σ.env[i]?=some v->dK F.B g ρ v (m x))(t:Nat):aF F g ρ {s with heap:=h',toks:=t} σ:=by have h:F.env.locals≠F.B.P0:=λq=>F.B.hP0 (q▸I.so.lhi);refine AM I (env':=σ.env) I.so.lown h hs (gf e) t ⟨I.fr.len,⟨m,e,f⟩,λi x b v j k=>?_⟩;exact aG λa=>bd (I.fr.cel i x b v j k) λc l d=>ko d λe1 p r u=>aK p λo d=>cx d λw y=>a (j7 c l ⟨e1,⟨o,hs c o (I.so.chi _ (mem_of_lookup e1)).2.1 w,y⟩,r,u⟩)
theorem AR{prog:Program}{w:World}{vs:List Value}{xs:List PyData}(r:aD prog w g vs xs):∀i:Nat,Rd prog w g (vs.getD i .none) (xs.getD i .none):=by
 induction r using aD.ind with
 |nil=>exact λi=>.none
 |cons a b c=>
  intro i;induction i using Nat.casesOn with
  |zero=>exact a
  |succ i=>exact c i
theorem AT{prog:Program}{w:World}{vs:List Value}{xs:List PyData}(r:aD prog w g vs xs):∀is:List Nat,aD prog w g (is.map λi=>vs.getD i .none) (is.map λi=>xs.getD i .none):=by
 intro a;induction a with
 |nil=>exact .nil
 |cons i is b=>exact .cons (AR r i) (b)
theorem uw{prog:Program}{w:World}:∀{vs:List Value}{ns:List Int},IntsAre vs ns->aD prog w g vs (ns.map .int)
 |_,_,.nil=>.nil
 |_,_,.cons n t h=>.cons (.int n t) (uw h)
noncomputable def jp(h:Heap)(L:Addr):List (Addr×Obj):=(List.range h.objs.size).filterMap λb=>if b=L then none else(h.get? b).map λo=>(b,o)
theorem bJ{h:Heap}{L b:Addr}{o:Obj}:(b,o)∈jp h L↔b≠L/\h.get? b=some o:=by
 unfold jp;rw[List.mem_filterMap];constructor
 ·rintro⟨c,hc,e⟩;split at e
  ·exact aN e
  ·rename_i hn
   refine aG λa=>?_;obtain⟨j,f,e⟩:=Option.map_eq_some_iff.mp e;refine a ?_;cases e;exact⟨hn,f⟩
 ·rintro⟨i,d⟩;exact⟨b,List.mem_range.mpr (Heap.lt_size d),by rw[if_neg i,d];rfl⟩
theorem uj{e:Type}{prog:Program}{w:World}{l:SortKind}{vs:List Value}{n:Nat}{d:Nat->Nat->Bool}{a:e}{Q:e->Shared->Prop}:∀{t:KasT e},qY n d t=some a->(∀i j,i<n->j<n->∀C:Bool->Shared->Prop,C (d i j) s->kas_ask prog w A l vs i j C s)->Q a s->
  t.kasWp (kas_ask prog w A l vs) Q s
 |.ret b,h,_,f=>(Option.some.inj h)▸f
 |.ask i j k,h,m,f=>by
  replace h:(if i<n/\j<n then qY n d (k (d i j))else none)=some a:=h;by_cases c:i<n/\j<n
  ·rw[if_pos c]at h;exact m i j c.1 c.2 _ (uj h m f)
  ·rw[if_neg c]at h;exact aN h
theorem x3{prog:Program}{w:World}{b:Bool}{Q:Bool->Shared->Prop}:∀(xs ys:List Int){vs d:List Value}(i:Nat),aD prog w g vs (xs.map .int)->aD prog w g d (ys.map .int)->xs.length=ys.length->Q (Bb xs ys) s->KatLex prog w A b false Q (vs.zip d) i s:=by
 intro xs;induction xs with
 |nil=>
  intro ys vs d i a c hl h;induction ys using List.casesOn with
  |nil=>exact a.eNil (c.eNil h)
  |cons _ _=>exact nomatch hl
 |cons x xs j=>
  intro ys vs d i a c hl h;induction ys using List.casesOn with
  |nil=>exact nomatch hl
  |cons y ys=>
   refine aD.eCons a λv vs a k=>aD.eCons c λu m c l=>a.eInt λ_=>?_;refine c.eInt λ_=>?_;refine kat_cons (wpAny_eqBool_int ?_);replace h:Q (if x=y then Bb xs ys else decide (x<y)) _:=h;by_cases e:x=y
   ·refine aG λf=>?_;rw[if_pos e]at h;refine f (aB (show(x==y)=true by rw[beq_iff_eq];exact e) ?_);exact kat_yes (j ys (i+1) k l (Nat.succ.inj hl) h)
   ·rw[if_neg e]at h;refine aB (show(x==y)=false by rw[beq_eq_false_iff_ne];exact e) (kat_no ?_);induction q:(b&&i==0)using Bool.casesOn with
    |true=>exact oneLt_int h
    |false=>exact kat_one _ _ (P.lt_int h)
theorem qX{B:Bs}:∀{xs:List PyData}{vs:List Value}{c:List (List Int)},aD B.prog B.w g vs xs->yE xs=some c->vs.length=c.length/\∀(i:Nat)(r:List Int),c[i]?=some r->∃(a:Addr)(e:Array Value)(m:Nat),vs[i]?=some (Value.ref a)/\g a=some {cls:=.type "tuple",data:=.seq e m}/\aD B.prog B.w g e.toList (r.map .int)
 :=λ{xs vs c}t=>by
 induction t using aD.ind generalizing c with
 |nil=>exact λh=>Option.some.inj h▸⟨rfl,λi r h=>(aN h)⟩
 |@cons _ x _ xs a w d=>
  intro h;refine bO h λy o h=>bM h λys p h=>?_;subst h;have f:=(d p).2;refine⟨congrArg (·+1) ((d p).1),λi r j=>?_⟩;induction i using Nat.casesOn with
  |succ i=>exact f i r j
  |zero=>
   simp only[List.getElem?_cons_zero,Option.some.injEq]at j⊢;subst j;induction x using PyData.casesOn with
   |tuple zs=>
    cases a with
    |@tuple b e m _ u c=>
     have l:eq zs=some y:=o;refine vf b e m ⟨rfl,u,?_⟩;have key:∀{zs:List PyData}{y:List Int},eq zs=some y->zs=y.map .int:=by
      intro zs;induction zs with
      |nil=>intro y h;obtain rfl:=Option.some.inj h;rfl
      |cons z zs f=>
       intro y h;induction z using PyData.casesOn with
       |int k=>obtain⟨q,v,rfl⟩:=Option.map_eq_some_iff.mp h;exact aB (List.map_cons) (aB (Eq.symm (f v)) rfl)
       |_=>rw[eq]at h;exact aN h;all_goals(intros;contradiction)
     exact aB (Eq.symm (key l)) c
   |_=>exact aN o
theorem kw{b:Type}{l:List b}{i:Nat}{a d:b}(h:l[i]?=some a):l.getD i d=a:=by refine aB (List.getD_eq_getElem?_getD) ?_;refine aB h ?_;rfl
theorem lP{h:Heap}{xs:List Int}:∀{vs:List Value}{d:List (List Int)},vs.length=d.length->(∀(i:Nat)(r:List Int),d[i]?=some r->∃(a:Addr)(e:Array Value)(m:Nat),vs[i]?=some (Value.ref a)/\h.get? a=some {cls:=.type "tuple",data:=.seq e m}/\∃x t b,e.toList=.int x t::b)->∃fs,KatTups h vs fs/\fs.length=vs.length/\∀f∈fs,∃x t,f=Value.int x t
 |[],[],_,_=>⟨[],trivial,rfl,λ_ c=>nomatch c⟩
 |[],_::_,hl,_=>by cases hl
 |_::_,[],hl,_=>by cases hl
 |v::vs,r::d,hl,k=>by
  refine aG λj=>?_;obtain⟨fs,l,o,p⟩:=lP (h:=h) (xs:=xs) (Nat.succ.inj hl) λi r' q=>k (i+1) r' q;refine cU (k 0 r rfl) λa e m u=>?_;obtain⟨e1,w,x,t,b,y⟩:=u;refine j ?_;simp only[List.getElem?_cons_zero,Option.some.injEq]at e1;subst e1;refine⟨.int x t::fs,KatTups.cons w rfl rfl (by rw[<-Array.getElem?_toList,y];rfl) l,congrArg (·+1) o,λf c=>?_⟩;rcases List.mem_cons.mp c with rfl|c
  ·exact j7 x t (rfl)
  ·exact p f c
theorem yh{h':Heap}{D:Addr}{ys:Array Value}{m:Nat}{ds:List PyData}(I:aF F g ρ s σ)(c:∀b o,s.heap.get? b=some o->h'.get? b=some o)(a:s.heap.get? D=none)(f:h'.get? D=some {cls:=.type "list",data:=.seq ys m})(r:aD F.B.prog F.B.w g ys.toList ds):
  aC F g ρ s (Rv F.B) (Is (.d (.list ds)) σ) (.ref D) {s with heap:=h'}:=by
 have j:aF F g ρ {s with heap:=h'} σ:=I.grow (St.kept' c rfl rfl) λb o e=>c b o (I.so.sub b o e);have i:dZ F g ρ {s with heap:=h'} D:=dZ.new I a (by show h'.get? _≠none;rw[f];exact λq=>nomatch q);have k:bw F g ρ s g ρ {s with heap:=h'}:=bw.refl.out (W:=[]) (λ_ h=>nomatch h) (St.kept' c rfl rfl);exact(k.out (W:=[D]) (λb l=>by cases List.mem_singleton.mp l;exact a) ((i.take j f).2)).post (R:=Rv F.B) ((i.take j f).1) (.d (.list (G.put_self ..) (r.mono (G.put_le i.g))))
theorem tC{p q:Int}{a:List Int}(b:a.Perm [p,q])(e:a.Pairwise (·<=·)):a=if q<p then[q,p]else[p,q]:=by
 match a,((b.length_eq:a.length=2)),b,e with
 |[c,d],_,b,e=>
  have f:c<=d:=by simpa using e
  have h:c∈[p,q]/\d∈[p,q]:=⟨b.mem_iff.mp (by simp),b.mem_iff.mp (by simp)⟩;have i:p∈[c,d]/\q∈[c,d]:=⟨b.mem_iff.mpr (by simp),b.mem_iff.mpr (by simp)⟩;simp only[List.mem_cons,List.not_mem_nil,or_false]at h i;split
  ·have:c=q/\d=p:=by lia
   exact aB (this.1) (aB (this.2) rfl)
  ·have:c=p/\d=q:=by lia
   exact aB (this.1) (aB (this.2) rfl)
theorem tp{p q:Int}{j:Value}(I:aF F g ρ s σ)(u:Rd F.B.prog F.B.w g j (.list [.int p,.int q])):
  wpAny (model F.B.prog F.B.w) A (call (.builtin "sorted") [j]) (aC F g ρ s (Rv F.B) (Is (.d (.list (if q<p then[.int q,.int p]else[.int p,.int q]))) σ)) E0 s:=by
 obtain⟨l,vs,m,hl,v⟩:=u.isL I.so.sub;have f:=by simpa using hl.isList
 refine aG λh=>cx (cH (B:=F.B) v (is:=[p,q]) rfl) λx c=>h (sorted_ints f x (by rw[c];show 2<64;decide) λa y z C D=>?_);obtain⟨e,k⟩:=sortedAll_at s.heap vs.toList a;have t:∀b o,s.heap.get? b=some o->(sortedAll s.heap vs.toList a).get? b=some o:=λb o e=>sortedAll_old e;have i:s.heap.get? (s.heap.objs.size+1)=none:=by
  cases q:s.heap.get? (s.heap.objs.size+1)with
  |none=>rfl
  |some o=>exact absurd (Heap.lt_size q) (Nat.not_lt.mpr (Nat.le_succ _))
 generalize sortedAll s.heap vs.toList a=H at k t⊢;have E:=tC C D;subst E;have r:=uw (g:=g) (prog:=F.B.prog) (w:=F.B.w) z;have J:(if q<p then[q,p]else[p,q]).map PyData.int=if q<p then[.int q,.int p]else[.int p,.int q]:=by split<;>rfl
 simp only[J]at r;exact yh I t i k r
theorem y7{c:Type}{l:List c}{p:c×c}(h:two l=some p):l=[p.1,p.2]:=by
 induction l using List.casesOn with
 |nil=>exact aN h
 |cons a l=>induction l using List.casesOn with
  |nil=>exact aN h
  |cons b l=>induction l using List.casesOn with
   |nil=>exact(Option.some.inj h)▸rfl
   |cons d l=>exact aN h
theorem wj{xs:List PyData}{p:Int×Int}(h:Dy xs=some p):xs=[.int p.1,.int p.2]:=by refine bO h λq e h=>bO h λx e1 h=>bM h λy a h=>aB (y7 e) (aB (oZ e1) ?_);exact aB (oZ a) (aB (Eq.symm (h)) rfl)
theorem o5{a:V}{va:Value}{v:V×List aA}(I:aF F g ρ s σ)(Z:Rv F.B g ρ a va)(h:fJ .sorted a σ.st=some v):wpAny (model F.B.prog F.B.w) A (call (.builtin "sorted") [va]) (aC F g ρ s (Rv F.B) (Is v.1 ⟨σ.env,v.2⟩)) E0 s:=by
 obtain⟨xs,rfl,h'⟩:∃xs,a=.d (.list xs)/\q4 xs σ.st=some v:=by
  induction a using V.casesOn with
  |d x=>induction x using PyData.casesOn with
   |list xs=>exact⟨xs,rfl,h⟩
   |_=>exact aN h
  |_=>exact aN h
 replace h:=h';cases Z with|d Z=>
 obtain⟨l,vs,m,hl,rs⟩:=Z.isL I.so.sub;unfold q4 at h;cases q0:Dy xs with
 |some p=>rw[q0]at h;exact(Option.some.inj h)▸(tp I (wj q0▸Z))
 |none=>
  rw[q0]at h
  dsimp only at h
  split at h
  ·rename_i h2
   rw[Option.bind_eq_some_iff]at h;obtain⟨rr,h3,h⟩:=h;split at h
   ·rename_i h4
    refine aK (Option.map_eq_some_iff.mp h) λis L=>?_;obtain⟨h5,rfl⟩:=L;obtain⟨pa,h6,rfl⟩:=Option.map_eq_some_iff.mp h5;have P:=(qX (B:=F.B) rs h3).1;have E:=(qX (B:=F.B) rs h3).2;have k:=rs.length;refine aG λf=>aK (I.fr.loc) λmm L=>?_;obtain⟨aa,ab⟩:=L;refine f ?_;have ac:Fr {objs:=#[]} F.env.locals s.heap mm:=⟨aa,λb o e=>by
     have:=Heap.lt_size e;exact absurd this (Nat.not_lt_zero _),Nat.zero_le _⟩
    have Q:∀b,({objs:=#[]}:Heap).get? b=none:=λb=>by
     cases q:({objs:=#[]}:Heap).get? b with
     |none=>rfl
     |some o=>exact absurd (Heap.lt_size q) (Nat.not_lt_zero _)
    have N0:News {objs:=#[]} F.env.locals s.heap (jp s.heap F.env.locals):=λp hp=>⟨(bJ.mp hp).2,(bJ.mp hp).1,Q _⟩;refine kat_sorted ac N0 (by simpa using hl.isList) (by rw[k];exact h2.1) (by rw[k];exact h2.2) λD e1 h' F' N' hD=>?_;have S:=λb o U e=>(N' (b,o) (.tail _ (bJ.mpr ⟨U,e⟩))).1;have gk:∀b o,g b=some o->h'.get? b=some o:=λb o e=>S b o (λq=>by rw[q,I.so.gno _ I.so.lown]at e;exact aN e) (I.so.sub b o e);have H:∀r∈rr,r.length=3:=λr hr=>by simpa using List.all_eq_true.mp h4 r hr
    obtain⟨fs,t1,t2,t3⟩:=lP (h:=h') (xs:=[]) P λi r hi=>by
     refine aG λf=>cU (E i r hi) λa ws mw L=>?_;obtain⟨e1,e2,K⟩:=L;refine f (vf a ws mw ⟨e1,gk _ _ e2,?_⟩)
     match r,(H r (List.mem_of_getElem? hi)),K with
     |[x,y,z],_,K=>
      cases hw:ws.toList with
      |nil=>rw[hw]at K;cases K
      |cons w ae=>
       replace K:=hw▸K;refine aG λf=>?_;cases K with
       |cons a1 a2=>refine f ?_;refine a1.eInt λ_=>?_;exact⟨x,_,ae,rfl⟩
    refine kat_kind (T:=.type "int") t1 (by rw[t2,k];lia) (λv hv=>by obtain⟨x,t,rfl⟩:=t3 v hv;exact Looks.of_pure rfl) rfl (aB k ?_);refine uj h6 (λi j hi hj C hC=>?_) (KasFin.intro (e:=e1) F' N' (.head λq hq=>Nat.ne_of_lt (hD q hq)) λu c af X=>?_)
    ·have M:i<rr.length:=by rw[<-P,k];exact hi
     have N:j<rr.length:=by rw[<-P,k];exact hj
     refine aG λf=>cU (E i _ (List.getElem?_eq_getElem M)) λa ws mw L=>?_;refine eY L λe1 e2 K=>cU (E j _ (List.getElem?_eq_getElem N)) λb us mu L=>?_;refine eY L λf1 f2 f3=>f ?_;unfold kas_ask;refine aB (kw e1) (aB (kw f1) ?_);have z1:=K.length;have z2:=f3.length;simp only[Array.length_toList,List.length_map,H _ (List.getElem_mem M)]at z1;simp only[Array.length_toList,List.length_map,H _ (List.getElem_mem N)]at z2;refine kat_lt (gk _ _ e2) rfl (gk _ _ f2) rfl (aB z1 ?_);refine aB z2 (x3 _ _ 0 K f3 (by rw[H _ (List.getElem_mem M),H _ (List.getElem_mem N)]) ?_);rw[kw (List.getElem?_eq_getElem M),kw (List.getElem?_eq_getElem N)]at hC;exact hC
    ·have J:Heap.ExtBut F.env.locals s.heap u:=λb o U e=>(X (b,o) (.tail _ (bJ.mpr ⟨U,e⟩))).1;have O:=X (D,listOf (List.toArray (pa.toList.map λi=>vs.toList.getD i Value.none)) c) (.head _);have Y:s.heap.get? D=none:=by
      cases q:s.heap.get? D with
      |none=>rfl
      |some o=>exact absurd (hD (D,o) (bJ.mpr ⟨O.2.1,q⟩)) (Nat.lt_irrefl _)
     have I1:aF F g ρ {s with heap:=u} σ:=Hk I J af.ns ab s.toks;have O1:dZ F g ρ {s with heap:=u} D:=dZ.new I Y (by show u.get? D≠none;rw[O.1];exact λq=>nomatch q);have y2:=(O1.take I1 O.1).2;have y1:St F.B (F.own++ρ) g g s {s with heap:=u}:=St.ext s.toks (List.mem_append_left _ I.so.lown) J I.so.lhi;have S2:bw F g ρ s _ ρ {s with heap:=u}:=bw.out (W:=[D]) ⟨List.prefix_refl _,λ_ h=>.inl h,y1⟩ (λb U=>by cases List.mem_singleton.mp U;exact Y) y2;refine S2.post (R:=Rv F.B) ((O1.take I1 O.1).1) (.d (.list (G.put_self ..) ?_));exact AT (rs.mono (G.put_le O1.g)) pa.toList
   ·exact aN h
  ·exact aN h
end
noncomputable def E1(T:List FD)(fd:FD):Bool:=
 oY T fd.gs fd.body fd.L fd.t 0&&fd.scope.kind==.function&&!fd.scope.isGenerator&&!fd.scope.isCoroutine&&decide (fd.L.map bl.name).Nodup
 &&fd.L.all (λv=>v.mine&&v.name !=("__debug__":Str)&&(v.kind==.local||v.kind==.cell)&&fd.scope.names.lookup v.name==some v.kind)
 &&fd.gs.all (λn=>fd.scope.names.lookup n==some .globalImplicit)&&decide (fd.np<=fd.L.length)&&decide (fd.scope.names.map (·.1)).Nodup
structure uL(B:Bs)(fd:FD)(a:Addr)(o:Obj)(f:FuncData):Prop where
 ne:a≠B.P0
 obj:B.h₀.get? a=some o
 data:o.data=.func f
 code:∃c oc vs t,f.code=.ref c/\c≠B.P0/\B.h₀.get? c=some oc/\oc.data=.fields vs/\vs[1]?=some (.str f.qualname t)
 body:f.body=.stmts (mN fd.body fd.L fd.t 0)
 closure:f.closure=[]
 zipc:("zip":Str)∈fd.gs->f.code=.ref B.c0
 globals:f.globals=mainGlobals
 builtins:f.builtins=builtinsNs
 scope:f.scope={fd.scope with more:=f.scope.more}
 binds:∀vals:List Value,vals.length=fd.np->bindArgs f ⟨vals,[]⟩=pure (((fd.L.take fd.np).map bl.name).zip vals)
structure Gd(B:Bs)(T:List FD)(mg mb:Str->Option Value):Prop extends Gd0 B mg mb where
 nol:∃mc,B.h₀.Ns cStatics mc/\mc "sys.recursionlimit"=none
 csP:cStatics≠B.P0
 okf:∀fd∈T,E1 T fd=true
 named:∀fd∈T,fd.name≠("compare":Str)->∃a o f,uL B fd a o f/\mg fd.name=some (.ref a)/\(fd.name==("__debug__":Str))=false
section
variable{F F':Fx}{gs:List Str}{T:List FD}{n kk:Nat}{g g' g₀ g₁:G}{ρ ρ' ρ₀ ρ₁:List Addr}{s s' s₀ s₁ s₂:Shared}{σ σ':bo}{A:Around}{mg mb:Str->Option Value}{fp:List Addr}
theorem Cr(I:aF F g ρ' s σ)(p:ρ<+:ρ')(k:zj F g ρ s.heap σ.env):aF F g ρ s ⟨σ.env,σ.st.take ρ.length⟩:=by
 refine aG λe=>?_;obtain⟨f,rfl⟩:=p;refine e ?_;have hl:=I.stl;rw[List.length_append]at hl;refine⟨⟨I.so.sub,I.so.base,I.so.gno,λb a h=>I.so.rno b a (List.mem_append_left _ h),λb a=>I.so.rhi b (List.mem_append_left _ a),I.so.ohi,I.so.lown,I.so.lhi,λx d=>⟨(I.so.chi x d).1,(I.so.chi x d).2.1,(I.so.chi x d).2.2.1,λh=>(I.so.chi x d).2.2.2 (List.mem_append_left _ h)⟩,I.so.cap,(List.nodup_append.mp I.so.rn).1,I.so.olt,λb a=>I.so.rlt b (List.mem_append_left _ a),I.so.clt⟩,
  I.old,I.bare,I.tab,k,by rw[List.length_take];lia,λi b c a hc=>?_⟩
 have j:=(List.getElem?_eq_some_iff.mp a).1
 dsimp only at hc
 rw[List.getElem?_take_of_lt j]at hc;exact I.st i b c (by rw[List.getElem?_append_left j];exact a) hc
theorem jr{kindOf:Str->Option NameKind}:∀{names:List Str}{a:List Value}{m:Str->Option Value}{x:Str},names.Nodup->names.length=a.length->kindOf x=some .local->
  (x∉names->bindL kindOf (names.zip a) m x=m x)/\∀(i:Nat)(v:Value),names[i]?=some x->a[i]?=some v->bindL kindOf (names.zip a) m x=some v
 |[],[],m,x,_,_,_=>⟨λ_=>rfl,λi v h=>by simp at h⟩
 |n::names,u::a,m,x,d,hl,e=>by
  rw[List.nodup_cons]at d;refine cx (jr (kindOf:=kindOf) (m:=if kindOf n=some .local then λy=>if y=n then some u else m y else m) (x:=x) d.2 (Nat.succ.inj hl) e) λf k=>aB (List.zip_cons_cons) ⟨λj=>?_,λi v b c=>?_⟩
  ·simp only[bindL,f λh=>j (.tail _ h)];split
   ·exact if_neg (λ(q:x=n)=>j (q▸List.Mem.head _))
   ·rfl
  ·rw[bindL];induction i using Nat.casesOn with
   |zero=>simp only[List.getElem?_cons_zero,Option.some.injEq]at b c;subst b;subst c;refine Eq.trans (f d.1) ?_;rw[if_pos e,if_pos rfl]
   |succ i=>simp only[List.getElem?_cons_succ]at b c;exact k i v b c
 |[],_::_,_,_,_,hl,_=>by cases hl
 |_::_,[],_,_,_,hl,_=>by cases hl
theorem jq{kindOf:Str->Option NameKind}:∀{names:List Str}{a:List Value}{m:Str->Option Value}{x:Str},names.Nodup->names.length=a.length->kindOf x≠some .local->
  (x∉names->bindC kindOf (names.zip a) m x=m x)/\∀(i:Nat)(v:Value),names[i]?=some x->a[i]?=some v->bindC kindOf (names.zip a) m x=some v
 |[],[],m,x,_,_,_=>⟨λ_=>rfl,λi v h=>by simp at h⟩
 |n::names,u::a,m,x,d,hl,e=>by
  simp only[List.nodup_cons]at d;refine cx (jq (kindOf:=kindOf) (m:=if kindOf n=some .local then m else λy=>if y=n then some u else m y) (x:=x) d.2 (Nat.succ.inj hl) e) λf k=>aB (List.zip_cons_cons) ⟨λj=>?_,λi v b c=>?_⟩
  ·simp only[bindC,f λh=>j (.tail _ h)];split
   ·rfl
   ·exact if_neg (λ(q:x=n)=>j (q▸List.Mem.head _))
  ·rw[bindC];induction i using Nat.casesOn with
   |zero=>simp only[List.getElem?_cons_zero,Option.some.injEq]at b c;subst b;subst c;refine Eq.trans (f d.1) ?_;rw[if_neg e,if_pos rfl]
   |succ i=>simp only[List.getElem?_cons_succ]at b c;exact k i v b c
 |[],_::_,_,_,_,hl,_=>by cases hl
 |_::_,[],_,_,_,hl,_=>by cases hl
structure BO(T:List FD)(fd:FD):Prop where
 body:oY T fd.gs fd.body fd.L fd.t 0=true
 kind:fd.scope.kind=.function
 gen:fd.scope.isGenerator=false
 co:fd.scope.isCoroutine=false
 nd:(fd.L.map bl.name).Nodup
 L:∀v∈fd.L,v.mine=true/\(v.name==("__debug__":Str))=false/\(v.kind=.local\/v.kind=.cell)/\fd.scope.names.lookup v.name=some v.kind
 gs:∀n∈fd.gs,fd.scope.names.lookup n=some .globalImplicit
 np:fd.np<=fd.L.length
 nn:(fd.scope.names.map (·.1)).Nodup
theorem t4{fd:FD}(h:E1 T fd=true):BO T fd:=by unfold E1 at h;simp only[Bool.and_eq_true,beq_iff_eq,decide_eq_true_eq,List.all_eq_true,Bool.not_eq_true',Bool.or_eq_true]at h;refine aG λe=>?_;obtain⟨⟨⟨⟨⟨⟨⟨⟨f,i⟩,j⟩,k⟩,l⟩,m⟩,o⟩,p⟩,q⟩:=h;refine e ⟨f,i,j,k,l,λv r=>?_,o,p,q⟩;refine aG λe=>?_;obtain⟨⟨⟨a,b⟩,c⟩,d⟩:=m v r;exact e ⟨a,by simpa using b,c,d⟩
theorem fT:∀{names:List (Str×NameKind)}{n:Nat}{x:Str}{c c':Addr},(names.map (·.1)).Nodup->(x,c)∈cellsFrom n names []->(x,c')∈cellsFrom n names []->c=c':=by
 intro d;induction d with
 |nil=>exact@λ_ _ _ _ _ h _=>(List.not_mem_nil h).elim
 |cons f r a=>
  obtain⟨m,k⟩:=f;intro n x c c' b h h';simp only[List.map_cons,List.nodup_cons]at b;rw[cellsFrom]at h h';split at h
  ·rename_i hk
   replace h':=(if_pos hk)▸h';rw[bK]at h h';have e:∀c,(m,c)∉cellsFrom (n+1) r []:=λc hc=>by
    rcases hG hc with h|h
    ·exact(List.not_mem_nil h).elim
    ·exact b.1 (List.mem_map.mpr ⟨_,h,rfl⟩)
   rcases List.mem_append.mp h with h|h<;>rcases List.mem_append.mp h' with h'|h'
   ·exact a b.2 h h'
   ·cases List.mem_singleton.mp h';exact absurd h (e _)
   ·cases List.mem_singleton.mp h;exact absurd h' (e _)
   ·cases List.mem_singleton.mp h;cases List.mem_singleton.mp h';rfl
  ·rename_i hk
   rw[if_neg hk]at h';exact a b.2 h h'
noncomputable def c5(F:Fx)(fd:FD)(f:FuncData)(L a:Addr):Fx:=⟨F.B,fd.L,callEnvC f L a,F.B.P0::L::(cellsFrom (L+1) f.scope.names []).map (·.2)⟩
theorem gF{B:Bs}{xs:List V}{vs:List Value}(r:aM B g ρ xs vs):∀(i:Nat)(x:V),xs[i]?=some x->∃v,vs[i]?=some v/\Rv B g ρ x v:=by
 induction r using aM.ind with
 |nil=>exact λi x h=>(aN h)
 |cons a b c=>
  intro i x h;induction i using Nat.casesOn with
  |zero=>exact⟨_,rfl,Option.some.inj h▸a⟩
  |succ i=>exact c i x h
theorem sB{fd:FD}{a:Addr}{o:Obj}{f:FuncData}{vs:List V}{E:List Value}{r:Fl×List V×List aA}{q:PyData×List aA}(wP:F.B.P0∈F.own)(gd:Gd F.B T mg mb)(t:uL F.B fd a o f)(u:BO T fd)(ok:Ok (n+1) A)(HS:∀(F':Fx)(Z:List Str),F'.B=F.B->Wf F' Z->nL F' Z T n)(I:aF F g ρ s σ)(rs:aM F.B g ρ vs E)(hl:vs.length=fd.np)(w:exs T n (vs++List.replicate (fd.L.length -fd.np) .unb) fd.body σ.st=some r)(j:(match r.1 with
   |.ret v=>(fz v r.2.2).map λq=>(q.1,q.2.take σ.st.length)
   |.nx=>some (.none,r.2.2.take σ.st.length)
   |.brk=>none)=some q):
  wpAny (model F.B.prog F.B.w) A (call (.ref a) E) (aC F g ρ s (Rv F.B) (Is (.d q.1) ⟨σ.env,q.2⟩)) E0 s:=by
 refine aG λl=>c8 (t.code) λc oc ai ct D=>wl D λe1 e2 e3 e4 e5=>l ?_;have aa:=rs.length;have U:s.heap.NoLimit:=by obtain⟨mc,w,j⟩:=gd.nol;exact⟨mc,I.ns gd.toGd0 gd.csP w,j⟩
 have ab:s.heap.get? s.heap.objs.size=none:=aU _;have H:∀v∈fd.L,f.scope.names.lookup v.name=some v.kind:=λv N=>by rw[t.scope];exact(u.L v N).2.2.2
 have ac:((fd.L.take fd.np).map bl.name).length=E.length:=by simp only[List.length_map,List.length_take,<-aa,hl];have:=u.np;lia
 have ae:((fd.L.take fd.np).map bl.name).Nodup:=by exact aB (List.map_take) ((List.take_sublist _ _).nodup u.nd)
 have B:∀v∈fd.L.take fd.np,v∈fd.L:=λv N=>List.mem_of_mem_take N;refine wpAny_call (codeAny_call_cells (binds:=((fd.L.take fd.np).map bl.name).zip E) (by have:=ok.depth;lia) (I.stands gd.toGd0 t.ne t.obj) t.data U ((⟨c,oc,ai,ct,e1,I.stands gd.toGd0 e2 e3,e4,e5⟩:s.heap.CodeRec f.code f.qualname)) t.body (t.binds E (by rw[<-aa,hl])) t.closure (λx hx=>?_) (λs1 x=>?_) (by rw[t.scope];exact u.co) (by rw[t.scope];exact u.gen) (by rw[t.scope];exact u.kind))
 ·have aj:=(List.of_mem_zip (a:=x.1) (b:=x.2) hx).1;refine aG λl=>?_;obtain⟨v,N,e⟩:=List.mem_map.mp aj;refine l (aB (Eq.symm (e)) ?_);refine aB (H v (B v N)) (Or.elim ((u.L v (B v N)).2.2.1) (λh=>?_) λh=>?_)
  ·exact .inl (by rw[h])
  ·refine .inr ⟨by rw[h],?_⟩;have:=H v (B v N);rw[h]at this;obtain⟨c,hc⟩:=bN (n:=s.heap.objs.size+1) (mem_of_lookup this);refine aB hc ?_;rfl
 ·have J:=x.toInCall.keep;refine bd (x.toInCall.same) λhh tk ak=>?_;have W:∀{y:Str}{c:Addr},(y,c)∈cellsFrom (s.heap.objs.size+1) f.scope.names []->s.heap.get? c=none/\c≠s.heap.objs.size:=λM=>by
   have j:=x.above _ _ M;refine⟨?_,λq=>by rw[q]at j;exact Nat.lt_irrefl _ j⟩;cases q:s.heap.get? _ with
   |none=>rfl
   |some o=>exact absurd (Heap.lt_size q) (Nat.not_lt.mpr (Nat.le_of_lt j))
  have p:∀b∈(c5 F fd f s.heap.objs.size a).own,s.heap.get? b=none\/b=F.B.P0:=λb K=>by
   rcases List.mem_cons.mp K with rfl|K
   ·exact .inr rfl
   ·rcases List.mem_cons.mp K with rfl|K
    ·exact .inl ab
    ·refine aK (List.mem_map.mp K) λaf D=>?_;obtain⟨M,rfl⟩:=D;exact .inl (W M).1
  have al:Wf (c5 F fd f s.heap.objs.size a) fd.gs:=by
   refine⟨⟨?_,λi v O=>⟨H v (List.mem_of_getElem? O),(u.L v (List.mem_of_getElem? O)).2.1⟩,λi v O=>(u.L v (List.mem_of_getElem? O)).2.2.1,u.nd,λi v O _=>(u.L v (List.mem_of_getElem? O)).1⟩,t.globals,t.builtins,λm M=>?_,.head _,t.zipc⟩
   ·show f.scope.kind=_;exact aB (t.scope) u.kind
   ·show f.scope.names.lookup m=_;exact aB (t.scope) (u.gs m M)
  have st:St F.B [] g g s s1:=by subst ak;exact St.kept' J rfl rfl
  have ag:=x.toInCall.ns;have P:∀(i:Nat)(y:Str)(k:NameKind)(b:Bool),fd.L[i]?=some (bl.mk y k b)->i<fd.np->((fd.L.take fd.np).map bl.name)[i]?=some y:=λi y k b O C=>by refine aB (List.getElem?_map) ?_;refine aB (List.getElem?_take_of_lt C) ?_;refine aB O ?_;rfl
  have I1:aF (c5 F fd f s.heap.objs.size a) g ρ s1 ⟨vs++List.replicate (fd.L.length -fd.np) .unb,σ.st⟩:=by
   refine I.frame (F':=c5 F fd f s.heap.objs.size a) rfl wP p st (.tail _ (.head _)) ab (λb K=>?_) (λy hy=>?_) x.apart ⟨?_,⟨_,ag,?_⟩,?_⟩
   ·rcases List.mem_cons.mp K with rfl|K
    ·have:=I.so.olt _ wP;cases q:s.heap.get? F.B.P0 with
     |none=>exact absurd q this
     |some o=>rw[J _ _ q];exact λq=>nomatch q
    ·rcases List.mem_cons.mp K with rfl|K
     ·exact gf ag
     ·refine aK (List.mem_map.mp K) λaf D=>?_;obtain⟨y,c⟩:=af;obtain⟨M,rfl⟩:=D;exact fc (x.cell y c (dX M λc' am=>fT (by rw[t.scope];exact u.nn) am M))
   ·obtain⟨y,c⟩:=y;exact .inl ⟨.tail _ (.tail _ (List.mem_map.mpr ⟨_,hy,rfl⟩)),(W hy).1,(W hy).2⟩
   ·show(vs++List.replicate (fd.L.length -fd.np) V.unb).length=fd.L.length;refine aB (List.length_append) (aB (List.length_replicate) ?_);refine aB hl ?_;have:=u.np;lia
   ·intro i y b v w j;refine Or.elim (Nat.lt_or_ge i fd.np) (λC=>?_) λX=>?_
    ·rw[List.getElem?_append_left (by rw[hl];exact C)]at j;refine aG λl=>?_;obtain⟨rv,Y,rr⟩:=gF rs i v j;refine l (aB ((jr (kindOf:=(callEnvC f s.heap.objs.size a).kindOf) (m:=λ_=>none) ae ac (H _ (List.mem_of_getElem? w))).2 i rv (P i y .local b w C) Y) ?_);exact dK.of rr
    ·rw[List.getElem?_append_right (by rw[hl];exact X),List.getElem?_replicate]at j;split at j
     ·obtain rfl:=Option.some.inj j;trivial
     ·exact aN j
   ·intro i y b v w j;have hk:=H _ (List.mem_of_getElem? w)
    dsimp only at hk
    refine aK (bN (n:=s.heap.objs.size+1) (mem_of_lookup hk)) λc hc=>j7 c _ ⟨hc,x.cell y c hc,?_,λ_=>.tail _ (.tail _ (List.mem_map.mpr ⟨_,mem_of_lookup hc,rfl⟩))⟩;have U:(callEnvC f s.heap.objs.size a).kindOf y≠some .local:=by have:(callEnvC f s.heap.objs.size a).kindOf y=some .cell:=hk;refine aB this ?_;decide
    rcases Nat.lt_or_ge i fd.np with C|X
    ·rw[List.getElem?_append_left (by rw[hl];exact C)]at j;refine aG λl=>?_;obtain⟨rv,Y,rr⟩:=gF rs i v j;refine l (aB ((jq (kindOf:=(callEnvC f s.heap.objs.size a).kindOf) (m:=λ_=>none) ae ac U).2 i rv (P i y .cell b w C) Y) ?_);exact dK.of rr
    ·rw[List.getElem?_append_right (by rw[hl];exact X),List.getElem?_replicate]at j;split at j
     ·obtain rfl:=Option.some.inj j;trivial
     ·exact aN j
  refine wpAny_mono (HS (c5 F fd f s.heap.objs.size a) fd.gs rfl al _ g ρ s1 ⟨_,σ.st⟩ fd.body fd.t 0 r u.body ((⟨ok.handled,by have:=ok.depth;show A.depth+1+n+1<_;lia,by have:=ok.units;rw[Around.deeper_units];lia⟩:Ok n (A.deeper (callEnvC f s.heap.objs.size a)))) I1 w) (λfl s2 hp=>?_) λ_ _ e=>e.elim;refine aC.elim hp λg2 L S2 I2 r2=>?_;have S1:bw (c5 F fd f s.heap.objs.size a) g ρ s g2 L s2:=by have z:bw (c5 F fd f s.heap.objs.size a) g ρ s g ρ s1:=⟨List.prefix_refl _,λ_ h=>.inl h,st.mono λ_ h=>nomatch h⟩;exact z.trans I1 S2 ⟨_,I2⟩
  have Ib:aF F g2 L s2 ⟨σ.env,r.2.2⟩:=I.reframe (F':=c5 F fd f s.heap.objs.size a) rfl p S1 I2;have Sb:bw F g ρ s g2 L s2:=bw.reframe (F':=c5 F fd f s.heap.objs.size a) rfl wP p S1;have fin:∀(Q:G)(st:List aA)(v:Value)(d:PyData),bw F g ρ s Q L s2->aF F Q L s2 ⟨σ.env,st⟩->Rd F.B.prog F.B.w Q v d->aC F g ρ s (Rv F.B) (Is (.d d) ⟨σ.env,st.take σ.st.length⟩) v s2:=λQ st v d S I3 rd=>by
   have kp:∀b o,b≠F.B.P0->b∉ρ->s.heap.get? b=some o->s2.heap.get? b=some o:=λb o w j e=>S1.st.kept b o (λM=>by
    rcases List.mem_append.mp M with h|h
    ·refine Or.elim (p b h) (λh=>?_) λh=>?_
     ·rw[h]at e;exact aN e
     ·exact w h
    ·exact j h) e
   have ne:∀b,F.B.h₀.get? b=none->b≠F.B.P0:=λb h q=>F.B.hP0 (q▸h);have fr:zj F Q ρ s2.heap σ.env:=by
    refine⟨I.fr.len,?_,?_⟩
    ·obtain⟨m,hn,N⟩:=I.fr.loc;exact⟨m,dF hn λo e=>kp _ o (ne _ I.so.lhi) (I.so.rno _ I.so.lown) e,λi x b v w j=>(N i x b v w j).mono S.st.le (List.prefix_refl _)⟩
    ·intro i x b v w j;refine aG λl=>bd (I.fr.cel i x b v w j) λc ov D=>ko D λe1 e2 e3 e4=>aK e2 λo D=>?_;obtain⟨ho,hd⟩:=D;refine l ?_;have hc:=mem_of_lookup e1;exact j7 c ov ⟨e1,⟨o,kp _ o (ne _ (I.so.chi _ hc).1) (I.so.chi _ hc).2.2.2 ho,hd⟩,e3.mono S.st.le (List.prefix_refl _),e4⟩
   have I4:=Cr I3 S.pre fr;rw[I.stl]at I4;exact((⟨List.prefix_refl _,λ_ h=>.inl h,S.st⟩:bw F g ρ s Q ρ s2)).post (R:=Rv F.B) I4 (.d rd)
  obtain⟨rf,re,ah⟩:=r
  dsimp only at r2 j Ib
  induction r2 using ed.casesOn with
  |nx=>obtain rfl:=Option.some.inj j;exact fin g2 ah .none .none Sb Ib .none
  |brk=>exact aN j
  |ret rr=>refine aK (Option.map_eq_some_iff.mp j) λz D=>?_;obtain⟨hz,rfl⟩:=D;exact aG λl=>aK (b5 (σ:=⟨σ.env,ah⟩) _ Ib rr hz) λQ D=>eY D λS3 I3 rd=>l (fin Q z.2 _ z.1 (Sb.trans Ib S3 ⟨_,I3⟩) I3 rd)
end
noncomputable def jx:Str:="comp_select_list"
noncomputable def kH(prog:Program)(w:World)(C:Addr)(g:G)(a:Addr)(x y:Int):Prop:=
 ∃b es n v,g a=some (instObj C b)/\g b=some (dictOf es n)/\getL jx es=some (some v)/\getL "compare" es=some none/\Rd prog w g v (.list [.tuple [.int 1,.int x],.tuple [.int 0,.int y]])
theorem kH.mono{prog:Program}{w:World}{C:Addr}{g d:G}(c:∀b o,g b=some o->d b=some o){a:Addr}{x y:Int}:kH prog w C g a x y->kH prog w C d a x y:=
 λh=>h.elim λe h=>h.elim λes h=>h.elim λn h=>h.elim λv h=>⟨e,es,n,v,c _ _ h.1,c _ _ h.2.1,h.2.2.1,h.2.2.2.1,h.2.2.2.2.mono c⟩
structure zd(B:Bs)(T:List FD)(mg:Str->Option Value)(K:Frag)(C fI fC:Addr):Prop where
 kin:∀b o,K.lookup b=some o->b≠B.P0/\B.h₀.get? b=some o
 name:mg ("TupleComp":Str)=some (.ref C)
 keep:keepIn K (.ref C)=true
 keepC:keepIn K (.ref fC)=true
 makes:makesIn K C=true
 init:findIn K (.ref C) "__init__"=some (some (.ref fI))
 initT:typeIn K (.ref fI)=some (.type "function")
 initF:∃oI fd p1 p2 p3 p4,K.lookup fI=some oI/\oI.data=.func fd/\fd.body=.stmts [.Assign [.Attribute (.Name "self" p1) jx p2] (.Name jx p3) p4]/\fd.closure=[]/\fd.scope.kind=.function/\fd.scope.isGenerator=false/\fd.scope.isCoroutine=false/\
  fd.scope.names=[(("self":Str),NameKind.local),(jx,NameKind.local)]/\(∀a b:Value,bindArgs fd ⟨[a,b],[]⟩=pure [(("self":Str),a),(jx,b)])/\∃c oc vs t,fd.code=.ref c/\c≠B.P0/\B.h₀.get? c=some oc/\oc.data=.fields vs/\vs[1]?=some (.str fd.qualname t)
 setattr:findIn K (.ref C) "__setattr__"=some (some (.builtin "object.__setattr__"))
 plain:plainOver K C=true
 taker:takerIn K C jx=some none
 dict:hasDictIn K C=true
 ga:findIn K (.ref C) "__getattribute__"=some (some (.builtin "object.__getattribute__"))
 gt:findIn K (.ref C) "__getattr__"=some none
 attr:findIn K (.ref C) jx=some none
 cmp:findIn K (.ref C) "compare"=some (some (.ref fC))
 cmpT:typeIn K (.ref fC)=some (.type "function")
 cmpF:∀fd∈T,fd.name=("compare":Str)->∃o f,uL B fd fC o f
 is:∀g a x y,B.isCmp g a x y↔kH B.prog B.w C g a x y
section
variable{F F':Fx}{gs:List Str}{T:List FD}{n kk:Nat}{g g' g₀ g₁:G}{ρ ρ' ρ₀ ρ₁:List Addr}{s s' s₀ s₁ s₂:Shared}{σ σ':bo}{A:Around}{mg mb:Str->Option Value}{fp:List Addr}{K:Frag}{C fI fC:Addr}
noncomputable def tG(F:Fx)(T:List FD)(n:Nat):Prop:=∀(A:Around)(g:G)(ρ:List Addr)(s:Shared)(σ:bo)(i:Nat)(fd:FD)(a:Addr)(o:Obj)(f:FuncData)(vs:List V)(b:List Value)(q:PyData×List aA),
 T[i]?=some fd->uL F.B fd a o f->Ok n A->aF F g ρ s σ->aM F.B g ρ vs b->callf T n i vs σ.st=some q->wpAny (model F.B.prog F.B.w) A (call (.ref a) b) (aC F g ρ s (Rv F.B) (Is (.d q.1) ⟨σ.env,q.2⟩)) E0 s
theorem uV(d:F.B.P0∈F.own)(gd:Gd F.B T mg mb)(j:∀(F':Fx)(b:List Str),F'.B=F.B->Wf F' b->nL F' b T n):tG F T (n+1):=λA g ρ s σ i fd a o f vs k q c l m I p h=>by
 refine bO h λt e h=>?_;cases c.symm.trans e;refine bC h λhl h=>bO h λr u v=>sB d gd l (t4 (gd.okf fd (List.mem_of_getElem? c))) m j I p hl.1 u (aB (Eq.symm (v)) ?_)
 try rfl
theorem pA(y:Wf F gs)(gd:Gd F.B T mg mb)(H:cY F gs T n)(z:tG F T n){i:Nat}{nm:Str}{es:List X}{t:PT}{r:List V×List aA}{q:PyData×List aA}(u:Ok n A)(b:bG T gs (.call i nm es) F.L t=true)(I:aF F g ρ s σ)(B:pk (ev T n σ.env) es σ.st=some r)(D:callf T n i r.1 r.2=some q):
  wpAny (model F.B.prog F.B.w) A (eval (aV (.call i nm es) F.L t) F.env) (aC F g ρ s (Rv F.B) (Is (.d q.1) ⟨σ.env,q.2⟩)) E0 s:=by
 change(_&&_)=true at b;simp only[Bool.and_eq_true,decide_eq_true_eq,List.contains_iff_mem]at b;refine aG λk=>?_;obtain⟨⟨⟨⟨E,h⟩,J⟩,M⟩,N⟩:=b;obtain⟨fd,v,O⟩:∃fd,T[i]?=some fd/\fd.name=nm:=by
  cases q:T[i]?with
  |none=>rw[q]at h;exact en h
  |some fd=>rw[q]at h;exact⟨fd,rfl,beq_iff_eq.mp h⟩
 subst O;refine cU (gd.named fd (List.mem_of_getElem? v) (by simpa using E)) λa o f l=>eY l λc P Q=>k (wpAny_Call_NameR (fm y gd.toGd0 I J P Q ?_));have key:=dv H (A:=A) (σ:=σ) (t:=t) (pos:=t.p) u es 1 N I B;refine bd (jR (L:=F.L) (t:=t) (j:=1) M) λe w l=>?_;obtain⟨rfl,R⟩:=l;rw[R]at key⊢;refine callWith_defK c.obj c.data (wpAny_mono key (λvs s1 m=>?_) λ_ _ e=>e) (aW ..);exact aC.elim m λS p U x W=>⟨x.stands gd.toGd0 c.ne c.obj,wpAny_mono (z A S p s1 ⟨σ.env,r.2⟩ i fd a o f r.1 vs q v c u x W D) (λ_ _ m=>U.more m) λ_ _ e=>e⟩
theorem aF.kin(I:aF F g ρ s σ)(gd:Gd0 F.B mg mb)(c:zd F.B T mg K C fI fC):K.In s.heap:=λb o e=>I.stands gd (c.kin b o e).1 (c.kin b o e).2
theorem rK(gd:Gd F.B T mg mb)(c:zd F.B T mg K C fI fC)(H:cY F gs T n){o:X}{t:PT}{x y:Int}{st:List aA}(k:Ok n A)(b:bG T gs (.attr o) F.L t=true)(I:aF F g ρ s σ)(l:ev T n σ.env o σ.st=some (.cmp x y,st)):
  wpAny (model F.B.prog F.B.w) A (eval (aV (.attr o) F.L t) F.env) (aC F g ρ s (Rv F.B) (Is (.d (.list [.tuple [.int 1,.int x],.tuple [.int 0,.int y]])) ⟨σ.env,st⟩)) E0 s:=by
 replace b:bG T gs o F.L (t.c 0)=true:=b;simp only[yX,arm_eval_Attribute,fR b];refine wpAny_bind (wpAny_mono (H A g ρ s σ o _ _ b k I l) (λv s1 p=>?_) λ_ _ e=>e);refine aC.elim p λE q r f u=>?_;cases u with
 |@cmp a x y hc=>refine aG λh=>c8 ((c.is _ _ _ _).mp hc) λw es m v z=>?_;obtain⟨e1,B,D,i,j⟩:=z;refine h (wpAny_bind (wpAny_standAt (wpAny_bind (wpAny_holding (get_value (f.kin gd.toGd0 c) ((⟨f.so.sub _ _ e1,rfl,rfl,f.so.sub _ _ B⟩:InstAt s1.heap a (instObj C w) C (some (dictOf es m)))) c.ga (findObj_own c.dict c.attr rfl D) ((by cases j;rfl:handedIn v=true)) (wpAny_bind (wpAny_letTemporaryGo (wpAny_pure ?_))))))));exact r.more (dm (σ:=⟨σ.env,st⟩) f (.d j) ⟨rfl,rfl⟩ _)
theorem rR(gd:Gd F.B T mg mb)(c:zd F.B T mg K C fI fC)(H:cY F gs T n)(U:tG F T n){i:Nat}{o a b:X}{t:PT}{x y:Int}{st:List aA}{q p:V×List aA}{r:PyData×List aA}(D:Ok n A)(h:bG T gs (.cmpr i o a b) F.L t=true)(I:aF F g ρ s σ)(W:ev T n σ.env o σ.st=some (.cmp x y,st))(Y:ev T n σ.env a st=some q)(Z:ev T n σ.env b q.2=some p)(h4:callf T n i [.cmp x y,q.1,p.1] p.2=some r):
  wpAny (model F.B.prog F.B.w) A (eval (aV (.cmpr i o a b) F.L t) F.env) (aC F g ρ s (Rv F.B) (Is (.d r.1) ⟨σ.env,r.2⟩)) E0 s:=by
 change(_&&_)=true at h;simp only[Bool.and_eq_true]at h;refine aG λj=>?_;obtain⟨⟨⟨⟨k1,E⟩,O⟩,k4⟩,k5⟩:=h;obtain⟨fd,P,hn⟩:∃fd,T[i]?=some fd/\fd.name=("compare":Str):=by
  cases q:T[i]?with
  |none=>rw[q]at E;exact en E
  |some fd=>rw[q]at E;exact⟨fd,rfl,beq_iff_eq.mp E⟩
 refine bd (c.cmpF fd (List.mem_of_getElem? P) hn) λoC f fa=>j ?_;simp only[yZ,arm_eval_Call,fR O];refine wpAny_bind (wpAny_mono (H A g ρ s σ o _ _ O D I W) (λv s1 k=>?_) λ_ _ e=>e);refine aC.elim k λg1 L S1 w r1=>wpAny_bind (wpAny_standAt ?_);have l:∀{pos:Pos},backTo pos (starEach [aV a F.L (t.c 1),aV b F.L (t.c 2)] F.env)=[(false,eval (aV a F.L (t.c 1)) F.env),(false,eval (aV b F.L (t.c 2)) F.env)]:=by intro pos;simp only[aW,aW];rfl
 cases r1 with
 |@cmp Q x y hc=>
  refine aG λj=>c8 ((c.is _ _ _ _).mp hc) λdx es m v h_=>wl h_ λe1 e2 e3 u e4=>?_;have z:methodCallPos true (aV o F.L ((t.c 0).c 0)) F.env (t.c 0).p t.p=pure t.p:=by unfold methodCallPos;simp[k1]
  refine j ?_;unfold methodCall;refine aB ((by rw[l];rfl:methodCallForm ([aV a F.L (t.c 1),aV b F.L (t.c 2)].length+([]:List Keyword).length) (backTo t.p (starEach [aV a F.L (t.c 1),aV b F.L (t.c 2)] F.env)) (backToKw t.p (keywordEach [] F.env))=true)) (wpAny_bind (wpAny_holding (method_fn (w.kin gd.toGd0 c) ((⟨w.so.sub _ _ e1,rfl,rfl,w.so.sub _ _ e2⟩:InstAt s1.heap Q (instObj C dx) C (some (dictOf es m)))) c.ga c.gt c.cmp c.cmpT (by show(lookIn _ (dictOf es m)).map _=_;rw[lookIn_dict,u];rfl) ?_)));refine wpAny_bind (wpAny_of_eq z ?_);refine callWith_K (h₀:=s1.heap) (w.kin gd.toGd0 c) c.keepC (args_cons (wpAny_mono (H A g1 L s1 ⟨σ.env,st⟩ a _ _ k4 D w Y) (λva s2 k=>?_) λ_ _ e=>e) (aW ..)) (aW ..) (by rw[aW];rfl);refine aC.elim k λg2 M S2 R r2=>args_cons (wpAny_mono (H A g2 M s2 ⟨σ.env,q.2⟩ b _ _ k5 D R Z) (λvb s3 k=>args_nil ?_) λ_ _ e=>e) (aW ..);refine aC.elim k λg3 N S J r3=>?_;have B:=S2.trans R S ⟨_,J⟩;refine⟨J.kin gd.toGd0 c,?_⟩;exact wpAny_mono (U A g3 N s3 ⟨σ.env,p.2⟩ i fd fC oC f [.cmp x y,q.1,p.1] [.ref Q,va,vb] r P fa D J (.cons (B.rv (.cmp hc)) (.cons (S.rv r2) (.cons r3 .nil))) h4) (λ_ _ k=>(S1.trans w B ⟨_,J⟩).more k) λ_ _ e=>e
end
section
variable{F F':Fx}{gs:List Str}{T:List FD}{n kk:Nat}{g g' g₀ g₁:G}{ρ ρ' ρ₀ ρ₁:List Addr}{s s' s₀ s₁ s₂:Shared}{σ σ':bo}{A:Around}{mg mb:Str->Option Value}{fp:List Addr}{K:Frag}{C fI fC:Addr}
noncomputable def lD:Heap:={objs:=#[]}
theorem fY(b:Addr):lD.get? b=none:=by
 cases q:lD.get? b with
 |none=>rfl
 |some o=>exact absurd (Heap.lt_size q) (Nat.not_lt_zero _)
theorem qb{h:Heap}{L:Addr}{m:Str->Option Value}(a:h.Ns L m):Fr lD L h m:=⟨a,(λb o e=>by rw[fY]at e;exact aN e),Nat.zero_le _⟩
theorem qF{h:Heap}{L:Addr}:News lD L h (jp h L):=λp a=>⟨(bJ.mp a).2,(bJ.mp a).1,fY _⟩
theorem yT{h':Heap}{a b:Addr}{k l:Obj}{t:Nat}{m:Str->Option Value}(I:aF F g ρ s σ)(d:Heap.ExtBut F.env.locals s.heap h')(z:h'.Ns F.env.locals m)(B:∀(i:Nat)(x:Str)(b:Bool)(v:V),F.L[i]?=some (bl.mk x .local b)->σ.env[i]?=some v->dK F.B g ρ v (m x))(o:a≠b)(r:s.heap.get? a=none)(u:s.heap.get? b=none)(e:h'.get? a=some k)(j:h'.get? b=some l):
  bw F g ρ s ((g.put a k).put b l) ρ {s with heap:=h',toks:=t}/\aF F ((g.put a k).put b l) ρ {s with heap:=h',toks:=t} σ:=by
 have w:aF F g ρ {s with heap:=h',toks:=t} σ:=Hk I d z B t;have y:dZ F g ρ {s with heap:=h',toks:=t} a:=dZ.new I r (by show h'.get? a≠none;rw[e];exact λq=>nomatch q);have f:dZ F g ρ {s with heap:=h',toks:=t} b:=dZ.new I u (by show h'.get? b≠none;rw[j];exact λq=>nomatch q);have p:dZ F (g.put a k) ρ {s with heap:=h',toks:=t} b:=⟨by rw[G.put_ne _ _ (Ne.symm o)];exact f.g,f.own,f.r,f.cells,f.hi,f.th⟩;refine cx (p.take ((y.take w e).1) j) λD E=>?_;have H:St F.B (F.own++ρ) g g s {s with heap:=h',toks:=t}:=St.ext t (List.mem_append_left _ I.so.lown) d I.so.lhi;have J:bw F g ρ s g ρ {s with heap:=h',toks:=t}:=⟨List.prefix_refl _,λ_ h=>.inl h,H⟩;exact⟨(J.out (W:=[a]) (λc hc=>by cases List.mem_singleton.mp hc;exact r) ((y.take w e).2)).out (W:=[b]) (λc hc=>by cases List.mem_singleton.mp hc;exact u) E,D⟩
theorem AF{x y:Int}{d:Value}(gd:Gd F.B T mg mb)(c:zd F.B T mg K C fI fC)(ok:Ok (n+1) A)(I:aF F g ρ s σ)(r:Rd F.B.prog F.B.w g d (.list [.tuple [.int 1,.int x],.tuple [.int 0,.int y]])):
  wpAny (model F.B.prog F.B.w) A (call (.ref C) [d]) (aC F g ρ s (Rv F.B) (Is (.cmp x y) σ)) E0 s:=by
 refine aG λu=>?_;obtain⟨mm,aa,ab⟩:=I.fr.loc;refine u (wpAny_call (make_K (qb aa) qF (I.kin gd.toGd0 c) c.makes c.init c.initT λi a h' F' N' J L=>?_));refine aG λu=>c8 (c.initF) λoI fd p1 p2 M=>bd M λp3 p4 M=>DC M λi1 i2 i3 i4 i5 i6 M=>?_;obtain⟨i7,i8,i9,cc,oc,ac,ct,j1,j2,j3,j4,j5⟩:=M;refine u ?_;have kp:∀b o,b≠F.env.locals->s.heap.get? b=some o->h'.get? b=some o:=λb o k e=>(N' (b,o) (.tail _ (.tail _ (bJ.mpr ⟨k,e⟩)))).1;have ae:∀b o,F.B.h₀.get? b=some o->b≠F.env.locals:=λb o e q=>by rw[q,I.so.lhi]at e;exact aN e
 have v:∀b o,b≠F.B.P0->F.B.h₀.get? b=some o->h'.get? b=some o:=λb o k e=>kp b o (ae b o e) (I.stands gd.toGd0 k e);have hx:=N' (i,instObj C a) (.head _);have Z:=N' (a,emptyDict) (.tail _ (.head _));have f:∀b,(∀p∈jp s.heap F.env.locals,p.1<b)->b≠F.env.locals->s.heap.get? b=none:=λb k w=>by
  cases q:s.heap.get? b with
  |none=>rfl
  |some o=>exact absurd (k (b,o) (bJ.mpr ⟨w,q⟩)) (Nat.lt_irrefl _)
 have N:s.heap.get? a=none:=f a J Z.2.1;have af:s.heap.get? i=none:=f i (λp j=>Nat.lt_trans (J p j) L) hx.2.1;have ag:h'.NoLimit:=by obtain⟨mc,h1,O⟩:=gd.nol;exact⟨mc,dF h1 λo e=>v _ o gd.csP e,O⟩
 have X':K.In h':=λb o e=>v b o (c.kin b o e).1 (c.kin b o e).2;have B:(A.under (.builtin "type.__call__" ⟨[.ref C,d],[]⟩)).depth<recursionLimit:=by rw[depth_under_make];have:=ok.depth;omega
 have l:fd.scope.names.lookup ("self":Str)=some .local:=by rw[i8];rfl
 have m:fd.scope.names.lookup jx=some .local:=by rw[i8];rfl
 refine codeAny_call_cells (s:={s with heap:=h'}) (o:=oI) (fd:=fd) (binds:=[(("self":Str),.ref i),(jx,d)]) B (X' _ _ i1) i2 ag ⟨cc,oc,ac,ct,j1,v _ _ j2 j3,j4,j5⟩ i3 (i9 _ _) i4 (λz hz=>?_) (λs1 P=>?_) i7 i6 i5
 ·rcases List.mem_cons.mp hz with rfl|hz
  ·exact .inl l
  ·cases List.mem_singleton.mp hz;exact .inl m
 ·have h:=P.toInCall.keep;refine bd (P.toInCall.same) λhh tk e1=>?_;have Q:(callEnvC fd h'.objs.size fI).kindOf ("self":Str)=some .local:=l;have D:(callEnvC fd h'.objs.size fI).kindOf jx=some .local:=m;have ah:bindL (callEnvC fd h'.objs.size fI).kindOf [(("self":Str),.ref i),(jx,d)] (λ_=>none) ("self":Str)=some (.ref i):=by unfold bindL bindL bindL;refine aB (if_pos D) ?_;rw[if_pos Q];exact Eq.trans (if_neg (by decide)) (if_pos rfl)
  have ai:bindL (callEnvC fd h'.objs.size fI).kindOf [(("self":Str),.ref i),(jx,d)] (λ_=>none) jx=some d:=by unfold bindL bindL bindL;rw[if_pos D,if_pos rfl]
  have U:(callEnvC fd h'.objs.size fI).scope.kind=.function:=i5;refine wpAny_execs_cons (plainObj_wpAny_Assign_Attribute ?_);refine NameLC P U D ai (NameLC P U Q ah ?_ rfl) rfl;have V:=h _ _ hx.1;have W:=h _ _ Z.1;have Xs:K.In s1.heap:=λb o e=>h _ _ (X' b o e);have ia:InstAt s1.heap i (instObj C a) C (some emptyDict):=⟨V,rfl,rfl,W⟩;have N1:News lD h'.objs.size s1.heap ([]++(a,emptyDict)::((jp s1.heap h'.objs.size).filter λp=>p.1!=a)):=λp j=>by
   rcases List.mem_cons.mp j with rfl|j
   ·exact⟨W,((Nat.ne_of_lt (Heap.lt_size Z.1):a≠h'.objs.size)),fY _⟩
   ·exact qF p (List.mem_filter.mp j).1
  refine set_plain Xs ia c.setattr (osa_dict (s:={s1 with toks:=s1.toks+1}) (es:=putL jx (PyData.keyHash F.B.w.params jx) (.str jx (s1.toks+1)) d []) (n:=putN jx [] 0) (od':=dictOf (putL jx (PyData.keyHash F.B.w.params jx) (.str jx (s1.toks+1)) d []) (putN jx [] 0)) (qb (P.toInCall.ns)) N1 Xs ia rfl c.plain c.taker c.dict rfl (λp j=>nomatch j) (λp j=>by have:=(List.mem_filter.mp j).2;simpa using this) (putName_dict ..) rfl (by show 1<=1000;decide) λO F2 N2=>?_);refine wpAny_pure ⟨rfl,?_⟩;have E:∀b o,b≠h'.objs.size->b≠a->s1.heap.get? b=some o->O.get? b=some o:=λb o h1 h3 e=>(N2 (b,o) (.tail _ (List.mem_filter.mpr ⟨bJ.mpr ⟨h1,e⟩,by simpa using h3⟩))).1;have H:i≠a:=(Nat.ne_of_lt L).symm;have aj:∀b o,s.heap.get? b=some o->b≠F.env.locals->b≠h'.objs.size:=λb o e w q=>by have:=Heap.lt_size (kp b o w e);rw[q]at this;exact Nat.lt_irrefl _ this
  have X:Heap.ExtBut F.env.locals s.heap O:=λb o k e=>E b o (aj b o e k) (λq=>by rw[q,N]at e;exact aN e) (h _ _ (kp b o k e));have Y:F.env.locals<h'.objs.size:=F'.ns.lt;have ak:O.Ns F.env.locals mm:=dF (dF F'.ns λo e=>h _ o e) λo e=>E _ o (Nat.ne_of_lt Y) (λq=>Z.2.1 q.symm) e;subst e1;obtain⟨S,I2⟩:=yT (t:=tk+1+1) I X ak ab H.symm N af ((N2 (a,_) (.head _)).1) (E _ _ ((Nat.ne_of_lt (Heap.lt_size hx.1):i≠h'.objs.size)) H V);refine S.post (R:=Rv F.B) I2 (.cmp ((c.is _ _ _ _).mpr ⟨a,putL jx (PyData.keyHash F.B.w.params jx) (.str jx (tk+1)) d [],putN jx [] 0,d,G.put_self ..,?_,?_,?_,r.mono S.st.le⟩))
  ·exact Eq.trans (G.put_ne _ _ H.symm) (G.put_self ..)
  ·rfl
  ·rfl
theorem uh:∀{xs:List PyData}{is:List Int},eq xs=some is->xs=is.map .int
 |[],_,h=>by obtain rfl:=Option.some.inj h;rfl
 |x::xs,is,h=>by
  induction x using PyData.casesOn with
  |int i=>exact bM (show(eq xs).map (i::·)=some is from h) λb a h=>by subst h;rw[uh a];rfl
  |_=>exact aN h
theorem uz{d:PyData}{is:List Int}(h:AX d=some is):d=.tuple (is.map .int):=by
 induction d using PyData.casesOn with
 |tuple xs=>rw[uh (show eq xs=some is from h)]
 |_=>exact aN h
theorem tB{d:Type}{l:List d}{p:d×d}(h:two l=some p):l=[p.1,p.2]:=by
 induction l using List.casesOn with
 |nil=>exact aN h
 |cons a l=>induction l using List.casesOn with
  |nil=>exact aN h
  |cons b l=>induction l using List.casesOn with
   |nil=>obtain rfl:=Option.some.inj h;rfl
   |cons c l=>exact aN h
theorem CR{v:V}{c:Int×Int}(h:G0 v=some c):v=.d (.list [.tuple [.int 1,.int c.1],.tuple [.int 0,.int c.2]]):=by
 induction v using V.casesOn with
 |d x=>
  induction x using PyData.casesOn with
  |list l=>refine bO (show(two l).bind _=some c from h) λi e1 h=>bO h λp a h=>bO h λq b h=>bO h λp' e h=>bO h λj f h=>bC h λhc h=>?_;obtain rfl:=Option.some.inj h;refine aB (tB e1) (aB (uz a) ?_);refine aB (uz b) (aB (tB e) ?_);refine aB (tB f) (aB (hc.1) ?_);refine aB (hc.2) ?_;rfl
  |_=>exact aN h
 |_=>exact aN h
theorem vP(l:Wf F gs)(gd:Gd F.B T mg mb)(c:zd F.B T mg K C fI fC)(H:cY F gs T n){a:X}{t:PT}{x y:Int}{st:List aA}(j:Ok (n+1) A)(b:bG T gs (.mk a) F.L t=true)(I:aF F g ρ s σ)(m:ev T n σ.env a σ.st=some (.d (.list [.tuple [.int 1,.int x],.tuple [.int 0,.int y]]),st)):
  wpAny (model F.B.prog F.B.w) A (eval (aV (.mk a) F.L t) F.env) (aC F g ρ s (Rv F.B) (Is (.cmp x y) ⟨σ.env,st⟩)) E0 s:=by
 change(_&&_)=true at b;rw[Bool.and_eq_true,List.contains_iff_mem]at b;refine wpAny_Call_NameR (fm l gd.toGd0 I b.1 c.name rfl ?_);refine callWith_K (h₀:=s.heap) (I.kin gd.toGd0 c) c.keep (args_cons (wpAny_mono (H A g ρ s σ a _ _ b.2 (j.less (Nat.le_succ n)) I m) (λq s1 f=>args_nil ?_) λ_ _ e=>e) (aW ..)) (aW ..) rfl;refine aC.elim f λr o p k h=>aG λi=>?_;cases h with
 |d h=>refine i ?_;exact⟨k.kin gd.toGd0 c,wpAny_mono (AF gd c j k h) (λ_ _ f=>p.more f) λ_ _ e=>e⟩
end
section
variable{F F':Fx}{gs:List Str}{T:List FD}{n kk:Nat}{g g' g₀ g₁:G}{ρ ρ' ρ₀ ρ₁:List Addr}{s s' s₀ s₁ s₂:Shared}{σ σ':bo}{A:Around}{mg mb:Str->Option Value}{fp:List Addr}{K:Frag}{C fI fC:Addr}{B:Bs}
noncomputable def FN(F:Fx)(gs:List Str)(T:List FD)(n:Nat):Prop:=∀(A:Around)(g:G)(ρ:List Addr)(s:Shared)(σ:bo)(a b:X)(C:CS)(t:PT)(xs ys:List PyData)(is e:List Int)(st c:List aA),bG T gs (.tzip a b C) F.L t=true->Ok (n+1) A->aF F g ρ s σ->
 ev T n σ.env a σ.st=some (.d (.tuple xs),st)->ev T n σ.env b st=some (.d (.tuple ys),c)->eq xs=some is->eq ys=some e->xs≠[]/\xs.length=ys.length/\xs.length<=64->
 wpAny (model F.B.prog F.B.w) A (eval (aV (.tzip a b C) F.L t) F.env) (aC F g ρ s (Rv F.B) (Is (.d (.tuple ((List.zipWith (·+·) is e).map .int))) ⟨σ.env,c⟩)) E0 s
noncomputable def DW(F:Fx)(gs:List Str)(T:List FD)(n:Nat):Prop:=∀(A:Around)(g:G)(ρ:List Addr)(s:Shared)(σ:bo)(e:X)(t:PT)(x:Str)(st:List aA)(L:List bl)(b:dJ)(p:PT),zg T gs (.gen e) F.L t=true->Ok (n+1) A->aF F g ρ s σ->
 ev T n σ.env e σ.st=some (.d (.str x),st)->x.length<=1000000->
 wpAny (model F.B.prog F.B.w) A (eval (mM (.gen e) F.L t) F.env) (λc s₁=>wpAny (model F.B.prog F.B.w) A (pyIter c) (λa s₂=>nM F A (g0 L p b) g ρ s ⟨σ.env,st⟩ (eZ 0 false x.cps.toList) a s₂) E0 s₁) E0 s
structure wt(B:Bs)(T:List FD)(n:Nat):Prop where
 ev:∀(F:Fx)(gs:List Str),F.B=B->Wf F gs->cY F gs T n
 tr:∀(F:Fx)(gs:List Str),F.B=B->Wf F gs->rz F gs T n
 evi:∀(F:Fx)(gs:List Str),F.B=B->Wf F gs->po F gs T n
 ex:∀(F:Fx)(gs:List Str),F.B=B->Wf F gs->Ga F gs T n
 exs:∀(F:Fx)(gs:List Str),F.B=B->Wf F gs->nL F gs T n
 call:∀(F:Fx)(gs:List Str),F.B=B->Wf F gs->tG F T n
theorem ty{x:X}{t:PT}{r:V×List aA}{b:Bool}(H:cY F gs T n)(a:bG T gs x F.L t=true)(f:Ok n A)(I:aF F g ρ s σ)(h:ev T n σ.env x σ.st=some r)(i:aZ r.1=some b)(j:isTrue (aV x F.L t) F.env (eval (aV x F.L t) F.env)=(do let v<-eval (aV x F.L t) F.env;standAt (aV x F.L t).pos;holding [v] (truthy v))):
  wpAny (model F.B.prog F.B.w) A (isTrue (aV x F.L t) F.env (eval (aV x F.L t) F.env)) (aC F g ρ s (λ_ _(b:Bool)(c:Bool)=>c=b) (Is b ⟨σ.env,r.2⟩)) E0 s:=by
 refine wpAny_isTrue_value (wpAny_mono (H A g ρ s σ x t r a f I h) (λv s1 d=>?_) λ_ _ e=>e) j;exact aC.elim d λp k l m o=>wpAny_mono (gm m o i) (λ_ _ d=>l.more d) λ_ _ e=>e
theorem zN(gd:Gd B T mg mb)(c:zd B T mg K C fI fC)(hz:∀F gs n,F.B=B->Wf F gs->cY F gs T n->FN F gs T n)(R:wt B T n)(F:Fx)(gs:List Str)(hB:F.B=B)(M:Wf F gs):cY F gs T (n+1):=by
 subst hB;have H:=R.ev F gs rfl M;have W:=R.evi F gs rfl M;have Y:=R.call F gs rfl M;have Z:∀(F':Fx)(N:List Str),F'.B=F.B->Wf F' N->cY F' N T n/\rz F' N T n:=λF' N e w=>⟨R.ev F' N e w,R.tr F' N e w⟩;intro A g ρ s σ x t r D S I h;have E:=S.less (Nat.le_succ n);induction x using X.casesOn with
 |k c=>change some _=some _ at h;obtain rfl:=Option.some.inj h;exact Ak I
 |v i=>exact Bl M.lay I h
 |g a b=>change some _=some _ at h;obtain rfl:=Option.some.inj h;exact z0 M gd.toGd0 I D
 |tup es=>exact bO h λq j h=>bC h λ_ h=>(Option.some.inj h)▸(wi H E D I j)
 |lst es=>exact Gh (P:=λr=>wpAny (model F.B.prog F.B.w) A _ (aC F g ρ s (Rv F.B) (Is r.1 ⟨σ.env,r.2⟩)) E0 s) h λq ds j J=>vK H E D I j J
 |cell es=>exact Gh (P:=λr=>wpAny (model F.B.prog F.B.w) A _ (aC F g ρ s (Rv F.B) (Is r.1 ⟨σ.env,r.2⟩)) E0 s) h λq ds j J=>rQ H E D I j J
 |dct ks vs=>
  refine bD h (λh0 h=>?_) λh=>bC h λhc h=>?_
  ·obtain⟨rfl,rfl⟩:=h0;exact(Option.some.inj h)▸(rW gd.toGd0 I)
  ·exact bO h λq j h=>bO h λkd J h=>bO h λvd L h=>bO h λd O h=>(Option.some.inj h)▸(u2 H gd.toGd0 E D I hc j J L O)
 |dnew=>change some _=some _ at h;obtain rfl:=Option.some.inj h;exact r6 gd.toGd0 I
 |nones k=>exact bC h λhk h=>(Option.some.inj h)▸(qK hk I)
 |bin op a b=>exact Gi (P:=λr=>wpAny (model F.B.prog F.B.w) A _ (aC F g ρ s (Rv F.B) (Is r.1 ⟨σ.env,r.2⟩)) E0 s) h λq p v j J L=>uR (q:=p) H E D I j J L
 |neg a=>refine bO h λq j h=>cI h λi e h=>?_;have j:=pj j e;exact(Option.some.inj h)▸(vQ H E D I j)
 |not a=>exact DD (P:=λr=>wpAny (model F.B.prog F.B.w) A _ (aC F g ρ s (Rv F.B) (Is r.1 ⟨σ.env,r.2⟩)) E0 s) h λq b j J=>sT (r:=q) H E D I j J
 |cmp op a b=>exact Gi (P:=λr=>wpAny (model F.B.prog F.B.w) A _ (aC F g ρ s (Rv F.B) (Is r.1 ⟨σ.env,r.2⟩)) E0 s) h λq p e j J L=>uZ H E D I j J L
 |bop op es=>exact uU H E es 0 D I h
 |ite c a b=>refine bO h λq j h=>?_;rw[Option.bind_eq_some_iff]at h;refine aG λQ=>?_;obtain⟨b',J,h⟩:=h;refine Q (vB H (R.tr F gs rfl M) E D I j J ?_);rw[<-h];induction b' using Bool.casesOn<;>rfl
 |idx a i=>exact Gi (P:=λr=>wpAny (model F.B.prog F.B.w) A _ (aC F g ρ s (Rv F.B) (Is r.1 ⟨σ.env,r.2⟩)) E0 s) h λq p v j J L=>sF (q:=p) H E D I j J L
 |slc a lo hi=>refine bO h λq j h=>bO h λl J h=>bO h λu L h=>?_;rw[Option.bind_eq_some_iff]at h;refine aG λQ=>?_;obtain⟨l',O,h⟩:=h;rw[Option.bind_eq_some_iff]at h;obtain⟨u',h5,h⟩:=h;exact Q (DD (P:=λr=>wpAny (model F.B.prog F.B.w) A _ (aC F g ρ s (Rv F.B) (Is r.1 ⟨σ.env,r.2⟩)) E0 s) h λz d h6 h7=>tm H E D I j J L O h5 h6 h7)
 |fmt1 f a=>exact DD (P:=λr=>wpAny (model F.B.prog F.B.w) A _ (aC F g ρ s (Rv F.B) (Is r.1 ⟨σ.env,r.2⟩)) E0 s) h λq v j L=>p8 (r:=q) H E D I j L
 |fmt3 f a=>exact DD (P:=λr=>wpAny (model F.B.prog F.B.w) A _ (aC F g ρ s (Rv F.B) (Is r.1 ⟨σ.env,r.2⟩)) E0 s) h λq v j L=>p9 (r:=q) H E D I j L
 |call f nm es=>exact Gh (P:=λr=>wpAny (model F.B.prog F.B.w) A _ (aC F g ρ s (Rv F.B) (Is r.1 ⟨σ.env,r.2⟩)) E0 s) h λq p j J=>pA M gd H Y E D I j J
 |bi b a=>
  refine bO h λq j h=>uT M gd.toGd0 H E D I j λI2 r2=>?_;by_cases hb:b=.sorted
  ·subst hb;exact o5 (σ:=⟨σ.env,q.2⟩) I2 r2 h
  ·exact wG (σ:=⟨σ.env,q.2⟩) hb E I2 r2 h
 |isTup a=>refine bO h λq j h=>cX h λx e h=>bO h λb J h=>?_;obtain rfl:=Option.some.inj h;have j:=pj j e;exact oK M gd.toGd0 H E D I j J
 |tzip a b C=>refine bO h λq j h=>bO h λU J h=>cT h λxs e1 h=>cT h λys V h=>bO h λis L h=>bO h λjs O h=>bC h λhc h=>?_;have j:=pj j e1;have J:=pj J V;exact(Option.some.inj h)▸(hz F gs n rfl M H A g ρ s σ a b C t xs ys is js q.2 U.2 D S I j J L O hc)
 |meth m o es=>exact bO h λq j h=>bC h λhm h=>bO h λp J h=>sR H E D I j hm J h
 |split o a=>refine bO h λq j h=>bO h λU J h=>cS h λxs e1 h=>cS h λys V h=>bC h λhc h=>?_;have j:=pj j e1;have J:=pj J V;exact(Option.some.inj h)▸(o6 H E D I j J hc.1 hc.2.1 hc.2.2)
 |attr o=>refine bO h λq j h=>cC h λx y e h=>?_;have j:=pj j e;exact(Option.some.inj h)▸(rK gd c H E D I j)
 |mk a=>refine bO h λq j h=>bO h λc' e h=>?_;have j:=pj j (CR e);exact(Option.some.inj h)▸(vP M gd c H S D I j)
 |cmpr f o a b=>refine bO h λq j h=>cC h λx y e h=>bO h λU J h=>bO h λp L h=>bO h λz O h=>?_;have j:=pj j e;exact(Option.some.inj h)▸(rR gd c H Y E D I j J L O)
 |lc e tg it aa C=>
  refine bO h λq j h=>bM h λz J h=>?_;subst h;refine x0 M E W Z D I j (aB (Eq.symm (J)) ?_)
  congr 1
 |dc a b tg it C=>exact DD (P:=λr=>wpAny (model F.B.prog F.B.w) A _ (aC F g ρ s (Rv F.B) (Is r.1 ⟨σ.env,r.2⟩)) E0 s) h λq z j J=>wV M gd.toGd0 E W Z D I j J
theorem Bh(o:wt B T n)(F:Fx)(gs:List Str)(y:F.B=B)(u:Wf F gs)(z:cY F gs T (n+1)):rz F gs T (n+1):=by
 subst y;have l:=o.tr F gs rfl u;intro A g ρ s σ x t r b d v I h i;have f:=v.less (Nat.le_succ n);induction x using X.casesOn with
 |not a=>refine bO h λq j h=>?_;obtain⟨w,k,rfl⟩:=Option.map_eq_some_iff.mp h;exact(Option.some.inj i)▸(vV (r:=q) l f d I j k)
 |cmp op a b=>refine bO h λq j h=>bO h λp k h=>bM h λe D h=>?_;subst h;exact(Option.some.inj i)▸(rS (o.ev F gs rfl u) f d I j k D)
 |bop op es=>exact rO l f es 0 d I h i
 |ite c a b=>refine bO h λq j h=>?_;simp only[Option.bind_eq_some_iff]at h;refine aG λm=>?_;obtain⟨w,k,h⟩:=h;refine m (sJ l f d I j k ?_ i);rw[<-h];induction w using Bool.casesOn<;>rfl
 |_=>exact ty z d v I h i rfl
end
section
variable{F F':Fx}{gs:List Str}{T:List FD}{n kk:Nat}{g g' g₀ g₁:G}{ρ ρ' ρ₀ ρ₁:List Addr}{s s' s₀ s₁ s₂:Shared}{σ σ':bo}{A:Around}{mg mb:Str->Option Value}{fp:List Addr}{K:Frag}{C fI fC:Addr}{B:Bs}
theorem xe(gd:Gd B T mg mb)(o:wt B T n)(F:Fx)(gs:List Str)(u:F.B=B)(j:Wf F gs):po F gs T (n+1):=by
 subst u;have H:=o.ev F gs rfl j;intro A g ρ s σ it t r L m p a c w I h;have b:=w.less (Nat.le_succ n);induction it using It.casesOn with
 |x e=>exact bO h λq f h=>bO h λz k h=>bO h λxs l h=>(Option.some.inj h)▸(sf H b a I f k l)
 |rng es=>exact bO h λq f h=>bO h λds l h=>(Option.some.inj h)▸(oo j gd.toGd0 H b a I f l)
 |enu e=>
  induction m using dJ.casesOn with
  |v i=>exact en c
  |tup is=>
   refine bO h λq f h=>bO h λz k h=>?_;obtain⟨y,zs⟩:=z;induction y using PyData.casesOn with
   |list xs=>obtain rfl:=Option.some.inj h;exact oj (q:=(.list xs,zs)) j gd.toGd0 H b a I f k rfl
   |_=>exact aN h
 |items e=>
  induction m using dJ.casesOn with
  |v i=>exact en c
  |tup is=>
   refine bO h λq f h=>?_;obtain⟨D,E⟩:=q;induction D using V.casesOn with
   |d x=>induction x using PyData.casesOn with
    |dict kvs=>obtain rfl:=Option.some.inj h;exact om H b a I f
    |_=>exact aN h
   |_=>exact aN h
 |gen e=>exact en c
theorem xz(d:∀F gs n,F.B=B->Wf F gs->cY F gs T n->DW F gs T n)(a:∀m,m<n->wt B T m)(F:Fx)(gs:List Str)(f:F.B=B)(c:Wf F gs):DV F gs T n:=by
 subst f;intro A g ρ s σ e t r L i p b j I h;induction n using Nat.casesOn with
 |zero=>exact aN h
 |succ m=>exact bO h λq k h=>cS h λx e1 h=>bC h λl h=>(Option.some.inj h)▸(d F gs m rfl c ((a m (Nat.lt_succ_self m)).ev F gs rfl c) A g ρ s σ e t x q.2 L i p b j I (pj k e1) l)
theorem zP(gd:Gd B T mg mb)(Y:∀F gs n,F.B=B->Wf F gs->cY F gs T n->DW F gs T n)(N:wt B T n)(J:∀m,m<n->wt B T m)(F:Fx)(gs:List Str)(Z:F.B=B)(u:Wf F gs):Ga F gs T (n+1):=by
 subst Z;have H:=N.ev F gs rfl u;have U:=N.tr F gs rfl u;have V:=N.exs F gs rfl u;intro A g ρ s σ x t r f ok I h;have l:=ok.less (Nat.le_succ n);induction x using S.casesOn with
 |asg tg e=>refine bO h λq d h=>?_;obtain⟨env',o,rfl⟩:=Option.map_eq_some_iff.mp h;exact uQ (r:=q) H u.lay l f I d o
 |asgC i e=>
  refine bM h λq d h=>?_;subst h;induction n using Nat.casesOn with
  |zero=>exact aN d
  |succ m=>have v:=J m (Nat.lt_succ_self m);exact rG (r:=q) u gd.toGd0 l (v.evi F gs rfl u) (λF' L e w=>⟨v.ev F' L e w,v.tr F' L e w⟩) f I d
 |asgS is es=>refine bO h λq d h=>?_;obtain⟨env',o,rfl⟩:=Option.map_eq_some_iff.mp h;exact rI (r:=q) H u.lay l f I d o
 |asgI b i e=>refine bO h λq d h=>bO h λp o h=>bO h λw D h=>bO h λz M h=>aK (Option.map_eq_some_iff.mp h) λO h_=>?_;obtain⟨P,rfl⟩:=h_;exact rH H l f I d o D M P
 |aug i op e=>
  refine cI h λx W h=>bO h λq d h=>cI h λy e1 h=>?_;induction op using Operator.casesOn with
  |Add=>have d:=pj d e1;cases h;exact mT H u.lay l f I W d (.inl ⟨rfl,rfl⟩)
  |Sub=>have d:=pj d e1;cases h;exact mT H u.lay l f I W d (.inr ⟨rfl,rfl⟩)
  |_=>exact aN h
 |augI b i op e=>
  induction op using Operator.casesOn with
  |Add=>refine bO h λq d h=>bO h λp o h=>bO h λaa D h=>bO h λw M h=>cI h λx e1 h=>cI h λy Q h=>bO h λO P h=>?_;have D:=D.trans (congrArg some e1);have M:=pj M Q;exact(Option.some.inj h)▸(rL H l f I d o D M P)
  |_=>exact aN h
 |ex e=>
  refine bO h λq d h=>cX h λx e1 h=>?_;induction x using PyData.casesOn with
  |none=>have d:=pj d e1;obtain rfl:=Option.some.inj h;exact xf H u.lay l f I d
  |_=>exact aN h
 |«for» tg it body=>exact bO h λq d h=>vo u.lay l (N.evi F gs rfl u) (xz Y J F gs rfl u) V f I d h
 |ite c a b=>refine bO h λq d h=>?_;rw[Option.bind_eq_some_iff]at h;refine aG λE=>?_;obtain⟨X,o,h⟩:=h;refine E (v2 U V l f I d o ?_);rw[<-h];induction X using Bool.casesOn<;>rfl
 |ret e=>exact bM h λq d h=>h▸(vZ (r:=q) H l f I d)
 |brk=>obtain rfl:=Option.some.inj h;rw[Bg];exact wpAny_Break (aC.is (R:=ed F.B) (b:=.brk) I ed.brk)
 |asrt e=>refine bO h λq d h=>bO h λX o h=>bC h λhb h=>aG λE=>?_;subst hb;exact E ((Option.some.inj h)▸(rJ (r:=q) U l f I d o))
 |del b i=>refine bO h λq d h=>bO h λq2 o h=>cR h λa e1 h=>cI h λk Q h=>mL h λxs hc h=>bC h λhk h=>bO h λj D h=>?_;obtain rfl:=Option.some.inj h;have d:=pj d e1;have o:=pj o Q;exact tf (r:=q) H l f I d o hc hk D
theorem xh(c:wt B T n)(F:Fx)(gs:List Str)(e:F.B=B)(d:Wf F gs):nL F gs T (n+1):=by
 subst e;have f:=c.ex F gs rfl d;have i:=c.exs F gs rfl d;intro A g ρ s σ x t j r a k I h;induction x using List.casesOn with
 |nil=>obtain rfl:=Option.some.inj h;exact wpAny_pure (aC.is (R:=ed F.B) (b:=.nx) I ed.nx)
 |cons x xs=>exact bO h λq l h=>vh f i (k.less (Nat.le_succ n)) a I l (aB (Eq.symm (h)) rfl);all_goals(cases q.1<;>rfl)
theorem wA:wt B T 0:=by
 refine⟨?_,?_,?_,?_,?_,?_⟩
 ·intro F gs _ _ A g ρ s σ x t r _ _ _ h;exact aN h
 ·intro F gs _ _ A g ρ s σ x t r b _ _ _ h _;exact aN h
 ·intro F gs _ _ A g ρ s σ it t r L d p _ _ _ _ h;exact aN h
 ·intro F gs _ _ A g ρ s σ x t r _ _ _ h;exact aN h
 ·intro F gs _ _ A g ρ s σ x t j r _ _ _ h;exact aN h
 ·intro F gs _ _ A g ρ s σ i fd a o f vs c q _ _ _ _ _ h;exact aN h
theorem pw(gd:Gd B T mg mb)(c:zd B T mg K C fI fC)(l:∀F gs n,F.B=B->Wf F gs->cY F gs T n->FN F gs T n)(o:∀F gs n,F.B=B->Wf F gs->cY F gs T n->DW F gs T n):∀n m,m<=n->wt B T m
 |0,m,h=>by have e:m=0:=Nat.le_zero.mp h;exact aB e wA
 |n+1,m,h=>by
  have f:=pw gd c l o n;refine Or.elim (Nat.lt_or_ge m (n+1)) (λi=>?_) λi=>?_
  ·exact f m (Nat.le_of_lt_succ i)
  ·have e:m=n+1:=Nat.le_antisymm h i;subst e;have a:=f n (Nat.le_refl n);have p:=zN gd c l a;exact⟨p,λF gs b d=>Bh a F gs b d (p F gs b d),xe gd a,zP gd o a (λk q=>f k (Nat.le_of_lt q)),xh a,λF gs b d=>by
    subst b;exact uV d.P0 gd λF' j e w=>a.exs F' j e w⟩
theorem uP(gd:Gd B T mg mb)(c:zd B T mg K C fI fC)(a:∀F gs n,F.B=B->Wf F gs->cY F gs T n->FN F gs T n)(b:∀F gs n,F.B=B->Wf F gs->cY F gs T n->DW F gs T n)(n:Nat):wt B T n:=pw gd c a b n n (Nat.le_refl n)
end
end Mine
end
noncomputable section
open PySem PySem.Calls PySem.Spec PySem.W PyProof.Rows Builtin.Str
set_option maxRecDepth 100000
namespace Mine
theorem yU:∀fd∈aH,E1 aH fd=true:=by
 have h:aH.all (E1 aH)=true:=by decide+kernel
 exact List.all_eq_true.mp h
end Mine
end
noncomputable section
open PySem PySem.Calls PySem.Spec PySem.W PyProof.Rows
namespace Mine
section
variable{prog:Program}{w:World}{A:Around}{E:Value->Shared->Prop}{s:Shared}
theorem l3{it t:Addr}{i:Nat}{items:Array Value}{x:Value}{Q:Value->Shared->Prop}(a:s.heap.IsTupleIter it t i)(h:s.heap.IsTuple t items)(j:items[i]?=some x)(k:∀h',h'.IsTupleIter it t (i+1)->Heap.SameBut it s.heap h'->Q x {s with heap:=h'}):wpAny (model prog w) A (Builtin.SmallTypes.nextOf (.ref it)) Q E s:=by
 refine aG λe=>aK (id a) λo b=>?_;obtain⟨d,hc,c⟩:=b;refine aK h λl b=>eY b λf _ b=>?_;obtain⟨m,g⟩:=b;refine e ?_;refine wpAny_bind (wpAny_callSpecial?_slot (name:=Str.ofString "__next__") a.typeIs PySem.F.slot_tuple_iterator_next
  (wpAny_call_entry PySem.F.slot_tuple_iterator_next a.typeIs PySem.F.entry_tuple_iterator_next ?_ (PySem.F.args_tuple_iterator_next_1 _)))
 show wpAny _ _ (field (.ref it) 0>>=_) _ _ s;refine wpAny_bind (wpAny_field d c (x:=.ref t) rfl ?_);refine aB (if_neg (show¬((Value.ref t==Value.none)=true) from Bool.false_ne_true)) (wpAny_bind (wpAny_field d c (x:=.int i 0) rfl ?_));refine wpAny_bind (wpAny_seqItems f g ?_);simp only[Int.toNat_natCast,j];refine wpAny_bind (wpAny_setField d c (by simp) (wpAny_pure ⟨x,rfl,wpAny_pure (k _ ?_ (Heap.SameBut.update ..))⟩));exact⟨_,Heap.get?_update_self _ d (Obj.isFreed_of_fields (Obj.data_mapFields c _)),(Obj.cls_mapFields ..).trans hc,by
  rw[Obj.data_mapFields c];simp[rawInt]⟩
theorem vU{it t:Addr}{i:Nat}{items:Array Value}{Q:Value->Shared->Prop}(k:A.handled=none)(b:s.heap.IsTupleIter it t i)(l:s.heap.IsTuple t items)(n:items[i]?=none)(p:∀h' e,Heap.ExtBut it s.heap h'->(∃o,h'.get? e=some o/\o.cls=.type "StopIteration")->E (.ref e) {s with heap:=h'}):wpAny (model prog w) A (Builtin.SmallTypes.nextOf (.ref it)) Q E s:=by
 refine aG λd=>aK (id b) λo c=>?_;obtain⟨f,hc,g⟩:=c;refine aK l λq c=>eY c λh _ c=>?_;obtain⟨r,j⟩:=c;refine d ?_;refine wpAny_bind (wpAny_callSpecial?_slot (name:=Str.ofString "__next__") b.typeIs PySem.F.slot_tuple_iterator_next
  (wpAny_call_entry PySem.F.slot_tuple_iterator_next b.typeIs PySem.F.entry_tuple_iterator_next ?_ (PySem.F.args_tuple_iterator_next_1 _)))
 show wpAny _ _ (field (.ref it) 0>>=_) _ _ s;refine wpAny_bind (wpAny_field f g (x:=.ref t) rfl ?_);refine aB (if_neg (show¬((Value.ref t==Value.none)=true) from Bool.false_ne_true)) (wpAny_bind (wpAny_field f g (x:=.int i 0) rfl ?_));refine wpAny_bind (wpAny_seqItems h j ?_);simp only[Int.toNat_natCast,n];refine wpAny_bind (wpAny_rule (wpAny_bind (wpAny_setField f g (by simp) ?_)));refine wpAny_bind (wpAny_bind (wpAny_newObj_type ?_ (by size_fits)));refine wpAny_bind (m:=firstArgMember _ _) (wpAny_of_eq (a:=Value.none) (by first|rfl|(simp only[firstArgMember];rfl)) ?_);refine wpAny_newObj_type ?_ (by size_fits);refine wpAny_bind (wpAny_handled ?_);first|rw[show A.in1.handled=none from k]|rw[k]
 refine wpAny_bind (wpAny_pure (wpAny_throw ?_));exact p _ _ (((Heap.SameBut.update ..).extBut.push _).push _) ⟨_,Heap.get?_push_size _ rfl,rfl⟩
structure BS(z TI TO i1 i2 l1 l2:Addr)(xs ys:Array Value)(f0:Value)(k:Nat)(h:Heap):Prop where
 z:IsZip h z TI TO f0
 TI:IsPair h TI (.ref i1) (.ref i2)
 TO:∃a b,IsPair h TO a b
 h1:h.IsTupleIter i1 l1 k
 h2:h.IsTupleIter i2 l2 k
 l1:h.IsTuple l1 xs
 l2:h.IsTuple l2 ys
theorem bf{h h':Heap}{t:Addr}{xs:Array Value}(x:h.IsTuple t xs)(e:∀o,h.get? t=some o->h'.get? t=some o):h'.IsTuple t xs:=let⟨o,a,r⟩:=x;⟨o,e o a,r⟩
theorem aS{h h':Heap}{it t:Addr}{i:Nat}(x:h.IsTupleIter it t i)(e:∀o,h.get? it=some o->h'.get? it=some o):h'.IsTupleIter it t i:=let⟨o,a,r⟩:=x;⟨o,e o a,r⟩
variable{z TI TO i1 i2 l1 l2:Addr}{k:Nat}{xs ys:Array Value}
theorem wk{x y:Value}{Q:Option Value->Shared->Prop}(D:ZipApart z TI TO i1 i2 l1 l2)(Z:BS z TI TO i1 i2 l1 l2 xs ys .none k s.heap)(hx:xs[k]?=some x)(hy:ys[k]?=some y)(hQ:∀h',BS z TI TO i1 i2 l1 l2 xs ys (rawInt s.heap.objs.size) (k+1) h'->IsPair h' s.heap.objs.size x y->(∀c o,c≠z->c≠TO->c≠i1->c≠i2->s.heap.get? c=some o->h'.get? c=some o)->Q (some (.ref s.heap.objs.size)) {s with heap:=h'}):
  wpAny (model prog w) A (pyNext (.ref z)) Q E s:=by
 obtain⟨j,m,⟨a,b,R⟩,h1,h2,p,q⟩:=Z;have X:s.TypeIs (.ref z) "zip":=⟨_,j,rfl⟩;refine wpAny_bind (wpAny_attempt (wpAny_callSpecial?_slot (name:=Str.ofString "__next__") X PySem.F.slot_zip_next
  (wpAny_call_entry PySem.F.slot_zip_next X PySem.F.entry_zip_next ?_ (PySem.F.args_zip_next_1 _))))
 show wpAny _ _ (field (.ref z) 2>>=_) _ _ _;refine wpAny_bind (wpAny_field j rfl (x:=.bool false) rfl ?_);refine wpAny_bind (wpAny_field j rfl (x:=.ref TI) rfl ?_);refine wpAny_bind (wpAny_seqItems m rfl ?_);refine wpAny_bind (wpAny_bind (wpAny_field j rfl (x:=.none) rfl (wpAny_pure ?_)));refine wpAny_bind (wpAny_rule ?_);refine wpAny_bind (wpAny_field j rfl (x:=.ref TO) rfl ?_);refine wpAny_bind (wpAny_setField_rec j (by simp) λe1 S s1=>?_);replace S:IsZip e1 z TI TO .ellipsis:=S;refine wpAny_bind ?_;simp only[List.zipIdx_cons,List.zipIdx_nil,List.forIn_cons,List.forIn_nil];refine wpAny_bind (wpAny_bind (wpAny_onRaise ?_));have l:∀c o,c≠z->s.heap.get? c=some o->e1.get? c=some o:=λc o n e=>s1.extBut c o n e;refine wpAny_bind (l3 (aS h1 λo e=>l _ o D.i1z e) (bf p λo e=>l _ o D.l1z e) hx λr HD s2=>wpAny_pure ?_);replace s2:Heap.SameBut i1 e1 r:=s2;have t:∀c o,c≠i1->e1.get? c=some o->r.get? c=some o:=λc o n e=>s2.extBut c o n e;have u:IsPair r TO a b:=t _ _ D.TOi1 (l _ _ D.TOz R);refine wpAny_bind (wpAny_seqItems u rfl ?_);refine wpAny_bind (wpAny_updateSeq_pair u λv h H=>?_);replace h:IsPair v TO x b:=h;replace H:Heap.SameBut TO r v:=H;have B:∀c o,c≠TO->r.get? c=some o->v.get? c=some o:=λc o n e=>H.extBut c o n e;refine wpAny_bind (wpAny_letGo (wpAny_pure ?_));refine wpAny_bind (wpAny_bind (wpAny_onRaise ?_));refine wpAny_bind (l3 (aS h2 λo e=>B _ o D.TOi2.symm (t _ o D.i12.symm (l _ o D.i2z e))) (bf q λo e=>B _ o D.l2TO (t _ o D.l2i1 (l _ o D.l2z e))) hy λC HE I=>wpAny_pure ?_);replace I:Heap.SameBut i2 v C:=I;have J:∀c o,c≠i2->v.get? c=some o->C.get? c=some o:=λc o n e=>I.extBut c o n e;have F:IsPair C TO x b:=J _ _ D.TOi2 h;refine wpAny_bind (wpAny_seqItems F rfl ?_);refine wpAny_bind (wpAny_updateSeq_pair F λd f K=>?_);replace f:IsPair d TO x y:=f;replace K:Heap.SameBut TO C d:=K;have L:∀c o,c≠TO->C.get? c=some o->d.get? c=some o:=λc o n e=>K.extBut c o n e;refine wpAny_bind (wpAny_letGo (wpAny_pure (wpAny_pure ?_)));refine wpAny_bind (wpAny_seqItems f rfl ?_);refine wpAny_bind (wpAny_newTuple ?_);have Y:d.objs.size=s.heap.objs.size:=by rw[K.1,I.1,H.1,s2.1,s1.1]
 have g:∀c o,c≠z->c≠TO->c≠i1->c≠i2->s.heap.get? c=some o->d.get? c=some o:=λc o M N T U e=>L _ _ N (J _ _ U (B _ _ N (t _ _ T (l _ _ M e))));have z5:IsZip d z TI TO .ellipsis:=L _ _ D.TOz.symm (J _ _ D.i2z.symm (B _ _ D.TOz.symm (t _ _ D.i1z.symm S)));have HF:d.IsTupleIter i1 l1 (k+1):=aS HD λo e=>L _ o D.TOi1.symm (J _ o D.i12 (B _ o D.TOi1.symm e));have V:d.IsTupleIter i2 l2 (k+1):=aS HE λo e=>L _ o D.TOi2.symm e;have G:z<d.objs.size:=Heap.lt_size z5;refine wpAny_bind ?_;have z6:IsZip (d.push {cls:=.type "tuple",data:=.seq #[x,y]}) z TI TO .ellipsis:=Heap.get?_push_of_some _ z5;refine wpAny_bind (wpAny_setField_rec z6 (by simp) λe7 W s7=>?_);replace W:IsZip e7 z TI TO (rawInt d.objs.size):=W;refine wpAny_setField_rec W (by simp) λO P s8=>?_;replace P:IsZip O z TI TO (rawInt d.objs.size):=P;have i:∀c o,c≠z->d.get? c=some o->O.get? c=some o:=λc o n e=>s8.extBut _ _ n (s7.extBut _ _ n (Heap.get?_push_of_some _ e));have T8:IsPair O d.objs.size x y:=s8.extBut _ _ (Nat.ne_of_gt G) (s7.extBut _ _ (Nat.ne_of_gt G) (Heap.get?_push_size _ rfl));rw[Y]at P T8;refine wpAny_pure ⟨_,rfl,?_⟩;show wpAny _ _ _ _ _ _;have fin:=hQ O ⟨P,i _ _ D.TIz (g _ _ D.TIz D.TITO D.TIi1 D.TIi2 m),⟨_,_,i _ _ D.TOz f⟩,aS HF λo e=>i _ o D.i1z e,aS V λo e=>i _ o D.i2z e,
  bf p λo e=>i _ o D.l1z (g _ o D.l1z D.l1TO D.l1i1 D.l1i2 e),bf q λo e=>i _ o D.l2z (g _ o D.l2z D.l2TO D.l2i1 D.l2i2 e)⟩ T8 λc o M N T U e=>i _ _ M (g _ _ M N T U e)
 rw[<-Y]at fin;exact wpAny_pure fin
end
section
variable{prog:Program}{w:World}{A:Around}{E:Value->Shared->Prop}{s:Shared}{z TI TO i1 i2 l1 l2:Addr}{k:Nat}{xs ys:Array Value}
theorem zc{Q:Option Value->Shared->Prop}(B:A.handled=none)(D:ZipApart z TI TO i1 i2 l1 l2)(Z:BS z TI TO i1 i2 l1 l2 xs ys .none k s.heap)(C:xs[k]?=none)(F:∀h',(∀c o,c≠z->c≠TO->c≠i1->c≠i2->s.heap.get? c=some o->h'.get? c=some o)->Q none {s with heap:=h'}):
  wpAny (model prog w) A (pyNext (.ref z)) Q E s:=by
 obtain⟨f,h,⟨a,b,G⟩,H,N,i,I⟩:=Z;have p:s.TypeIs (.ref z) "zip":=⟨_,f,rfl⟩;refine wpAny_bind (wpAny_attempt (wpAny_callSpecial?_slot (name:=Str.ofString "__next__") p PySem.F.slot_zip_next
  (wpAny_call_entry PySem.F.slot_zip_next p PySem.F.entry_zip_next ?_ (PySem.F.args_zip_next_1 _))))
 show wpAny _ _ (field (.ref z) 2>>=_) _ _ _;refine wpAny_bind (wpAny_field f rfl (x:=.bool false) rfl ?_);refine wpAny_bind (wpAny_field f rfl (x:=.ref TI) rfl ?_);refine wpAny_bind (wpAny_seqItems h rfl ?_);refine wpAny_bind (wpAny_bind (wpAny_field f rfl (x:=.none) rfl (wpAny_pure ?_)));refine wpAny_bind (wpAny_rule ?_);refine wpAny_bind (wpAny_field f rfl (x:=.ref TO) rfl ?_);refine wpAny_bind (wpAny_setField_rec f (by simp) λe1 j s1=>?_);replace j:IsZip e1 z TI TO .ellipsis:=j;refine wpAny_bind (wpAny_bind (wpAny_bind (wpAny_onRaise ?_)));have l:∀c o,c≠z->s.heap.get? c=some o->e1.get? c=some o:=λc o n e=>s1.extBut c o n e;refine wpAny_bind (vU B (aS H λo e=>l _ o D.i1z e) (bf i λo e=>l _ o D.l1z e) C λJ ex s2 K=>?_);refine aK K λr t=>?_;have d:=t.1;have g:=t.2;have u:IsZip J z TI TO .ellipsis:=s2 _ _ D.i1z.symm j;have m:ex≠z:=λq=>by subst q;rw[u]at d;obtain rfl:=Option.some.inj d;simp at g
 refine wpAny_setField_rec u (by simp) λL _ v=>wpAny_bind (wpAny_isInstance (T:="StopIteration") (b:=true) ⟨r,((v.extBut _ _ m d:L.get? ex=some r)),g⟩ isSubtype_stop ?_);exact wpAny_pure (F _ λc o y O M P e=>v.extBut _ _ y (s2 _ _ M (l _ _ y e)))
noncomputable abbrev FC(h:Heap)(a:Addr):Heap:=h.push {cls:=.type "tuple_iterator",data:=.fields #[.ref a,.int 0 0]}
noncomputable abbrev FE(h:Heap)(a b:Addr):Heap:=(FC h a).push {cls:=.type "tuple_iterator",data:=.fields #[.ref b,.int 0 0]}
noncomputable abbrev FF(h:Heap)(a b:Addr):Heap:=(FE h a b).push {cls:=.type "tuple",data:=.seq #[.ref h.objs.size,.ref (FC h a).objs.size]}
noncomputable abbrev F6(h:Heap)(a b:Addr):Heap:=(FF h a b).push {cls:=.type "tuple",data:=.seq #[.none,.none]}
noncomputable abbrev BK(h:Heap)(a b:Addr):Heap:=(F6 h a b).push {cls:=.type "zip",data:=.fields #[.none,.bool false,.bool false,.ref (FE h a b).objs.size,.ref (FF h a b).objs.size]}
theorem tE(a b:Addr)(xs ys:Array Value):
  Meets (Builtin.«zip.__new__» ⟨[.type "zip",.ref a,.ref b],[]⟩) (λ_ R s=>s.heap.IsTuple a xs/\s.heap.IsTuple b ys/\R (.ok (.ret (.ref (F6 s.heap a b).objs.size))) {s with heap:=BK s.heap a b}):=
 .of_wp λprog w A R s h=>by
  obtain⟨i,g,d,tk,j⟩:=s;refine eY h λc e h=>?_;have l:=PySem.sub_zip;have f:Heap.IsTuple (Shared.heap ⟨i.push {cls:=.type "tuple_iterator",data:=.fields #[.ref a,.int 0 0]},g,d,tk,j⟩) b ys:=Heap.IsTuple.push e _
  wp_walk using wpAny_pyIter_tuple ((c:Heap.IsTuple (Shared.heap ⟨i,g,d,tk,j⟩) a xs)),wpAny_pyIter_tuple f
  exact⟨_,rfl,h⟩
theorem uW{a d:Addr}{Q:Value->Shared->Prop}(g:s.heap.IsTuple a xs)(i:s.heap.IsTuple d ys)(h:∀h',BS (s.heap.objs.size+4) (s.heap.objs.size+2) (s.heap.objs.size+3) s.heap.objs.size (s.heap.objs.size+1) a d xs ys .none 0 h'->(∀b o,s.heap.get? b=some o->h'.get? b=some o)->h'.objs.size=s.heap.objs.size+5->Q (.ref (s.heap.objs.size+4)) {s with heap:=h'}):
  wpAny (model prog w) A (call (.type "zip") [.ref a,.ref d]) Q E s:=by
 refine callType_new PySem.F.called_zip rfl (PySem.F.typeCall_zip_2 _ _) (PySem.F.newCall_zip_2 _ _) (λj=>PySem.F.args_object_init_3 j _ _) PySem.F.entry_zip_new (tE a d xs ys) ⟨g,i,?_⟩;have l:(FC s.heap a).objs.size=s.heap.objs.size+1:=Heap.size_push ..;have m:(FE s.heap a d).objs.size=s.heap.objs.size+2:=by rw[Heap.size_push,l]
 have n:(FF s.heap a d).objs.size=s.heap.objs.size+3:=by rw[Heap.size_push,m]
 have p:(F6 s.heap a d).objs.size=s.heap.objs.size+4:=by rw[Heap.size_push,n]
 have f:∀c o,s.heap.get? c=some o->(BK s.heap a d).get? c=some o:=λc o x=>
  Heap.get?_push_of_some _ (Heap.get?_push_of_some _ (Heap.get?_push_of_some _ (Heap.get?_push_of_some _ (Heap.get?_push_of_some _ x))))
 have q:(BK s.heap a d).get? (F6 s.heap a d).objs.size=some {cls:=.type "zip",data:=.fields #[.none,.bool false,.bool false,.ref (FE s.heap a d).objs.size,.ref (FF s.heap a d).objs.size]}:=Heap.get?_push_size _ rfl;have r:(BK s.heap a d).get? (FF s.heap a d).objs.size=some {cls:=.type "tuple",data:=.seq #[.none,.none]}:=Heap.get?_push_of_some _ (Heap.get?_push_size _ rfl);have t:(BK s.heap a d).get? (FE s.heap a d).objs.size=some {cls:=.type "tuple",data:=.seq #[.ref s.heap.objs.size,.ref (FC s.heap a).objs.size]}:=Heap.get?_push_of_some _ (Heap.get?_push_of_some _ (Heap.get?_push_size _ rfl));have u:(BK s.heap a d).get? (FC s.heap a).objs.size=some {cls:=.type "tuple_iterator",data:=.fields #[.ref d,.int 0 0]}:=Heap.get?_push_of_some _ (Heap.get?_push_of_some _ (Heap.get?_push_of_some _ (Heap.get?_push_size _ rfl)));have v:(BK s.heap a d).get? s.heap.objs.size=some {cls:=.type "tuple_iterator",data:=.fields #[.ref a,.int 0 0]}:=Heap.get?_push_of_some _ (Heap.get?_push_of_some _ (Heap.get?_push_of_some _ (Heap.get?_push_of_some _ (Heap.get?_push_size _ rfl))));rw[m,n,p]at q;rw[l,m]at t;rw[n]at r;rw[l]at u;exact aB p ⟨⟨_,q,rfl⟩,h _ ⟨q,t,⟨_,_,r⟩,⟨_,v,rfl,rfl⟩,⟨_,u,rfl,rfl⟩,bf g λo e=>f _ o e,bf i λo e=>f _ o e⟩ f ((by rw[Heap.size_push,p]:(BK s.heap a d).objs.size=s.heap.objs.size+5))⟩
theorem tF(F:A.handled=none)(D:ZipApart z TI TO i1 i2 l1 l2)(p:xs.size=ys.size):
  WalksU prog w A z [z,TI,TO,i1,i2,l1,l2] [z,TO,i1,i2] xs.size (λi g=>∃x y,xs[i]?=some x/\ys[i]?=some y/\g=#[x,y]) (λi h=>BS z TI TO i1 i2 l1 l2 xs ys .none i h)
   (λi T h=>BS z TI TO i1 i2 l1 l2 xs ys (rawInt T) (i+1) h/\T≠z/\T≠TO/\T≠i1/\T≠i2)where
 sub:=λc hc=>by simp at hc⊢;rcases hc with rfl|rfl|rfl|rfl<;>simp
 frame:=λi h h' Z d=>⟨d z (by simp) _ Z.z,d TI (by simp) _ Z.TI,(let⟨a,b,e⟩:=Z.TO;⟨a,b,d TO (by simp) _ e⟩),aS Z.h1 λo e=>d i1 (by simp) o e,aS Z.h2 λo e=>d i2 (by simp) o e,
  bf Z.l1 λo e=>d l1 (by simp) o e,bf Z.l2 λo e=>d l2 (by simp) o e⟩
 item:=λi s Q E q Z j=>by
  have v:i<ys.size:=p▸q;refine wk D Z (Array.getElem?_eq_getElem q) (Array.getElem?_eq_getElem v) λh' G H d=>?_;have m:∀{c o},s.heap.get? c=some o->s.heap.objs.size≠c:=λe=>Nat.ne_of_gt (Heap.lt_size e);refine j s.heap.objs.size #[xs[i],ys[i]] h' s.toks ⟨_,_,Array.getElem?_eq_getElem q,Array.getElem?_eq_getElem v,rfl⟩ ⟨_,H,rfl,_,rfl⟩ ⟨G,m Z.z,?_,?_,?_⟩ λc o hc e=>d c o (λx=>hc (by simp[x])) (λx=>hc (by simp[x])) (λx=>hc (by simp[x])) (λx=>hc (by simp[x])) e
  ·exact bd (Z.TO) λa b e=>m e
  ·refine aK (Z.h1) λ_ r=>?_;obtain⟨e,_⟩:=r;exact m e
  ·refine aK (Z.h2) λ_ r=>?_;obtain⟨e,_⟩:=r;exact m e
 go:=λB M pos i T s Q E t j=>by obtain⟨Z,_⟩:=t;refine wpAny_letOwnedTupleGo_zip Z.z λh' u l=>j h' ?_ λc o hc e=>l.extBut _ _ (λx=>hc (by simp[x])) e;have f:∀c o,c≠z->s.heap.get? c=some o->h'.get? c=some o:=λc o n e=>l.extBut c o n e;exact⟨u,f _ _ D.TIz Z.TI,(let⟨a,b,e⟩:=Z.TO;⟨a,b,f _ _ D.TOz e⟩),aS Z.h1 λo e=>f _ o D.i1z e,aS Z.h2 λo e=>f _ o D.i2z e,bf Z.l1 λo e=>f _ o D.l1z e,bf Z.l2 λo e=>f _ o D.l2z e⟩
 apart:=λi T h t C=>by
  obtain⟨_,I,J,K,L⟩:=t;simp at C;rcases C with rfl|rfl|rfl|rfl
  ·exact I rfl
  ·exact J rfl
  ·exact K rfl
  ·exact L rfl
 done:=λs Q E Z j=>zc F D Z (by simp) λh' d=>j h' s.toks λc o hc e=>d c o (λx=>hc (by simp[x])) (λx=>hc (by simp[x])) (λx=>hc (by simp[x])) (λx=>hc (by simp[x])) e
 self:=λi s Q E Z h=>wpAny_pyIter_zip Z.z h
end
end Mine
end
noncomputable section
open PySem PySem.Calls PySem.Spec PySem.W PyProof.Rows Builtin.Str
namespace Mine
section
variable{F F':Fx}{gs:List Str}{T:List FD}{n kk:Nat}{g g' g₀ g₁:G}{ρ ρ' ρ₀ ρ₁:List Addr}{s s' s₀ s₁ s₂:Shared}{σ σ':bo}{A:Around}{mg mb:Str->Option Value}{fp:List Addr}{K:Frag}{C fI fC:Addr}{B:Bs}
theorem qT{prog:Program}{w:World}:∀{vs:List Value}{ds:List PyData},vs.length=ds.length->(∀(j:Nat)(v:Value)(d:PyData),vs[j]?=some v->ds[j]?=some d->Rd prog w g v d)->aD prog w g vs ds
 |[],[],_,_=>.nil
 |v::vs,d::ds,hl,h=>.cons (h 0 v d rfl rfl) (qT (Nat.succ.inj hl) λj v d a b=>h (j+1) v d a b)
theorem FJ(gd:Gd F.B T mg mb)(I:aF F g ρ s σ)(z:F.B.P0∈F.own){more k:Array Value}{h':Heap}{t:Nat}(E:s.heap.get? F.B.P0=some {cls:=.none,data:=.fields (F.B.ps0++more)})(d:Heap.ExtBut F.B.P0 s.heap h')(l:h'.TableAt F.B.c0 F.B.P0 (F.B.ps0++more++k))(H:TriplesOk (F.B.ps0++more++k).toList):
  aF F g ρ {s with heap:=h',toks:=t} σ/\bw F g ρ s g ρ {s with heap:=h',toks:=t}:=by
 refine aG λp=>cx (gd.tabT) λu J=>bd u λL w f=>?_;obtain⟨r,D,M,N⟩:=f;have j:OldK F.B.h₀ h':=I.old.step_table gd.tabT ((⟨⟨L,w,I.stands gd.toGd0 (λq=>by rw[q]at r;rw[J]at r;obtain rfl:=Option.some.inj r;cases D) r,D,M,N⟩,E⟩:s.heap.TableAt F.B.c0 F.B.P0 (F.B.ps0++more))) l d (Ne.symm gd.csP);have y:∀b,F.B.h₀.get? b=none->b≠F.B.P0:=λb h q=>F.B.hP0 (q▸h);have O:∀b o,g b=some o->b≠F.B.P0:=λb o e q=>by rw[q,I.so.gno _ z]at e;exact aN e
 have P:∀b∈ρ,b≠F.B.P0:=λb a=>y b (I.so.rhi b a);have Q:∀x∈F.env.cells,x.2≠F.B.P0:=λx d=>y _ (I.so.chi x d).1;have lv:∀b,s.heap.get? b≠none->h'.get? b≠none:=λb h=>by
  by_cases a:b=F.B.P0
  ·rw[a];exact((by rw[l.2];exact λq=>(iu q):h'.get? F.B.P0≠none))
  ·cases q:s.heap.get? b with
   |none=>exact absurd q h
   |some o=>rw[d b o a q];exact λq=>nomatch q
 refine p ?_;refine⟨⟨⟨λb o e=>d b o (O b o e) (I.so.sub b o e),I.so.base,I.so.gno,I.so.rno,I.so.rhi,I.so.ohi,I.so.lown,I.so.lhi,I.so.chi,I.so.cap,I.so.rn,λb a=>lv b (I.so.olt b a),λb a=>lv b (I.so.rlt b a),λx d=>lv _ (I.so.clt x d)⟩,
  j,I.bare,⟨more++k,by rw[l.2,Array.append_assoc],by rw[<-Array.append_assoc];exact H⟩,⟨I.fr.len,?_,?_⟩,I.stl,λi b c a hc=>(I.st i b c a hc).mono (λ_ _ e=>e) id λo e=>d b o (P b (List.mem_of_getElem? a)) e⟩,
  List.prefix_refl _,λ_ h=>.inl h,⟨λ_ _ e=>e,λb o a e=>d b o (λq=>a (q▸List.mem_append_left _ z)) e,λ_ _ e=>.inl e,λ_=>j,rfl,⟨Nat.le_refl _,λ_ _=>rfl⟩,id⟩⟩
 ·refine aK (I.fr.loc) λm f=>?_;have R:=f.1;exact⟨m,dF R λo e=>d _ o (y _ I.so.lhi) e,(f.2)⟩
 ·intro i x b v S U;exact aG λp=>bd (I.fr.cel i x b v S U) λc V f=>ko f λe1 W X Y=>aK W λo f=>cx f λZ hd=>p (j7 c V ⟨e1,⟨o,d c o (Q _ (mem_of_lookup e1)) Z,hd⟩,X,Y⟩)
theorem z4{pos:Pos}{q:Str}{scope:Scope}{Q:Value->Shared->Prop}(m:Wf F gs)(gd:Gd F.B T mg mb)(D:("zip":Str)∈gs)(I:aF F g ρ s σ)(h:∀code h' t,aF F g ρ {s with heap:=h',toks:=t} σ->bw F g ρ s g ρ {s with heap:=h',toks:=t}->Heap.ExtBut F.B.P0 s.heap h'->Q code {s with heap:=h',toks:=t}):
  wpAny (model F.B.prog F.B.w) A (genexprCode F.env pos q scope) Q E0 s:=by
 refine aG λp=>?_;obtain⟨more,r,u⟩:=I.tab;refine cx (gd.tabT) λv J=>bd v λL w a=>?_;obtain⟨l,E,M,N⟩:=a;have d:F.B.c0≠F.B.P0:=λq=>by rw[q]at l;rw[J]at l;obtain rfl:=Option.some.inj l;cases E
 refine c8 (gd.tabC) λo vs e O a=>c8 a λb P x f a=>?_;obtain⟨R,op,S,U,V,W,X,Y,Z,a8,a9,aa,y⟩:=a;have i:s.heap.IsCode F.B.c0 F.B.P0 (F.B.ps0++more):=⟨o,vs,e,O,b,P,x,f,R,_,I.stands gd.toGd0 d S,U,V,W,X,Y,Z,r,rfl,u,y⟩;refine p ?_;cases j:codeAmong pos (F.B.ps0++more).toList with
 |some c'=>exact wpAny_genexprCode_hit (m.code D) i j (h c' s.heap s.toks I bw.refl (Heap.ExtBut.refl _ _))
 |none=>
  refine wpAny_genexprCodeX (m.code D) i ((⟨⟨L,w,I.stands gd.toGd0 d l,E,M,N⟩,r⟩:s.heap.TableAt F.B.c0 F.B.P0 (F.B.ps0++more))) j λc' h' tk H _ _ k _ c _=>?_;have hT:TriplesOk (F.B.ps0++more++#[rawInt pos.line,rawInt pos.col,.ref c']).toList:=by refine c8 k λ_ _ _ _ a=>c8 a λ_ _ _ _ a=>bd a λ_ _ a=>?_;obtain⟨_,_,_,_,_,_,_,_,_,z,_⟩:=a;exact z
  exact cx (FJ (t:=tk) gd I m.P0 r H c hT) λI2 S2=>h _ h' tk I2 S2 H
theorem ki{Q:Addr->Shared->Prop}(b:Wf F gs)(gd:Gd F.B T mg mb)(I:aF F g ρ s σ)(h:Q builtinsNs s):wpAny (model F.B.prog F.B.w) A (builtinsFor F.env.globals F.env.builtins) Q E0 s:=by exact aG λa=>bd (gd.bmod) λm o c=>DC c λd e f i j k l=>a (wpAny_builtinsFor (b.globals▸I.ns gd.toGd0 gd.mgP gd.mgN) d e (I.stands gd.toGd0 f i) j k l h)
end
section
variable{F F':Fx}{gs:List Str}{T:List FD}{n kk:Nat}{g g' g₀ g₁:G}{ρ ρ' ρ₀ ρ₁:List Addr}{s s' s₀ s₁ s₂:Shared}{σ σ':bo}{A:Around}{mg mb:Str->Option Value}{fp:List Addr}{K:Frag}{C fI fC:Addr}{B:Bs}
theorem j9(m:Nat):passing (λ_=>true) m 0=List.range m:=by unfold passing;refine aB (List.drop_zero) ?_;rw[List.filter_eq_self];intro _ _;rfl
theorem qm{vs:List Value}{is:List Int}(h:IntsAre vs is)(i:Nat)(v:Value)(b:vs[i]?=some v):∃x t,v=.int x t/\is[i]?=some x:=by refine bd (h.at i v b) λx t a=>?_;have e1:=a.1;exact j7 x t ⟨e1,(a.2)⟩
theorem sD{b:CS}{x y:bl}{s:Shared}{m:Str->Option Value}{c d:Int}{t u:Tok}{f:Addr}{code:Value}{bi:Addr}{j k l:Pos}{env:Env}{prog:Program}{w:World}{A:Around}{E:Value->Shared->Prop}(h:b.scope.kind=.function)(o:b.scope.names.lookup x.name=some .local)(p:b.scope.names.lookup y.name=some .local)(q:(x.name==("__debug__":Str))=false)(r:(y.name==("__debug__":Str))=false)(i:s.heap.Ns f m)(z:m x.name=some (.int c t))(D:m y.name=some (.int d u)):
  wpAny (model prog w) A (eval (.BinOp (.Name x.name k) .Add (.Name y.name l) j) (genEnv b.scope [] f code bi env)) (λv a=>(∃t,v=.int (c+d) t)/\Keeps s a) E s:=by
 refine wpAny_BinOp (wpAny_Name (wpAny_loadName_local h o i z (wpAny_Name (wpAny_loadName_local h p i D (add_int ⟨⟨_,rfl⟩,s.heap,_,rfl,λ_ _ e=>e⟩)) r)) q)
theorem CU(I:aF F g ρ s σ){b:Addr}(h:s.heap.get? b=none):b∉F.own/\b∉ρ/\(∀x∈F.env.cells,b≠x.2)/\F.B.h₀.get? b=none/\g b=none:=
 ⟨λa=>I.so.olt b a h,λa=>I.so.rlt b a h,λx c q=>I.so.clt x c (q▸h),I.hi h,I.none_g h⟩
theorem z7{d:Shared}{t:Heap}{tk:Nat}{a:GenState}{j:List Addr}(I:aF F g ρ s σ)(v:∀b o,s.heap.get? b=some o->t.get? b=some o)(m:a.bare=true)(c:Moved j (GenOnlyQ s.gens.size) {s with heap:=t,gens:=s.gens.push a,toks:=tk} d)(p:∀b∈j,b∉F.own/\b∉ρ/\(∀x∈F.env.cells,b≠x.2)/\F.B.h₀.get? b=none/\g b=none):
  aF F g ρ d σ/\St F.B j g g s d:=by
 have kp:∀b o,b∉j->s.heap.get? b=some o->d.heap.get? b=some o:=λb o m e=>c.heap b o m (v b o e);have f:AllBare s.gens->AllBare (s.gens.push a):=λh y w=>by
  rcases Array.mem_push.mp w with z|rfl
  ·exact h y z
  ·exact m
 have r:s.gens.size<=d.gens.size/\∀i,i<s.gens.size->d.gens[i]?=s.gens[i]?:=by
  have u:∀i,i<s.gens.size->(s.gens.push a)[i]?=s.gens[i]?:=λi l=>by refine aB (Array.getElem?_push_lt l) ?_;exact aB (Array.getElem?_eq_getElem l) rfl
  have q:=c.gens
  dsimp only at q
  rcases q with q|⟨⟨D,E⟩,_⟩
  ·rw[q];exact⟨by rw[Array.size_push];exact Nat.le_succ _,u⟩
  ·refine⟨by rw[D,Array.size_push];exact Nat.le_succ _,λi l=>?_⟩;exact Eq.trans (E i (Nat.ne_of_lt l)) (u i l)
 have st:St F.B j g g s d:=⟨λ_ _ e=>e,kp,λ_ _ e=>.inl e,λk=>gE k λb o H e=>kp b o (λc=>H (p b c).2.2.2.1) e,c.os,r,λh=>c.gens.bare (f h)⟩;exact⟨I.growW st p λb o e=>kp b o (λc=>by rw[(p b c).2.2.2.2]at e;cases e) (I.so.sub b o e),st⟩
theorem za(gd:Gd F.B T mg mb)(wf:Wf F gs)(H:cY F gs T n):FN F gs T n:=by
 intro A g ρ s σ a b S t xs ys is js st ac U ok I h1 L h3 h4 hc;refine aG λf=>?_;have ae:=ok.less (Nat.le_succ n);change(_&&_)=true at U;simp only[Bool.and_eq_true,List.contains_iff_mem]at U;obtain⟨⟨⟨⟨k1,k2⟩,k3⟩,k4⟩,k5⟩:=U;refine f (bd (sY k5) λx y l=>?_)
 ·have hL:=l.1;have k5:=l.2;change(_&&_)=true at k5;simp only[Bool.and_eq_true,beq_iff_eq,Bool.not_eq_true',List.all_eq_true,bne_iff_ne]at k5;refine aG λf=>?_;obtain⟨⟨⟨⟨⟨⟨⟨⟨g1,g2⟩,g3⟩,g4⟩,g5⟩,g6⟩,g7⟩,g8⟩,g9⟩:=k5;have n0:nm S.L 0=x.name:=by rw[hL];rfl
  have n1:nm S.L 1=y.name:=by rw[hL];rfl
  refine f ?_;rw[y0];refine aB n0 (aB n1 ?_);have eT:g0 S.L ((t.c 1).c 1) (.tup [0,1])=.Tuple [.Name x.name (((t.c 1).c 1).c 0).p,.Name y.name (((t.c 1).c 1).c 1).p] ((t.c 1).c 1).k ((t.c 1).c 1).p:=by show Expr.Tuple (fB S.L ((t.c 1).c 1) [0,1] 0) _ _=_;have e:fB S.L ((t.c 1).c 1) [0,1] 0=[.Name (nm S.L 0) (((t.c 1).c 1).c 0).p,.Name (nm S.L 1) (((t.c 1).c 1).c 1).p]:=rfl;refine aB e (aB n0 ?_);exact aB n1 rfl
  refine aB eT (wpAny_Call_NameR (dr (v:=.type "tuple") wf gd.toGd0 I k1 (by decide) ?_));refine PySem.callWith_type1 (wpAny_GeneratorExp_walksQT ok.handled g2 (closureFor_none λz hz=>by rw[g3 z hz];decide) (λz hz=>by rw[g3 z hz];decide) g4 g5 g6 g7 g1 ((by have:=ok.depth;lia:A.depth<recursionLimit)) ?_ (λ_=>rfl));refine wpAny_Call_NameR (dr (v:=.type "zip") wf gd.toGd0 I k2 (by decide) ?_);refine PyProof.Rows.callWith_type1 (args_cons (wpAny_mono (H A g ρ s σ a _ _ k3 ae I h1) (λva s1 hp=>?_) λ_ _ e=>e) (aW ..)) (aW ..) (by rw[aW];rfl);refine aC.elim hp λgA ao S1 I1 r1=>args_cons (wpAny_mono (H A gA ao s1 ⟨σ.env,st⟩ b _ _ k4 ae I1 L) (λvb s2 hp=>args_nil ?_) λ_ _ e=>e) (aW ..);refine aC.elim hp λV J S2 P r2=>?_;have X:=S2.rv r1;have af:bw F g ρ s V J s2:=S1.trans I1 S2 ⟨_,P⟩;refine X.eD λX=>r2.eD λr2=>X.eTup λta xv m1 ag rx=>r2.eTup λtb yv m2 ah ry=>?_;have ai:=P.so.sub _ _ ag;have aj:=P.so.sub _ _ ah;have ix:=(cH (B:=F.B) rx h3).1;have lx:=(cH (B:=F.B) rx h3).2;have iy:=(cH (B:=F.B) ry h4).1;have ly:=(cH (B:=F.B) ry h4).2;have Y:=rx.length;have ak:=ry.length;rw[Array.length_toList]at lx ly Y ak;have al:xv.size=yv.size:=by rw[Y,ak];exact hc.2.1
  refine uW (cj ai) (cj aj) λh' Z hk hsz=>wpAny_pyIter_zip Z.z ?_;have I3:aF F V J {s2 with heap:=h'} ⟨σ.env,ac⟩:=P.grow (St.kept' hk rfl rfl) λb o e=>hk b o (P.so.sub b o e);have S3:bw F g ρ s V J {s2 with heap:=h'}:=af.out (W:=[]) (λ_ h=>nomatch h) (St.kept' hk rfl rfl);have aa:∀{u:Shared}{gg:G}{rr:List Addr}{tt:bo},aF F gg rr u tt->u.heap.NoLimit:=λI=>by exact aK (gd.nol) λmc l=>cx l λz1 z2=>⟨mc,I.ns gd.toGd0 gd.csP z1,z2⟩
  refine⟨aa I3,z4 wf gd k2 I3 λcode h5 t5 I5 S5 w=>ki wf gd I5 ?_⟩;have r:∀i,s2.heap.get? (s2.heap.objs.size+i)=none:=λi=>by
   cases q:s2.heap.get? (s2.heap.objs.size+i)with
   |none=>rfl
   |some o=>exact absurd (Heap.lt_size q) (Nat.not_lt.mpr (Nat.le_add_right _ _))
  have nP:∀i,s2.heap.objs.size+i≠F.B.P0:=λi q=>F.B.hP0 (q▸P.hi (r i));have gP:∀c o,V c=some o->c≠F.B.P0:=λc o e q=>by rw[q,P.so.gno _ wf.P0]at e;exact aN e
  have Q:BS (s2.heap.objs.size+4) (s2.heap.objs.size+2) (s2.heap.objs.size+3) s2.heap.objs.size (s2.heap.objs.size+1) ta tb xv yv .none 0 h5:=
   ⟨w _ _ (nP 4) Z.z,w _ _ (nP 2) Z.TI,(let⟨p,q,e⟩:=Z.TO;⟨p,q,w _ _ (nP 3) e⟩),aS Z.h1 λo e=>w _ o (nP 0) e,aS Z.h2 λo e=>w _ o (nP 1) e,bf Z.l1 λo e=>w _ o (gP _ _ ag) e,bf Z.l2 λo e=>w _ o (gP _ _ ah) e⟩
  have D:ZipApart (s2.heap.objs.size+4) (s2.heap.objs.size+2) (s2.heap.objs.size+3) s2.heap.objs.size (s2.heap.objs.size+1) ta tb:=zipApart_new (Heap.lt_size ai) (Heap.lt_size aj);have E:∀c o,h5.get? c=some o->c<h5.objs.size:=λc o e=>Heap.lt_size e;refine vg (s2.heap.objs.size+4) _ _ (xv.size) ⟨_,_,_,λ_=>true,λi v=>∃t,v=.int (is.getD i 0+js.getD i 0) t,rfl,λA' hA=>tF hA D al,λi as hv=>?_,Q,λc hc=>?_,aa I5,?_,λau av=>⟨λA' E' i p q u m hA hP hn ha M ap=>?_,λA' E' i p q u m hA hP aw hn ha M ap=>?_⟩,λad h6 tk ax ab am N aq W6 G6=>?_⟩
  ·exact bd hv λp q l=>eY l λ_ _ e=>j7 p q (e)
  ·simp only[List.mem_cons,List.not_mem_nil,or_false]at hc;rcases hc with rfl|rfl|rfl|rfl|rfl|rfl|rfl
   ·exact E _ _ Q.z
   ·exact E _ _ Q.TI
   ·exact bd (Q.TO) λp q e=>E _ _ e
   ·exact aK (Q.h1) λ_ l=>cx l λe _=>E _ _ e
   ·exact aK (Q.h2) λ_ l=>cx l λe _=>E _ _ e
   ·exact aK (Q.l1) λ_ l=>cx l λe _=>E _ _ e
   ·refine aG λf=>aK (Q.l2) λ_ l=>?_;obtain⟨e,_⟩:=l;exact f (E _ _ e)
  ·have O:cStatics<s2.heap.objs.size:=by refine aK (aa P) λmc l=>?_;obtain⟨z1,_⟩:=l;exact z1.lt
   intro hm;simp only[List.mem_cons,List.not_mem_nil,or_false]at hm;rcases hm with h|h|h|h<;>rw[h]at O
   ·exact Nat.not_lt.mpr (Nat.le_add_right _ _) O
   ·exact Nat.not_lt.mpr (Nat.le_add_right _ _) O
   ·exact Nat.lt_irrefl _ O
   ·exact Nat.not_lt.mpr (Nat.le_add_right _ _) O
  ·exact wpAny_tests_nil ⟨rfl,u.heap,u.toks,rfl,λ_ _ e=>e⟩
  ·refine aG λf=>?_;obtain⟨p',q',e1,e2,e3⟩:=hP;obtain⟨rfl,rfl⟩:=((by simpa using e3:p=p'/\q=q'));refine f ?_;rw[<-Array.getElem?_toList]at e1 e2;refine aG λf=>bd (qm ix i p e1) λvi ti l=>?_;obtain⟨rfl,f1⟩:=l;refine bd (qm iy i q e2) λvj tj l=>?_;obtain⟨rfl,f2⟩:=l;refine f (aB (List.getD_eq_getElem?_getD) ?_);refine aB (List.getD_eq_getElem?_getD) ?_;refine aB f1 (aB f2 ?_);exact sD g1 g5 g6 (by simpa using g8) (by simpa using g9) hn ha M
  ·have an:(passing (λ_=>true) xv.size 0).length=xv.size:=by rw[j9,List.length_range]
   refine call_tuple_gen (WalksS.in4_3 W6) (λi u hu=>hu.1.typeIs) G6 (λc hc=>?_) (.head _) (λs7 acc hm R=>?_) (by rw[an,Y];have:sizeLine=2^24:=rfl;lia)
   ·show c<h6.objs.size;rcases List.mem_cons.mp hc with rfl|hc
    ·exact aB N (Nat.lt_succ_self _)
    ·rcases List.mem_cons.mp hc with rfl|hc
     ·exact aB N (Nat.lt_succ_of_lt am)
     ·have:=List.mem_range.mp hc;exact aB N (Nat.lt_succ_of_lt (Nat.lt_trans this am))
   ·have hW:∀b∈[h5.objs.size,s2.heap.objs.size+4,s2.heap.objs.size+3,s2.heap.objs.size,s2.heap.objs.size+1],(b∉F.own/\b∉J/\(∀x∈F.env.cells,b≠x.2)/\F.B.h₀.get? b=none/\V b=none)/\s.heap.get? b=none:=by
     intro b M;have e2:∀i,b=s2.heap.objs.size+i->(b∉F.own/\b∉J/\(∀x∈F.env.cells,b≠x.2)/\F.B.h₀.get? b=none/\V b=none)/\s.heap.get? b=none:=λi q=>q▸⟨CU P (r i),dw af P (r i)⟩;rcases List.mem_cons.mp M with h|M
     ·exact h▸⟨CU I5 (aU _),dw (S3.trans I3 S5 ⟨_,I5⟩) I5 (aU _)⟩
     ·simp only[List.mem_cons,List.not_mem_nil,or_false]at M;refine aG λf=>?_;rcases M with h|h|h|h
      ·exact f (e2 4 h)
      ·exact f (e2 3 h)
      ·exact f (e2 0 h)
      ·exact f (e2 1 h)
    refine cx (z7 I5 (λb o e=>aq b o e) ab hm λb M=>(hW b M).1) λI7 ar=>?_;have I8:=I7.pushG {cls:=.type "tuple",data:=.seq acc} s7.toks rfl;refine bw.post (σ:=⟨σ.env,ac⟩) ((((S3.trans I3 S5 ⟨_,I5⟩).out (λb M=>(hW b M).2) ar:bw F g ρ s V J s7)).out (W:=[]) (λ_ h=>nomatch h) (St.pushG s7 {cls:=.type "tuple",data:=.seq acc} s7.toks I7.gnew)) I8 (.d (.tuple (G.put_self _ _ _) (qT ?_ λj v d h1 L=>?_)))
    ·simp only[Array.length_toList,R.1,an,List.length_map,List.length_zipWith,<-lx,<-ly,<-al,Nat.min_self]
    ·rw[Array.getElem?_toList]at h1;refine aK (R.2 j v h1) λi l=>?_;obtain⟨e1,t,rfl⟩:=l;rw[j9]at e1;obtain⟨hj,rfl⟩:=List.getElem?_eq_some_iff.mp e1;rw[List.getElem_range]at*;replace L:=Eq.trans (Eq.symm (List.getElem?_map)) L;replace L:=(List.getElem?_zipWith)▸L;refine aG λf=>?_;cases ei:is[j]?with
     |none=>refine f ?_;rw[ei]at L;exact aN L
     |some a=>
      refine f ?_;cases ej:js[j]?with
      |none=>rw[ei,ej]at L;exact aN L
      |some b=>rw[ei,ej]at L;obtain rfl:=Option.some.inj L;refine aB (List.getD_eq_getElem?_getD) ?_;refine aB (List.getD_eq_getElem?_getD) ?_;refine aB ei (aB ej ?_);exact .int _ _
end
section
variable{prog:Program}{w:World}{A:Around}{R:GenEnd}{Y:Protocol}{n:Nat}{s₀:Shared}{c:Code}{fs:List Frame}{s:Shared}{env:Env}{K:Flow->Sem Fin}{H:Value->Sem Fin}{gd:Bool->Bool}{lv:List Value->List Value}
noncomputable def mY(env:Env)(K:Flow->Sem Fin)(H:Value->Sem Fin)(gd:Bool->Bool)(lv:List Value->List Value):Result->Sem Fin:=λr=>
 ((match r with|.ok f=>(.pure f:Sem Flow)|.error e=>.raise e).onRaise λ(x:Value)=>do
    if(<-field x 1)==Value.none then unsupported "frame.own-activation:exception-without-traceback"
    setFlight x env.frame).wrap K H gd lv
noncomputable def yk(env:Env):Value->Sem Fin:=λe=>(do noteFrame e env;theTreesLotGoes e:Sem Unit).wrap (λ_=>.raise e) .raise id id
noncomputable def Cq(a:Expr)(it:Value)(body:List Stmt)(env:Env):Flow->Sem Fin:=λf=>match f with
 |.next|.cont=>.pure (.again (.forLoop a it body [] env))
 |.brk=>.pure (.done .next)
 |.ret v=>.pure (.done (.ret v))
theorem A2{a b:Expr}{body:List Stmt}{pos:Pos}(h:wpAny (model prog w) (A.over c fs) (eval b env) (λx d=>wpAny (model prog w) (A.over c fs) (pyIter x) (λit s₂=>
   ∀p,Seg (model prog w) A R Y n s₀ (.forLoop a it body [] env) ((model prog w).den (.forLoop a it body [] env)) (.ret (mY env K H gd lv) none (gd false) (lv []) c p []::fs) s₂) E0 d) E0 s)(hs:∀x,foldedSetIterable b env x=pure x:=by intro _;rfl):
  Seg (model prog w) A R Y n s₀ c ((exec (.For a b body [] pos) env).wrap K H gd lv) fs s:=by
 rw[exec_For];refine seg_bind_wrap (wpAny_standAt (seg_bind_wrap (wpAny_mono h (λx d f=>seg_bind_wrap (wpAny_of_eq (hs x) (seg_bind_wrap (wpAny_standAt (seg_bind_wrap (wpAny_holding (wpAny_mono f (λit s₂ g=>?_) λ_ _ e=>e.elim))))))) λ_ _ e=>e.elim)));exact seg_call g
theorem tl{d:Expr}{body a:List Stmt}{pos:Pos}(h:wpAny (model prog w) (A.over c fs) (isTrue d env (eval d env)) (λb s'=>if b=true then Seg (model prog w) A R Y n s₀ c ((execs body env).wrap K H gd lv) fs s' else Seg (model prog w) A R Y n s₀ c ((execs a env).wrap K H gd lv) fs s') E0 s):
  Seg (model prog w) A R Y n s₀ c ((exec (.If d body a pos) env).wrap K H gd lv) fs s:=by
 rw[exec_If];refine seg_bind_wrap (wpAny_standAt (seg_bind_wrap (wpAny_mono h (λb s' f=>?_) λ_ _ e=>e.elim)));induction b using Bool.casesOn with
 |true=>exact f
 |false=>exact f
theorem mJ(h:Seg (model prog w) A R Y n s₀ (.block [] env) (leafOf (.ok .next)) fs s):Seg (model prog w) A R Y n s₀ (.block [] env) ((model prog w).den (.block [] env)) fs s:=h
theorem kc{a:Expr}{it:Value}{body:List Stmt}(h:wpAny (model prog w) (A.over (.forLoop a it body [] env) fs) (pyNext it) (λr b=>match r with
   |none=>Seg (model prog w) A R Y n s₀ (.block [] env) (leafOf (.ok .next)) fs b
   |some v=>wpAny (model prog w) (A.over (.forLoop a it body [] env) fs) (letOwnedTupleGo a it v) (λ_ s₂=>wpAny (model prog w) (A.over (.forLoop a it body [] env) fs) (assign a env v) (λ_ d=>
     Seg (model prog w) A R Y n s₀ (.forLoop a it body [] env) ((execs body env).wrap (Cq a it body env) (yk env) id id) fs d) E0 s₂) E0 b) E0 s):
  Seg (model prog w) A R Y n s₀ (.forLoop a it body [] env) ((model prog w).den (.forLoop a it body [] env)) fs s:=by
 show Seg _ A R Y n s₀ _ ((forTurn a it body [] env).onRaise (λx=>do noteFrame x env;theTreesLotGoes x)) fs s;rw[Sem.onRaise_eq_wrap];refine seg_bind_wrap (wpAny_standAt (seg_bind_wrap (wpAny_onRaise (wpAny_mono h (λr b g=>?_) λ_ _ e=>e.elim))));induction r using Option.casesOn with
 |none=>exact seg_again rfl (mJ g)
 |some v=>
  refine seg_bind_wrap (wpAny_mono g (λ_ s₂ i=>seg_bind_wrap (wpAny_mono i (λ_ d j=>?_) λ_ _ e=>e.elim)) λ_ _ e=>e.elim);rw[Sem.bind_eq_wrap',Sem.wrap_wrap];rw[Sem.wrap_congr (execs body env) _ _ (K':=Cq a it body env) (H':=yk env) (λf=>by induction f using Flow.casesOn<;>rfl)
    (λe=>by first|exact Sem.bind_eq_wrap _ _|(show(do noteFrame e env;theTreesLotGoes e:Sem Unit).bind (λ_=>.raise e)=_;rw[Sem.bind_eq_wrap];rfl))]
  exact j
end
noncomputable def hO(q:Nat->Pos):Stmt:=.If (.Name "escape" (q 20)) [.Expr (.Yield (some (.Tuple [.Name "pos" (q 21),.BinOp (.Constant (.str "\\") 0 (q 22)) .Add (.Name "ch" (q 23)) (q 24)] 0 (q 25))) (q 26)) (q 27),.Assign [.Name "escape" (q 28)] (.Constant (.bool false) 0 (q 29)) (q 30)]
   [.If (.Compare (.Name "ch" (q 31)) [.Eq] [.Constant (.str "\\") 0 (q 32)] (q 33)) [.Assign [.Name "escape" (q 34)] (.Constant (.bool true) 0 (q 35)) (q 36)] [.Expr (.Yield (some (.Tuple [.Name "pos" (q 37),.Name "ch" (q 38)] 0 (q 39))) (q 40)) (q 41)] (q 42)] (q 43)
noncomputable def oy(q:Nat->Pos):Expr:=.Tuple [.Name "pos" (q 6),.Name "ch" (q 7)] 0 (q 8)
noncomputable def xt(q:Nat->Pos):Stmt:=.If (.Name "escape" (q 13)) [.Expr (.Yield (some (.Tuple [.Name "pos" (q 14),.Constant (.str "\\") 0 (q 15)] 0 (q 16))) (q 17)) (q 18)] [] (q 19)
noncomputable def hJ(q:Nat->Pos):List Stmt:=
  [.Assign [.Name "pos" (q 0)] (.Constant (.int 0) 0 (q 1)) (q 2),.Assign [.Name "escape" (q 3)] (.Constant (.bool false) 0 (q 4)) (q 5),
   .For (oy q) (.Call (.Name "enumerate" (q 9)) [.Name "addr" (q 10)] [] (q 11)) [hO q] [] (q 12),xt q]
structure rD(env:Env):Prop where
  kind:env.scope.kind=.function
  co:env.scope.isCoroutine=false
  kA:env.kindOf "addr"=some .local
  kP:env.kindOf "pos"=some .local
  kE:env.kindOf "escape"=some .local
  kC:env.kindOf "ch"=some .local
  kN:env.kindOf "enumerate"=some .globalImplicit
  inter:interactive env=false
  glob:env.globals=mainGlobals
  bltn:env.builtins=builtinsNs
section
variable{prog:Program}{w:World}{A:Around}{s s₀:Shared}{env:Env}{m:Str->Option Value}{x:Str}{tx:Tok}{e it Lc:Addr}{q:Nat->Pos}
noncomputable def BA(e it:Addr)(x:Str)(tx:Tok)(i:Nat)(h:Heap):Prop:=(∃a,IsEnum h e it i a)/\h.IsStrIter it (strIterType x) x tx i
noncomputable def Ct(e it:Addr)(x:Str)(tx:Tok)(i:Nat)(T:Addr)(h:Heap):Prop:=(∃y,IsEnumOut h e it ((i:Int)+1) y T)/\h.IsStrIter it (strIterType x) x tx (i+1)/\T≠e/\T≠it
noncomputable def GN(x:Str)(i:Nat)(a:Array Value):Prop:=∃t u c,x.cps[i]?=some c/\a=#[.int i t,.str ⟨#[c]⟩ u]
theorem Ew(f:A.handled=none)(a:e≠it):WalksT prog w A e [e,it] [e,it] x.cps.size (GN x) (BA e it x tx) (Ct e it x tx):=by
  have key:∀{P:Nat->Value->Prop}{St:Nat->Heap->Prop}(D:Draws prog w A.in1 it [it] x.cps.size P St),(P=λi v=>∃c u,x.cps[i]?=some c/\v=.str ⟨#[c]⟩ u)->(St=λi h=>h.IsStrIter it (strIterType x) x tx i)->WalksT prog w A e [e,it] [e,it] x.cps.size (GN x) (BA e it x tx) (Ct e it x tx):=by rintro P St D rfl rfl;have W:=WalksT.enumerateD D e a (by simpa using a) (by simp);exact⟨W.sub,W.frame,λi s Q E j st k=>W.item i s Q E j st λT b h' tk l d n o p=>k T b h' tk (let⟨t,y,⟨c,u,e1,r⟩,z⟩:=l;⟨t,u,c,e1,by rw[z,r]⟩) d n o p,W.go,W.apart,W.done,W.self⟩
  by_cases g:x.cps.all (·<128)
  · exact key (Draws.strAscii (A:=A.in1) f it x tx) rfl (by unfold strIterType;rw[if_pos g])
  · exact key (Draws.strWide (A:=A.in1) f it x tx) rfl (by unfold strIterType;rw[if_neg g])
theorem Ev{E:Value->Shared->Prop}{Q:Option Value->Shared->Prop}(b:A.handled=none)(st:BA e it x tx x.cps.size s.heap)(c:∀h',Heap.ExtBut it s.heap h'->Q none {s with heap:=h'}):wpAny (model prog w) A (pyNext (.ref e)) Q E s:=by
  refine cx st λa hs=>?_;obtain⟨g,d⟩:=a;by_cases f:x.cps.all (·<128)
  · refine wpAny_pyNext_enum_endD (Draws.strAscii (A:=A.in1) b it x tx) d ?_ c
    unfold strIterType at hs;rw[if_pos f]at hs;exact hs
  · refine wpAny_pyNext_enum_endD (Draws.strWide (A:=A.in1) b it x tx) d ?_ c
    unfold strIterType at hs;rw[if_neg f]at hs;exact hs
theorem E8{a b:Expr}{k:Nat}{f:Pos}{Q:Value->Shared->Prop}(g:starEach [a,b] env=(false,eval a env)::starEach [b] env)(i:starEach [b] env=(false,eval b env)::starEach [] env)(h:wpAny (model prog w) A (eval a env) (λc s1=>wpAny (model prog w) A (eval b env) (λd s2=>Q (.ref s2.heap.objs.size) {s2 with heap:=s2.heap.push {cls:=.type "tuple",data:=.seq #[c,d]}}) E0 s1) E0 s):
    wpAny (model prog w) A (eval (.Tuple [a,b] k f) env) Q E0 s:=
  wpAny_Tuple (wpAny_items_cons (wpAny_mono h (λc s1 j=>wpAny_items_cons (wpAny_mono j (λd s2 l=>wpAny_items_nil ⟨(show 2<=sizeLine by decide),l⟩) λ_ _ e=>e) i) λ_ _ e=>e) g)
noncomputable def ic:Bool->List Nat->Bool
  |b,[]=>b
  |true,_::r=>ic false r
  |false,c::r=>ic (decide (c=92)) r
theorem se:∀(r:List Nat)(i:Nat)(b:Bool),ic b r=true->1<=(eZ i b r).length
  |[],i,b,h=>by have h:b=true:=h;subst h;exact Nat.le_refl 1
  |c::r,i,true,h=>Nat.succ_le_succ (Nat.zero_le _)
  |c::r,i,false,h=>by
    replace h:ic (decide (c=92)) r=true:=h;show 1<=(if c=92 then eZ (i+1) true r else .tuple [.int i,.str ⟨#[c]⟩]::eZ (i+1) false r).length;by_cases hc:c=92
    · refine aB (if_pos hc) ?_
      rw[decide_eq_true hc]at h;exact se r _ _ h
    · refine aB (if_neg hc) (aB (List.length_cons) ?_)
      exact Nat.succ_le_succ (Nat.zero_le _)
noncomputable def gW(tr:Bool)(e it:Addr)(n:Nat):List Addr:=if tr=true/\n=0 then[]else[e,it]
theorem xu{tr:Bool}{e it:Addr}{n:Nat}(h:tr=true->1<=n):gW tr e it n=[e,it]:=by unfold gW;rw[if_neg];rintro⟨a,b⟩;have:=h a;lia
noncomputable def gR(tr:Bool)(Lc e it:Addr):GenEnd:=λn s₀ r a=>r=.ok (.ret .none)/\(n=0/\GenSince Lc (gW tr e it n) s₀ a)
noncomputable def gY(tr:Bool)(L:List PyData)(Lc e it:Addr):Protocol:=λn s₀ v a d=>∃(c:Addr)(p:Int)(t u:Tok)(y:Str),v=.ref c/\L[L.length -1 -n]?=some (.tuple [.int p,.str y])/\s₀.heap.get? c=none/\c≠Lc/\c≠e/\c≠it/\
  a.heap.get? c=some {cls:=.type "tuple",data:=.seq #[.int p t,.str y u]}/\GenSince Lc [e,it] s₀ a/\a.heap.get? Lc≠none/\(∀b∈gW tr e it n,a.heap.get? b≠none)/\
  ∀s'':Shared,(∀b∈Lc::gW tr e it n,∀o,a.heap.get? b=some o->s''.heap.get? b=some o)->d (.send .none) s''
theorem lZ{a:Str}{pos:Pos}{v:Value}{Q:Value->Shared->Prop}(b:rD env)(c:env.kindOf a=some .local)(d:(a==("__debug__":Str))=false)(f:s.heap.Ns env.locals m)(g:m a=some v)(h:Q v s):
    wpAny (model prog w) A (eval (.Name a pos) env) Q E0 s:=wpAny_Name (wpAny_loadName_local b.kind c f g h) d
variable{c:Code}{fs:List Frame}{K:Flow->Sem Fin}{H:Value->Sem Fin}{gd:Bool->Bool}{lv:List Value->List Value}{n:Nat}{L:List PyData}{tr:Bool}
theorem o4{a:Str}{d f ps:Pos}{b:Bool}{R:GenEnd}{Y:Protocol}(g:rD env)(i:env.kindOf a=some .local)(j:s.heap.Ns env.locals m)(h:∀h',h'.Ns env.locals (λy=>if y=a then some (.bool b)else m y)->Heap.SameBut env.locals s.heap h'->Seg (model prog w) A R Y n s₀ c (K .next) fs {s with heap:=h',toks:=s.toks+1}):
    Seg (model prog w) A R Y n s₀ c ((exec (.Assign [.Name a d] (.Constant (.bool b) 0 f) ps) env).wrap K H gd lv) fs s:=
  seg_wrap (wpAny_Assign_Name (wpAny_Constant_bool (wpAny_storeName_local i j (λh' k l=>h h' k l) (by rw[g.kind];rfl))))
theorem oA{b:Expr}{F G I J:Pos}{p:Int}{t:Tok}{y:Str}(g:rD env)(j:splitAtGen fs=none)(k:gd false=false)(l:fs.any Frame.guarded=false)(i:s.heap.Ns env.locals m)(M:m "pos"=some (.int p t))(N:starEach [b] env=(false,eval b env)::starEach [] env)(d:∀(Q:Value->Shared->Prop),(∀u tk,Q (.str y u) {s with toks:=tk})->wpAny (model prog w) (A.over c fs) (eval b env) Q E0 s)(O:L[L.length -1 -n]?=some (.tuple [.int p,.str y]))(hs:GenSince env.locals [e,it] s₀ s)(D:e<s.heap.objs.size)(f:it<s.heap.objs.size)(r:∀b∈gW tr e it n,s.heap.get? b≠none)(h:∀s'':Shared,(∀b∈env.locals::gW tr e it n,∀o,s.heap.get? b=some o->s''.heap.get? b=some o)->Seg (model prog w) A (gR tr env.locals e it) (gY tr L env.locals e it) n s'' c (K .next) fs s''):
    Seg (model prog w) A (gR tr env.locals e it) (gY tr L env.locals e it) (n+1) s₀ c ((exec (.Expr (.Yield (some (.Tuple [.Name "pos" F,b] 0 G)) I) J) env).wrap K H gd lv) fs s:=by
  refine seg_Expr_Yield j k l (wpAny_mono (E8 (Q:=λv s'=>∃u tk,v=.ref s.heap.objs.size/\s'={s with heap:=s.heap.push {cls:=.type "tuple",data:=.seq #[.int p t,.str y u]},toks:=tk}) rfl N (lZ g g.kP rfl i M (d _ λu tk=>⟨u,tk,rfl,rfl⟩))) (λv s' P=>?_) λ_ _ e=>e.elim) g.co g.inter;obtain⟨u,tk,rfl,rfl⟩:=P;intro R S;have z:∀a(o:Obj),s.heap.get? a=some o->(s.heap.push {cls:=.type "tuple",data:=.seq #[.int p t,.str y u]}).get? a=some o:=λa o e=>Heap.get?_push_of_some _ e;have E:∀a,s.heap.get? a≠none->(s.heap.push {cls:=.type "tuple",data:=.seq #[.int p t,.str y u]}).get? a≠none:=λa r=>by
    cases q:s.heap.get? a with
    |none=>exact absurd q r
    |some o=>rw[z a o q];exact λq=>nomatch q
  refine vg _ p t u ⟨y,rfl,O,?_,Nat.ne_of_gt i.lt,Nat.ne_of_gt D,Nat.ne_of_gt f,Heap.get?_push_size _ rfl,hs.step λb o _ _ e=>z b o e,E _ ((by obtain⟨o,_,_,T,_⟩:=i;rw[T];exact λq=>nomatch q:s.heap.get? env.locals≠none)),λb d=>E b (r b d),λs'' B=>S .none s'' (h s'' λb d o e=>B b d o (z b o e))⟩;cases q:s₀.heap.get? s.heap.objs.size with
  |none=>rfl
  |some o=>refine bd hs λh' U V=>?_;obtain⟨rfl,C⟩:=V;exact((Nat.lt_irrefl _) (Heap.lt_size (C _ o (Nat.ne_of_gt i.lt) (by simp only[List.mem_cons,List.not_mem_nil,or_false,not_or];exact⟨Nat.ne_of_gt D,Nat.ne_of_gt f⟩) q))).elim
end
section
variable{prog:Program}{w:World}{A:Around}{s s₀:Shared}{env:Env}{m:Str->Option Value}{x:Str}{tx:Tok}{e it Lc:Addr}{q:Nat->Pos}
variable{c:Code}{fs:List Frame}{K:Flow->Sem Fin}{H:Value->Sem Fin}{gd:Bool->Bool}{lv:List Value->List Value}{n:Nat}{L:List PyData}{tr:Bool}
theorem iM{i:Nat}{b:Bool}{c:Nat}{r:List Nat}:eZ i b (c::r)=if b then .tuple [.int i,.str ⟨#[92,c]⟩]::eZ (i+1) false r
  else if c=92 then eZ (i+1) true r else .tuple [.int i,.str ⟨#[c]⟩]::eZ (i+1) false r:=by rw[eZ]
theorem pb{pre:List PyData}{d:PyData}{r:List PyData}(h:L=pre++d::r):L[L.length -1 -r.length]?=some d:=by
 subst h;have:(pre++d::r).length -1 -r.length=pre.length:=by rw[List.length_append,List.length_cons];lia
 refine aB this (Eq.trans (List.getElem?_append_right (Nat.le_refl _)) ?_);rw[Nat.sub_self];rfl
theorem Cv(W:A.handled=none)(g:rD env)(y:env.locals≠e)(z:env.locals≠it)(B:splitAtGen fs=none)(C:fs.any Frame.guarded=false){i c:Nat}{b:Bool}{r:List Nat}{pre:List PyData}{ti uc:Tok}(f:L=pre++eZ i b (c::r))(a:tr=ic b (c::r))(u:s.heap.Ns env.locals m)(D:m "pos"=some (.int i ti))(hc:m "ch"=some (.str ⟨#[c]⟩ uc))(j:m "escape"=some (.bool b))(hs:GenSince env.locals [e,it] s₀ s)(S:s.heap.get? e≠none)(E:s.heap.get? it≠none)(next:∀(M:Bool)(F:List PyData)(l s':Shared)(N:Str->Option Value),L=F++eZ (i+1) M r->tr=ic M r->s'.heap.Ns env.locals N->N "escape"=some (.bool M)->N "pos"=some (.int i ti)->GenSince env.locals [e,it] l s'->
   (∀b∈[e,it],∀o,s.heap.get? b=some o->s'.heap.get? b=some o)->
   Seg (model prog w) A (gR tr env.locals e it) (gY tr L env.locals e it) (eZ (i+1) M r).length l (.forLoop (oy q) (.ref e) [hO q] [] env) ((model prog w).den (.forLoop (oy q) (.ref e) [hO q] [] env)) fs s'):
  Seg (model prog w) A (gR tr env.locals e it) (gY tr L env.locals e it) (eZ i b (c::r)).length s₀ (.forLoop (oy q) (.ref e) [hO q] [] env) ((execs [hO q] env).wrap (Cq (oy q) (.ref e) [hO q] env) (yk env) id id) fs s:=by
 have G:e<s.heap.objs.size:=by
  cases q:s.heap.get? e with
  |none=>exact absurd q S
  |some o=>exact Heap.lt_size q
 have I:it<s.heap.objs.size:=by
  cases q:s.heap.get? it with
  |none=>exact absurd q E
  |some o=>exact Heap.lt_size q
 have T:∀b∈[e,it],s.heap.get? b≠none:=λb j=>by
  simp only[List.mem_cons,List.not_mem_nil,or_false]at j;rcases j with rfl|rfl
  ·exact S
  ·exact E
 refine seg_execs_cons (tl (wpAny_isTrue_value (lZ g g.kE rfl u j (wpAny_truthy_bool ?_)) rfl));induction b using Bool.casesOn with
 |true=>
  refine aB (if_pos rfl) (aB iM ?_);refine aB (if_pos rfl) (aB (List.length_cons) ?_);replace f:=iM▸f;replace f:=(if_pos rfl)▸f;simp only[ic]at a;have p:gW tr e it (eZ (i+1) false r).length=[e,it]:=xu λq=>se r _ _ (a▸q);refine seg_execs_cons (oA g B rfl C u D rfl (λQ O=>?_) (pb f) hs G I (by rw[p];exact T) λs'' d=>?_)
  ·refine wpAny_BinOp (wpAny_Constant_str (lZ g g.kC (by decide) u hc (PyProof.Rows.add_str (λU tk=>?_) ?_)))
   ·exact O U tk
   ·show 1+1<=sizeLine;decide
  ·have P:s''.heap.Ns env.locals m:=u.at' λo e=>d _ (.head _) o e;refine seg_execs_cons (o4 g g.kE P λh' v t=>?_);replace d:=p▸d;refine seg_again rfl (next false (pre++[.tuple [.int i,.str ⟨#[92,c]⟩]]) _ _ _ (by rw[List.append_assoc];exact f) a v (if_pos rfl) (by rw[if_neg (by decide)];exact D) ((GenSince.refl _ _ _).step λb o J V e=>t.extBut b o J e) λb j o e=>?_);have J:=d b (List.mem_cons_of_mem _ j) o e;refine t.extBut b o ?_ J;simp only[List.mem_cons,List.not_mem_nil,or_false]at j;rcases j with rfl|rfl
   ·exact Ne.symm y
   ·exact Ne.symm z
 |false=>
  refine aB (if_neg (by decide)) (aB iM ?_);refine aB (if_neg (by decide)) ?_;replace f:=iM▸f;rw[if_neg (by decide)]at f;refine seg_execs_cons (tl (wpAny_isTrue_Compare1 (lZ g g.kC (by decide) u hc (wpAny_Constant_str (PyProof.Rows.eq_str (wpAny_truthy_bool ?_)))) rfl));have R:((⟨#[c]⟩:Str)=="\\")=decide (c=92):=by
   by_cases h:c=92
   ·subst h;decide
   ·refine aB (decide_eq_false h) (beq_false_of_ne λq=>h ?_);have:(#[c]:Array Nat)=#[92]:=congrArg Str.cps q;simpa using this
  refine aB R ?_;simp only[ic]at a;by_cases h:c=92
  ·replace f:=(if_pos h)▸f;replace a:=(decide_eq_true h)▸a;refine aB (if_pos h) (aB (if_pos (by rw[decide_eq_true h])) ?_);refine seg_execs_cons (o4 g g.kE (s:={s with toks:=s.toks+1}) u λh' v t=>?_);refine seg_again rfl (next true pre _ _ _ f a v (if_pos rfl) (by rw[if_neg (by decide)];exact D) (hs.step λb o J V e=>t.extBut b o J e) λb j o e=>?_);refine t.extBut b o ?_ e;refine aG λk=>?_;simp only[List.mem_cons,List.not_mem_nil,or_false]at j;refine k (aG λk=>?_);rcases j with rfl|rfl
   ·exact k (Ne.symm y)
   ·exact k (Ne.symm z)
  ·replace f:=(if_neg h)▸f;replace a:=(decide_eq_false h)▸a;refine aG λk=>?_;have p:gW tr e it (eZ (i+1) false r).length=[e,it]:=xu λq=>se r _ _ (a▸q);refine k (aB (if_neg h) ?_);refine aB (if_neg (by rw[decide_eq_false h];decide)) (aB (List.length_cons) ?_);refine seg_execs_cons (oA (s:={s with toks:=s.toks+1}) g B rfl C u D rfl (λQ O=>lZ g g.kC (by decide) u hc (O _ _)) (pb f) (hs.step λ_ _ _ _ e=>e) G I (by rw[p];exact T) λs'' d=>?_);replace d:=p▸d;refine seg_again rfl (next false (pre++[.tuple [.int i,.str ⟨#[c]⟩]]) _ _ _ (by rw[List.append_assoc];exact f) a ((u.at' λo e=>d _ (.head _) o e:s''.heap.Ns env.locals m)) j D (GenSince.refl _ _ _) λb j o e=>d b (List.mem_cons_of_mem _ j) o e)
end
section
variable{prog:Program}{w:World}{A:Around}{s s₀:Shared}{env:Env}{m:Str->Option Value}{x:Str}{tx:Tok}{e it Lc:Addr}{q:Nat->Pos}
variable{c cF:Code}{pF:Pos}{fs:List Frame}{K:Flow->Sem Fin}{H:Value->Sem Fin}{gd:Bool->Bool}{lv:List Value->List Value}{n:Nat}{L:List PyData}{tr:Bool}
theorem BA.live{i:Nat}{h:Heap}(st:BA e it x tx i h):h.get? e≠none/\h.get? it≠none:=by
 refine aG λa=>cx st λb d=>?_;obtain⟨f,g⟩:=b;refine aK d λo d=>?_;obtain⟨j,_⟩:=d;refine a ?_;constructor
 ·intro q;rw[g]at q;exact iu q
 ·intro q;rw[j]at q;exact iu q
theorem Cu(hh:A.handled=none)(Q:rD env)(j:it<e)(l:(A.over (.forLoop (oy q) (.ref e) [hO q] [] env) (.ret (mY env K H gd lv) none (gd false) (lv []) cF pF []::fs)).handled=none)(E:env.locals≠e)(p:env.locals≠it)(S:splitAtGen (.ret (mY env K H gd lv) none (gd false) (lv []) cF pF []::fs)=none)(U:(Frame.ret (mY env K H gd lv) none (gd false) (lv []) cF pF []::fs).any Frame.guarded=false)(F:∀(b:Bool)(pre:List PyData)(s₀ s:Shared)(m:Str->Option Value),L=pre++eZ x.cps.size b []->tr=b->s.heap.Ns env.locals m->m "escape"=some (.bool b)->(b=true->∃t,m "pos"=some (.int ((x.cps.size:Int) -1) t))->GenSince env.locals [e,it] s₀ s->e<s.heap.objs.size->it<s.heap.objs.size->
   Seg (model prog w) A (gR tr env.locals e it) (gY tr L env.locals e it) (eZ x.cps.size b []).length s₀ cF (K .next) fs s):
  ∀(k i:Nat)(b:Bool)(pre:List PyData)(s₀ s:Shared)(m:Str->Option Value),x.cps.size -i=k->i<=x.cps.size->L=pre++eZ i b (x.cps.toList.drop i)->tr=ic b (x.cps.toList.drop i)->BA e it x tx i s.heap->s.heap.Ns env.locals m->m "escape"=some (.bool b)->
   (b=true->∃t,m "pos"=some (.int ((i:Int) -1) t))->GenSince env.locals [e,it] s₀ s->
   Seg (model prog w) A (gR tr env.locals e it) (gY tr L env.locals e it) (eZ i b (x.cps.toList.drop i)).length s₀ (.forLoop (oy q) (.ref e) [hO q] [] env) ((model prog w).den (.forLoop (oy q) (.ref e) [hO q] [] env)) (.ret (mY env K H gd lv) none (gd false) (lv []) cF pF []::fs) s:=by
 intro k;have W:WalksT prog w (A.over (.forLoop (oy q) (.ref e) [hO q] [] env) (.ret (mY env K H gd lv) none (gd false) (lv []) cF pF []::fs)) e [e,it] [e,it] x.cps.size (GN x) (BA e it x tx) (Ct e it x tx):=Ew l (Nat.ne_of_gt j);have v:env.locals∉[e,it]:=by simp only[List.mem_cons,List.not_mem_nil,or_false,not_or];exact⟨E,p⟩
 induction k with
 |zero=>
  intro i b pre s₀ s m hk hi G d st V y hp hs;have:i=x.cps.size:=by lia
  subst this;have e0:x.cps.toList.drop x.cps.size=[]:=List.drop_eq_nil_of_le (by omega);rw[e0]at G d⊢;simp only[ic]at d;refine kc (Ev l st λh' f=>?_);have I:e<h'.objs.size:=by
   cases q:s.heap.get? e with
   |none=>exact absurd q st.live.1
   |some o=>exact Heap.lt_size (f e o (Nat.ne_of_gt j) q)
  exact seg_leaf (.ok .next) (F b pre s₀ {s with heap:=h'} m G d (V.at' λo e=>f _ o p e) y hp (hs.step λb o h1 z e=>f b o (λq=>z (by rw[q];simp)) e) I (Nat.lt_trans j I))
 |succ k ih=>
  intro i b pre s₀ s m hk hi G d st V y hp hs;have g:i<x.cps.size:=by lia
  have e1:x.cps.toList.drop i=x.cps[i]::x.cps.toList.drop (i+1):=by rw[List.drop_eq_getElem_cons (by simpa using g)];simp
  rw[e1]at G d⊢;refine kc (W.item i s _ _ g st λT ao h1 X Y ap hT hM J=>?_);refine W.go _ _ _ i T _ _ _ hM λz Z B=>aG λaa=>cU Y λt u c' h_=>?_;obtain⟨ec,rfl⟩:=h_;rw[Array.getElem?_eq_getElem g]at ec;obtain rfl:=Option.some.inj ec;refine aa (wpAny_assign_Tuple l (by obtain⟨o,ho,r⟩:=hT;exact⟨o,B T o (W.apart i T h1 hM) ho,r⟩) rfl rfl λR ab=>?_);have h:∀a o,z.get? a=some o->R.get? a=some o:=λa o e=>((ab:Heap.ExtBut z.objs.size z R)) a o (Nat.ne_of_lt (Heap.lt_size e)) e;have ac:R.Ns env.locals m:=(((V.at' λo e=>J _ o v e).at' λo e=>B _ o v e:z.Ns env.locals m)).at' λo e=>h _ o e;have M:(env.scope.kind==.class||(env.scope.kind==.module&&env.locals !=env.globals))=false:=by rw[Q.kind];rfl
  refine wpAny_bind (wpAny_holding (wpAny_assign_Name (wpAny_storeName_local Q.kP ac (λh4 ae af=>?_) M)));refine wpAny_bind (wpAny_holding (wpAny_assign_Name (wpAny_storeName_local Q.kC ae (λh5 ag ah=>wpAny_pure ?_) M)));have up:∀a o,a≠env.locals->z.get? a=some o->h5.get? a=some o:=λa o ha e=>((ah:Heap.SameBut env.locals h4 h5)).extBut a o ha (((af:Heap.SameBut env.locals R h4)).extBut a o ha (h a o e));have C:BA e it x tx (i+1) h5:=W.frame _ _ _ Z λb y o e=>up b o (λq=>v (q▸y)) e;refine Cv (i:=i) (b:=b) (pre:=pre) (ti:=t) (uc:=u) hh Q E p S U G d ag ?_ (if_pos rfl) ?_ (hs.step (tk:=X+1+1) λa o ai N e=>up a o ai (B a o N (J a o N e))) C.live.1 C.live.2 λb' O D s' m' aj P ak al am an f=>?_
  ·exact aB (if_neg (by decide)) (aB (if_pos rfl) rfl)
  ·refine Eq.trans (if_neg (by decide)) (Eq.trans (if_neg (by decide)) ?_);exact y
  ·refine ih (i+1) b' O D s' m' (by lia) g aj P (W.frame _ _ _ C λb y o e=>f b y o e) ak al (λ_=>⟨t,?_⟩) an;refine Eq.trans am ?_;have:((i+1:Nat):Int) -1=(i:Int):=by lia
   exact aB this rfl
end
section
variable{prog:Program}{w:World}{A:Around}{s s₀:Shared}{env:Env}{m:Str->Option Value}{x:Str}{tx:Tok}{q:Nat->Pos}{mg mb:Str->Option Value}
theorem z3(M:A.handled=none)(a:rD env)(l:s.heap.Ns env.locals m)(R:m "addr"=some (.str x tx))(S:s.heap.Ns mainGlobals mg)(g:s.heap.Ns builtinsNs mb)(T:env.locals≠mainGlobals)(nb:env.locals≠builtinsNs)(z:mg "enumerate"=none)(B:mb "enumerate"=some (.type "enumerate")):
  Seg (model prog w) A (gR (ic false x.cps.toList) env.locals (s.heap.objs.size+1) s.heap.objs.size) (gY (ic false x.cps.toList) (eZ 0 false x.cps.toList) env.locals (s.heap.objs.size+1) s.heap.objs.size) (eZ 0 false x.cps.toList).length s
   (.func (hJ q) env) ((model prog w).den (.func (hJ q) env)) [] s:=by
 have C:(env.scope.kind==.class||(env.scope.kind==.module&&env.locals !=env.globals))=false:=by rw[a.kind];rfl
 refine seg_func (seg_execs_cons (seg_wrap (wpAny_Assign_Name (wpAny_Constant_int (wpAny_storeName_local (s:={s with toks:=s.toks+1}) a.kP l (λk D c=>?_) C)))));refine seg_execs_cons (o4 (s:={s with heap:=k,toks:=s.toks+1+1}) a a.kE D λh i d=>?_);have c:Heap.SameBut env.locals s.heap k:=c;have d:Heap.SameBut env.locals k h:=d;have E:∀b o,b≠env.locals->s.heap.get? b=some o->h.get? b=some o:=λb o g e=>d.extBut b o g (c.extBut b o g e);have F:h.Ns mainGlobals mg:=S.at' λo e=>E _ o (Ne.symm T) e;refine seg_execs_cons (A2 (wpAny_Call_NameR (Name_function_global a.kind a.kN (loadGlobal_builtin (by rw[a.glob];exact F) z (by rw[a.bltn];exact((g.at' λo e=>E _ o (Ne.symm nb) e:h.Ns builtinsNs mb))) B ?_) rfl)));have U:(λy:Str=>if y="escape"then some (Value.bool false)else if y="pos"then some (Value.int 0 s.toks)else m y) "addr"=some (.str x tx):=by refine Eq.trans (if_neg (by decide)) (Eq.trans (if_neg (by decide)) ?_);exact R
 refine PySem.callWith_type1 (lZ a a.kA rfl i U ?_);refine call_enumerate_str λN u j Z O=>wpAny_pyIter_enum u λp=>aB (Eq.symm (((d.1.trans c.1:h.objs.size=s.heap.objs.size)))) ?_;have hl:=i.lt;have G:=Cu (prog:=prog) (w:=w) (A:=A) (x:=x) (tx:=tx) (q:=q) (L:=eZ 0 false x.cps.toList) (tr:=ic false x.cps.toList) (env:=env) (e:=h.objs.size+1) (it:=h.objs.size) (pF:=p) (cF:=.func (hJ q) env) (fs:=[])
  (K:=λf=>match f with|.next=>(execs [xt q] env).wrap (λf=>.pure (.done (.ret (match f with|.ret v=>v|_=>.none)))) (λe=>(leaving env e).wrap (λ_=>.raise e) .raise id id) id id|f=>.pure (.done (.ret (match f with|.ret v=>v|_=>.none))))
  (H:=λe=>(leaving env e).wrap (λ_=>.raise e) .raise id id) (gd:=id) (lv:=id)
  M a (Nat.lt_succ_self _) M (Nat.ne_of_lt (Nat.lt_succ_of_lt hl)) (Nat.ne_of_lt hl) rfl rfl (λb pre P s m V I l g J hs u j=>?_) x.cps.size 0 false [] s
  {s with heap:=N,toks:=s.toks+1+1+1} _ rfl (Nat.zero_le _) rfl rfl ⟨⟨_,u⟩,j⟩ (i.at' λo e=>O _ o e) (if_pos rfl) (λq=>nomatch q) ⟨N,_,rfl,λb o k _ e=>O b o (E b o k e)⟩
 ·exact G
 ·show Seg _ _ _ _ _ _ _ ((execs [xt q] env).wrap _ _ _ _) _ _;subst I;refine seg_execs_cons (tl (wpAny_isTrue_value (lZ a a.kE rfl l g (wpAny_truthy_bool ?_)) rfl));generalize W:ic false x.cps.toList=tb at*;induction tb using Bool.casesOn with
  |false=>exact aB (if_neg (by decide)) (seg_end (.ok (.ret .none)) ⟨rfl,rfl,hs⟩)
  |true=>refine aB (if_pos rfl) (aK (J rfl) λt J=>?_);refine seg_execs_cons (oA (n:=0) (y:="\\") a rfl rfl rfl l J rfl (λQ X=>wpAny_Constant_str (X _ _)) (pb (r:=[]) V) hs u j (λb g=>nomatch g) λs'' Y=>?_);exact seg_end (.ok (.ret .none)) ⟨rfl,rfl,GenSince.refl _ _ _⟩
end
section
variable{prog:Program}{w:World}{A:Around}{E:Value->Shared->Prop}{s:Shared}
theorem qG{a:Addr}{g n:Nat}{gs:GenState}{R:GenEnd}{Y:Protocol}{Q:Option Value->Shared->Prop}(p:A.handled=none)(hl:s.heap.NoLimit)(e:A.depth<recursionLimit)(j:s.heap.IsGen a g)(h:s.gens[g]?=some gs)(f:gs.Goes (model prog w) A.in1 R Y n (.send .none) (s.setGen g .running))(t:∀n i r c,R n i r c->r=.ok (.ret .none))(u:∀v c d,d.bare=true->Y (n -1) (s.setGen g .running) v c (λr' s''=>match n with
    |0=>False
    |m+1=>d.Goes (model prog w) A.in1 R Y m r' s'')->Q (some v) (c.setGen g d))(y:∀r c,R n (s.setGen g .running) r c->∀h',(∀b o,c.heap.get? b=some o->h'.get? b=some o)->Q none {c.setGen g .finished with heap:=h'}):
  wpAny (model prog w) A (pyNext (.ref a)) Q E s:=by
 refine wpAny_bind (wpAny_attempt (wpAny_callSpecial?_slot (name:=Str.ofString "__next__") j.typeIs slot_gen_next
  (wpAny_call_entry slot_gen_next j.typeIs entry_gen_next ?_ (args_gen_next _))))
 show wpAny _ A.in1 (Builtin.Generator.genWake (.ref a) (.send .none)) _ _ s;refine wpAny_bind (wpAny_holding (wpAny_genNumber j (wpAny_bind (wpAny_genState h ?_))));induction gs using GenState.casesOn with
 |running=>exact f.elim
 |finished=>exact f.elim
 |_=>
  refine wpAny_bind (wpAny_roomToWake hl e ?_);refine wpAny_resumeQ h f (λx c q=>?_) (λv c d k z=>?_)
  ·have l:=t _ _ _ _ q;subst l;show wpAny _ A.in1 (newExc (.type "StopIteration") []>>=_) _ _ _;refine wpAny_bind (wpAny_bind (wpAny_newObj_type ?_ (by size_fits)));refine wpAny_bind (m:=firstArgMember _ _) (wpAny_of_eq (a:=Value.none) (by first|rfl|(simp only[firstArgMember];rfl)) ?_);refine wpAny_newObj_type ?_ (by size_fits);refine wpAny_bind (wpAny_bind (wpAny_handled ?_));first|rw[show A.in1.handled=none from p]|rw[p]
   refine wpAny_throw (wpAny_bind (wpAny_isInstance (T:="StopIteration") (b:=true) ⟨_,Heap.get?_push_size _ rfl,rfl⟩ isSubtype_stop ?_));exact wpAny_pure (y _ c q _ λb o k=>Heap.get?_push_of_some _ (Heap.get?_push_of_some _ k))
  ·exact wpAny_pure ⟨v,rfl,wpAny_pure (u v c d k z)⟩
end
section
variable{F F':Fx}{gs:List Str}{T:List FD}{n kk:Nat}{g g' g₀ g₁:G}{ρ ρ' ρ₀ ρ₁:List Addr}{s s' s₀ s₁ s₂:Shared}{σ σ':bo}{A:Around}{mg mb:Str->Option Value}{fp:List Addr}{K:Frag}{C fI fC:Addr}{B:Bs}
structure DU(F:Fx)(A:Around)(L:List PyData)(tr:Bool)(Lc e it ga:Addr)(gi:Nat)(n:Nat)(g:G)(ρ:List Addr)(s:Shared):Prop where
 gen:s.heap.IsGen ga gi
 st:∃gs,s.gens[gi]?=some gs/\gs.Goes (model F.B.prog F.B.w) A.in1 (gR tr Lc e it) (gY tr L Lc e it) n (.send .none) (s.setGen gi .running)
 oL:dZ F g ρ s Lc
 oG:dZ F g ρ s ga
 oE:∀b∈gW tr e it n,dZ F g ρ s b\/s.heap.get? b=none
theorem iA{a:Array GenState}{i:Nat}{x:GenState}(h:AllBare a)(c:x.bare=true):AllBare (a.setIfInBounds i x):=by
 intro y d;refine Or.elim (Array.mem_or_eq_of_mem_setIfInBounds d) (λb=>?_) λb=>?_
 ·exact h y b
 ·exact aB b c
theorem x7{L:List PyData}{tr:Bool}{Lc e it l:Addr}{gi:Nat}{an:Expr}{m:Heap}(hh:A.handled=none)(w:A.depth<recursionLimit)(Y:∀g ρ s σ,aF F g ρ s σ->s.heap.NoLimit)(Z:kk<=gi)(hL:m.get? Lc=none)(he:m.get? e=none)(hi:m.get? it=none)(ao:l≠Lc)(ap:l≠e)(aq:l≠it):
  ∀(ds:List PyData)(g:G)(ρ:List Addr)(s:Shared)(σ:bo),L.drop (L.length -ds.length)=ds->ds.length<=L.length->DU F A L tr Lc e it l gi ds.length g ρ s->aF F g ρ s σ->iz F A an (.ref l) kk m ds g ρ s σ:=by
 intro ds;have aa:∀n,∀b∈Lc::gW tr e it n,m.get? b=none:=λn b a=>by
  rcases List.mem_cons.mp a with rfl|a
  ·exact hL
  ·unfold gW at a;split at a
   ·exact(List.not_mem_nil a).elim
   ·simp only[List.mem_cons,List.not_mem_nil,or_false]at a;rcases a with rfl|rfl
    ·exact he
    ·exact hi
 have ar:∀n,l∉Lc::gW tr e it n:=λn a=>by
  rcases List.mem_cons.mp a with h|a
  ·exact ao h
  ·unfold gW at a;split at a
   ·exact(List.not_mem_nil a).elim
   ·simp only[List.mem_cons,List.not_mem_nil,or_false]at a;exact a.elim ap aq
 have W:∀{n g ρ s σ},DU F A L tr Lc e it l gi n g ρ s->aF F g ρ s σ->∀b∈Lc::gW tr e it n,b∉F.own/\b∉ρ/\(∀x∈F.env.cells,b≠x.2)/\F.B.h₀.get? b=none/\g b=none:=λ{n g ρ s σ}R I b a=>by
  have key:dZ F g ρ s b\/s.heap.get? b=none:=by
   rcases List.mem_cons.mp a with rfl|a
   ·exact .inl R.oL
   ·exact R.oE b a
  rcases key with O|h
  ·exact⟨O.own,O.r,λx hx q=>O.cells x hx q.symm,O.hi,O.g⟩
  ·exact CU I h
 induction ds with
 |nil=>
  intro g ρ s σ hd ab R I;refine λQ hQ=>aG λc=>?_;obtain⟨as,j,M⟩:=R.st;refine c (qG hh (Y _ _ _ _ I) w R.gen j M (λ_ _ _ _ h=>h.1) (λv s₁ f ac hy=>?_) (λr s₁ hr h' hk=>?_))
  ·refine c8 hy λ_ _ _ _ H=>aG λc=>aG λc=>?_;obtain⟨_,_,_,_,_,_,_,_,_,_,_,z⟩:=H;refine c (c ?_);exact(z s₁ λ_ _ _ e=>e).elim
  ·refine eY hr λ_ _ H=>bd H λD tk H=>?_;obtain⟨e1,N⟩:=H;subst e1;have kp:∀b o,b∉Lc::gW tr e it 0->s.heap.get? b=some o->h'.get? b=some o:=λb o a e=>hk b o (N b o (λq=>a (q▸List.mem_cons_self ..)) (λq=>a (List.mem_cons_of_mem _ q)) e);have st:ms F.B kk (Lc::gW tr e it 0) g g s {({s.setGen gi .running with heap:=D,toks:=tk}:Shared).setGen gi .finished with heap:=h'}:=by refine⟨λ_ _ e=>e,λb o a e=>kp b o a e,λ_ _ e=>.inl e,λk=>gE k λb o hn e=>kp b o (λa=>hn (W R I b a).2.2.2.1) e,rfl,λh=>?_,λh=>iA (iA h rfl) rfl⟩;refine⟨by simpa[Shared.setGen]using h,λi hi=>?_⟩;have:i≠gi:=Nat.ne_of_lt (Nat.lt_of_lt_of_le hi Z);simp[Shared.setGen,Ne.symm this]
   exact hQ _ _ (aa 0) st (I.growK st (W R I) λb o e=>kp b o (λa=>by rw[(W R I b a).2.2.2.2]at e;cases e) (I.so.sub b o e))
 |cons d ds ih=>
  intro g ρ s σ hd ab R I;refine λQ hQ=>aG λc=>?_;obtain⟨as,j,M⟩:=R.st;refine c (qG hh (Y _ _ _ _ I) w R.gen j M (λ_ _ _ _ h=>h.1) (λv s₁ f ac hy=>?_) (λr s₁ hr h' hk=>?_))
  ·refine aG λc=>c8 hy λE p t u H=>?_;obtain⟨y,rfl,J,hf,n1,n2,n3,au,⟨D,tk,e1,N⟩,aL,aE,z⟩:=H;subst e1;have P:gW tr e it (ds.length+1)=[e,it]:=xu λ_=>Nat.succ_le_succ (Nat.zero_le _);have J:L[L.length -1 -ds.length]?=some (.tuple [.int p,.str y]):=J;have ae:ds.length+1<=L.length:=ab;have ek:L.length -(d::ds).length=L.length -1 -ds.length:=by rw[List.length_cons];lia
   rw[ek]at hd;have av:d=.tuple [.int p,.str y]/\L.drop (L.length -ds.length)=ds:=by
    have af:L.length -1 -ds.length<L.length:=by lia
    rw[List.drop_eq_getElem_cons af]at hd;refine aG λc=>?_;injection hd with h2 h3
    rw[List.getElem?_eq_getElem af]at J;injection J with h4
    refine c ⟨h2.symm.trans h4,?_⟩;have:L.length -ds.length=L.length -1 -ds.length+1:=by lia
    exact aB this h3
   obtain⟨rfl,aw⟩:=av;have ag:∀b∈Lc::gW tr e it ds.length,b∈Lc::gW tr e it (ds.length+1):=λb a=>by
    rcases List.mem_cons.mp a with rfl|a
    ·exact List.mem_cons_self ..
    ·refine aB P ?_;unfold gW at a;split at a
     ·exact(List.not_mem_nil a).elim
     ·exact List.mem_cons_of_mem _ a
   have kp:∀b o,b∉Lc::gW tr e it (ds.length+1)->s.heap.get? b=some o->D.get? b=some o:=λb o a e=>N b o (λq=>a (q▸List.mem_cons_self ..)) (λq=>a (by rw[P];exact List.mem_cons_of_mem _ q)) e;have ax:g E=none:=I.none_g hf;have ay:∀b∈Lc::gW tr e it (ds.length+1),b≠E:=λb a q=>by
    rw[P]at a;simp only[List.mem_cons,List.not_mem_nil,or_false]at a;rcases a with h|h|h
    ·exact n1 (q▸h)
    ·exact n2 (q▸h)
    ·exact n3 (q▸h)
   have az:l≠E:=λq=>R.oG.th (q▸hf);have st:ms F.B kk (Lc::gW tr e it (ds.length+1)) g (g.put E {cls:=.type "tuple",data:=.seq #[.int p t,.str y u]}) s (({s.setGen gi .running with heap:=D,toks:=tk}:Shared).setGen gi f):=by
    refine⟨(G.put_le (o:={cls:=.type "tuple",data:=.seq #[.int p t,.str y u]}) ax),λb o a e=>kp b o a e,λb o e=>?_,λk=>gE k λb o hn e=>kp b o (λa=>hn (W R I b a).2.2.2.1) e,rfl,λh=>?_,λh=>iA (iA h rfl) ac⟩
    ·by_cases m:b=E
     ·exact m▸(.inr (.inr hf))
     ·replace e:=Eq.trans (Eq.symm (G.put_ne g _ m)) e;exact .inl e
    ·refine⟨by simpa[Shared.setGen]using h,λi hi=>?_⟩;have:i≠gi:=Nat.ne_of_lt (Nat.lt_of_lt_of_le hi Z);simp[Shared.setGen,Ne.symm this]
   have ah:∀b∈Lc::gW tr e it (ds.length+1),b∉F.own/\b∉ρ/\(∀x∈F.env.cells,b≠x.2)/\F.B.h₀.get? b=none/\(g.put E {cls:=.type "tuple",data:=.seq #[.int p t,.str y u]}) b=none:=λb a=>by exact wl (W R I b a) λa1 a2 a3 a4 a5=>⟨a1,a2,a3,a4,by rw[G.put_ne g _ (ay b a)];exact a5⟩
   have I':aF F (g.put E {cls:=.type "tuple",data:=.seq #[.int p t,.str y u]}) ρ (({s.setGen gi .running with heap:=D,toks:=tk}:Shared).setGen gi f) σ:=I.growK st ah λb o e=>by
    by_cases m:b=E
    ·subst m;rw[G.put_self]at e;exact(Option.some.inj e)▸(au)
    ·replace e:=Eq.trans (Eq.symm (G.put_ne g _ m)) e;exact kp b o (λa=>by rw[(W R I b a).2.2.2.2]at e;cases e) (I.so.sub b o e)
   refine cU (R.gen) λog nm qn H=>ko H λho hc ai a0=>?_;have S:D.get? l=some og:=kp l og (ar _) ho;have aj:dZ F (g.put E {cls:=.type "tuple",data:=.seq #[.int p t,.str y u]}) ρ (({s.setGen gi .running with heap:=D,toks:=tk}:Shared).setGen gi f) l:=
    ⟨by rw[G.put_ne g _ az];exact R.oG.g,R.oG.own,R.oG.r,R.oG.cells,R.oG.hi,λq=>by have q:D.get? l=none:=q;rw[S]at q;cases q⟩
   have oW:∀b∈Lc::gW tr e it ds.length,dZ F (g.put E {cls:=.type "tuple",data:=.seq #[.int p t,.str y u]}) ρ (({s.setGen gi .running with heap:=D,toks:=tk}:Shared).setGen gi f) b:=λb a=>by
    refine wl (ah b (ag b a)) λa1 a2 a3 a4 a5=>⟨a5,a1,a2,λx hx q=>a3 x hx q.symm,a4,?_⟩;refine aG λc=>?_;rcases List.mem_cons.mp a with rfl|a
    ·exact c aL
    ·exact c (aE b a)
   refine c (dP (s:=({s.setGen gi .running with heap:=D,toks:=tk}:Shared).setGen gi f) S hc ai rfl (hQ _ _ _ _ (aa _) st I' (.tuple (G.put_self ..) (.cons (.int _ _) (.cons (.str _ _) .nil))) λak U s₂ V X I2=>ih ak U s₂ V aw (Nat.le_of_succ_le ae) ?_ I2));have al:gi<s.gens.size:=by
    refine Or.elim (Nat.lt_or_ge gi s.gens.size) (λh=>?_) λh=>?_
    ·exact h
    ·replace j:=Eq.trans (Eq.symm (Array.getElem?_eq_none h)) j;exact aN j
   have am:gi<(({s.setGen gi .running with heap:=D,toks:=tk}:Shared).setGen gi f).gens.size:=by simpa[Shared.setGen]using al
   refine⟨⟨og,nm,qn,(aj.step X).2 _ S,hc,ai,a0⟩,⟨f,?_,z (s₂.setGen gi .running) λb a o e=>((oW b a).step X).2 o e⟩,((oW Lc (List.mem_cons_self ..)).step X).1,(aj.step X).1,λb a=>.inl ((oW b (List.mem_cons_of_mem _ a)).step X).1⟩;refine Eq.trans (X.st.gens.2 gi am) ?_;simp[Shared.setGen,al]
  ·exact absurd hr.2.1 (by simp)
end
section
variable{F F':Fx}{gs:List Str}{T:List FD}{n kk:Nat}{g g' g₀ g₁:G}{ρ ρ' ρ₀ ρ₁:List Addr}{s s' s₀ s₁ s₂:Shared}{σ σ':bo}{A:Around}{mg mb:Str->Option Value}{fp:List Addr}{K:Frag}{C fI fC:Addr}{B:Bs}
structure DX(B:Bs)(q:Nat->Pos)(a:Addr)(o:Obj)(f:FuncData):Prop where
 ne:a≠B.P0
 obj:B.h₀.get? a=some o
 data:o.data=.func f
 code:∃c oc vs t,f.code=.ref c/\c≠B.P0/\B.h₀.get? c=some oc/\oc.data=.fields vs/\vs[1]?=some (.str f.qualname t)
 body:f.body=.stmts (hJ q)
 globals:f.globals=mainGlobals
 builtins:f.builtins=builtinsNs
 co:f.scope.isCoroutine=false
 isg:f.scope.isGenerator=true
 kind:f.scope.kind=.function
 cell:∀x∈f.scope.names,x.2≠.cell
 kA:f.scope.names.lookup ("addr":Str)=some .local
 kP:f.scope.names.lookup ("pos":Str)=some .local
 kE:f.scope.names.lookup ("escape":Str)=some .local
 kC:f.scope.names.lookup ("ch":Str)=some .local
 kN:f.scope.names.lookup ("enumerate":Str)=some .globalImplicit
 binds:∀v:Value,bindArgs f ⟨[v],[]⟩=pure [(("addr":Str),v)]
theorem xD{q:Nat->Pos}{h':Heap}{a:Obj}{env:Env}{tk:Nat}{x:Str}{tx:Tok}{m:Str->Option Value}{M:Expr}{st:List aA}{v:G}{f:List Addr}{s1:Shared}{nm qn:Value}(gd:Gd F.B T mg mb)(N:Ok (n+1) A)(O:bw F g ρ s v f s1)(p:aF F v f s1 ⟨σ.env,st⟩)(ge:rD env)(c:env.locals=s1.heap.objs.size)(P:h'.Ns s1.heap.objs.size m)(Q:m "addr"=some (.str x tx))(hk:∀b o,s1.heap.get? b=some o->h'.get? b=some o)(d:h'.objs.size=s1.heap.objs.size+1)(hc:a.cls=.type "generator")(hd:a.data=.fields #[.int s1.gens.size 0,nm,qn])(R:a.slots=#[])(S:a.isFreed=false):
  nM F A M g ρ s ⟨σ.env,st⟩ (eZ 0 false x.cps.toList) (.ref h'.objs.size) {s1 with heap:=h'.push a,gens:=s1.gens.push (.fresh (.func (hJ q) env)),toks:=tk}:=by
 have kp:∀b o,s1.heap.get? b=some o->(h'.push a).get? b=some o:=λb o e=>Heap.get?_push_of_some _ (hk b o e);have q7:St F.B [] v v s1 {s1 with heap:=h'.push a,gens:=s1.gens.push (.fresh (.func (hJ q) env)),toks:=tk}:=by
  refine⟨λ_ _ e=>e,λb o _ e=>kp b o e,λ_ _ e=>.inl e,λk=>k.step_keeps kp,rfl,⟨by simp,λi Z=>?_⟩,λh y hy=>?_⟩
  ·show(s1.gens.push _)[i]?=_;refine aB (Array.getElem?_push_lt Z) ?_;exact aB (Array.getElem?_eq_getElem Z) rfl
  ·rcases Array.mem_push.mp hy with h1|rfl
   ·exact h y h1
   ·rfl
 have z:=p.grow q7 λb o e=>kp b o (p.so.sub b o e);have U:bw F g ρ s v f {s1 with heap:=h'.push a,gens:=s1.gens.push (.fresh (.func (hJ q) env)),toks:=tk}:=O.out (W:=[]) (λ_ h=>nomatch h) q7;have V:∀(gg:G)(rr:List Addr)(u:Shared)(tt:bo),aF F gg rr u tt->u.heap.NoLimit:=λgg rr u tt I=>by exact aK (gd.nol) λmc X=>cx X λz1 z2=>⟨mc,I.ns gd.toGd0 gd.csP z1,z2⟩
 have D:A.depth<recursionLimit:=by have:=N.depth;lia
 have E:(h'.push a).objs.size=s1.heap.objs.size+2:=by rw[Heap.size_push,d]
 have r:∀i,s1.heap.get? (s1.heap.objs.size+i)=none:=λi=>by
  cases q:s1.heap.get? (s1.heap.objs.size+i)with
  |none=>rfl
  |some o=>exact absurd (Heap.lt_size q) (Nat.not_lt.mpr (Nat.le_add_right _ _))
 have j:∀i,(h'.push a).get? ((h'.push a).objs.size+i)=none:=λi=>by
  cases q:(h'.push a).get? ((h'.push a).objs.size+i)with
  |none=>rfl
  |some o=>exact absurd (Heap.lt_size q) (Nat.not_lt.mpr (Nat.le_add_right _ _))
 have H:(h'.push a).get? h'.objs.size=some a:=Heap.get?_push_size _ S;have Y:mainGlobals<s1.heap.objs.size:=(p.ns gd.toGd0 gd.mgP gd.mgN).lt;have t:(h'.push a).Ns env.locals m:=by rw[c];exact P.push _
 have l:=gd.blt (("enumerate":Str),.type "enumerate") (by decide);have Fs:=z3 (prog:=F.B.prog) (w:=F.B.w) (A:=A.in1) (q:=q) (x:=x) (tx:=tx) (s:=({s1 with heap:=h'.push a,gens:=s1.gens.push (.fresh (.func (hJ q) env)),toks:=tk}:Shared).setGen s1.gens.size .running) N.handled ge t Q (z.ns gd.toGd0 gd.mgP gd.mgN) (z.ns gd.toGd0 gd.mbP gd.mbN)
  (by rw[c];exact Nat.ne_of_gt Y) (by rw[c];exact Nat.ne_of_gt (((p.ns gd.toGd0 gd.mbP gd.mbN).lt:builtinsNs<s1.heap.objs.size))) l.1 l.2
 rw[c]at Fs;have ak:∀b,(∃o,(h'.push a).get? b=some o)->(h'.push a).get? b≠none:=λb⟨o,e⟩q=>by rw[e]at q;exact iu q
 have aL:(h'.push a).get? s1.heap.objs.size≠none:=by rw[c]at t;exact cU t λo _ _ X=>cx X λho _=>ak _ ⟨o,ho⟩
 refine vf v f ([]) ⟨(λ_ h=>nomatch h),U.toK,z,?_⟩;refine x7 (L:=eZ 0 false x.cps.toList) (tr:=ic false x.cps.toList) (Lc:=s1.heap.objs.size) (e:=(h'.push a).objs.size+1) (it:=(h'.push a).objs.size) (gi:=s1.gens.size) N.handled D V O.st.gens.1 (dw O p (r 0)) (dw U z (j 1)) (dw U z (j 0)) ?_ ?_ ?_ _ _ _ _ _ ?_ (Nat.le_refl _) ⟨⟨a,nm,qn,H,hc,hd,R⟩,⟨.fresh (.func (hJ q) env),?_,rfl,Fs⟩,dZ.new p (r 0) aL,dZ.new p (by rw[d];exact r 1) (ak _ ⟨_,H⟩),λb J=>.inr ?_⟩ z
 ·exact aB d (Nat.succ_ne_self _)
 ·refine aB E (aB d ?_);exact Nat.ne_of_lt (Nat.lt_succ_of_lt (Nat.lt_succ_self _))
 ·refine aB E (aB d ?_);exact Nat.ne_of_lt (Nat.lt_succ_self _)
 ·rw[Nat.sub_self];rfl
 ·exact Array.getElem?_push_size ..
 ·unfold gW at J;split at J
  ·exact(List.not_mem_nil J).elim
  ·simp only[List.mem_cons,List.not_mem_nil,or_false]at J;rcases J with rfl|rfl
   ·exact j 1
   ·exact j 0
theorem xE{q:Nat->Pos}{a:Addr}{o:Obj}{f:FuncData}(gd:Gd F.B T mg mb)(O:Wf F gs)(d:DX F.B q a o f)(P:mg ("_iter_escaped_chars":Str)=some (.ref a))(H:cY F gs T n):DW F gs T n:=by
 intro A g ρ s σ e t x st L tg p i m I h hx;change(_&&_)=true at i;rw[Bool.and_eq_true,List.contains_iff_mem]at i;refine cx i λQ R=>wpAny_Call_NameR (fm O gd.toGd0 I Q P rfl ?_);refine callWith_defK d.obj d.data (args_cons (wpAny_mono (H A g ρ s σ e _ _ R (m.less (Nat.le_succ n)) I h) (λv s1 S=>args_nil ?_) λ_ _ e=>e) (aW ..)) (aW ..);refine aC.elim S λgA U V k r=>?_;obtain⟨tx,rfl⟩:∃tx,v=.str x tx:=by exact r.eD λr=>by refine r.eStr λ_=>?_;exact⟨_,rfl⟩
 refine⟨k.stands gd.toGd0 d.ne d.obj,?_⟩;have w:∀(J:G)(M:List Addr)(u:Shared)(N:bo),aF F J M u N->u.heap.NoLimit:=λJ M u N I=>by exact aK (gd.nol) λW z=>cx z λX Y=>⟨W,I.ns gd.toGd0 gd.csP X,Y⟩
 have l:s1.heap.CodeRec f.code f.qualname:=by exact c8 (d.code) λc Z D ct z=>wl z λe1 e2 e3 e4 e5=>vg c Z D ct ⟨e1,k.stands gd.toGd0 e2 e3,e4,e5⟩
 refine wpAny_call (codeAny_call_generator ((by have:=m.depth;lia:A.depth<recursionLimit)) (k.stands gd.toGd0 d.ne d.obj) d.data d.co d.isg d.body l ?_);rw[d.binds];refine wpAny_pure (wpAny_newFunctionEnv d.cell (λy hy=>by rw[List.mem_singleton.mp hy];exact d.kA) (λh' E j=>⟨(w _ _ _ _ k).fresh _ j,?_⟩) d.kind);have hk:∀b o,s1.heap.get? b=some o->h'.get? b=some o:=λb o e=>by exact Eq.trans ((j.2) b (Nat.ne_of_lt (Heap.lt_size e))) (Heap.get?_push_of_some _ e)
 refine wpAny_pyIter_gen ⟨_,_,_,Heap.get?_push_size _ rfl,rfl,rfl,rfl⟩ ?_;exact xD (s1:=s1) (h':=h') (nm:=.str f.name _) (qn:=.str f.qualname _) gd m V k ⟨d.kind,d.co,d.kA,d.kP,d.kE,d.kC,d.kN,by unfold interactive;simp[newEnv,d.kind],d.globals,d.builtins⟩ rfl E rfl hk ((by rw[j.1,Heap.size_push]:h'.objs.size=s1.heap.objs.size+1)) rfl rfl rfl rfl
end
section
variable{F F':Fx}{gs:List Str}{T:List FD}{n kk:Nat}{g g' g₀ g₁:G}{ρ ρ' ρ₀ ρ₁:List Addr}{s s' s₀ s₁ s₂:Shared}{σ σ':bo}{A:Around}{mg mb:Str->Option Value}{fp:List Addr}
theorem wg{fd:FD}{a:Addr}{o:Obj}{f:FuncData}{vs:List V}{E:List Value}{r:Fl×List V×List aA}{v:V}(hK:∀b,F.B.K b=if b=F.B.P0 then none else F.B.h₀.get? b)(D:s.heap=F.B.h₀)(Q:AllBare s.gens)(am:F.B.ps0=#[])(gd:Gd F.B T mg mb)(u:uL F.B fd a o f)(w:BO T fd)(ok:Ok (n+1) A)(HS:∀(F':Fx)(X:List Str),F'.B=F.B->Wf F' X->nL F' X T n)(rs:aM F.B F.B.K [] vs E)(hl:vs.length=fd.np)(K:exs T n (vs++List.replicate (fd.L.length -fd.np) .unb) fd.body []=some r)(p:r.1=.ret v):
  wpAny (model F.B.prog F.B.w) A (call (.ref a) E) (λx s'=>∃g' ρ',Rv F.B g' ρ' v x/\OldK F.B.h₀ s'.heap/\s'.os=s.os/\AllBare s'.gens) E0 s:=by
 refine aG λj=>?_;have d:∀{b:Addr}{o:Obj},F.B.h₀.get? b=some o->s.heap.get? b=some o:=λe=>D▸e;refine c8 (u.code) λc oc ag ct H=>wl H λe1 e2 e3 e4 e5=>?_;have Y:=rs.length;have Z:s.heap.CodeRec f.code f.qualname:=⟨c,oc,ag,ct,e1,d e3,e4,e5⟩;have R:s.heap.NoLimit:=by refine aK (gd.nol) λmc H=>?_;obtain⟨K,p⟩:=H;exact⟨mc,D▸K,p⟩
 have aa:s.heap.get? s.heap.objs.size=none:=aU _;have I:∀v∈fd.L,f.scope.names.lookup v.name=some v.kind:=λv S=>by rw[u.scope];exact(w.L v S).2.2.2
 have ab:((fd.L.take fd.np).map bl.name).length=E.length:=by simp only[List.length_map,List.length_take,<-Y,hl];have:=w.np;lia
 have ac:((fd.L.take fd.np).map bl.name).Nodup:=by exact aB (List.map_take) ((List.take_sublist _ _).nodup w.nd)
 have z:∀v∈fd.L.take fd.np,v∈fd.L:=λv S=>List.mem_of_mem_take S;refine j (wpAny_call (codeAny_call_cells (binds:=((fd.L.take fd.np).map bl.name).zip E) (by have:=ok.depth;lia) (d u.obj) u.data R Z u.body (u.binds E (by rw[<-Y,hl])) u.closure (λx hx=>?_) (λs1 x=>?_) (by rw[u.scope];exact w.co) (by rw[u.scope];exact w.gen) (by rw[u.scope];exact w.kind)))
 ·refine aG λj=>?_;obtain⟨v,S,e⟩:=List.mem_map.mp ((List.of_mem_zip (a:=x.1) (b:=x.2) hx).1);refine j (aB (Eq.symm (e)) ?_);refine aB (I v (z v S)) (Or.elim ((w.L v (z v S)).2.2.1) (λh=>?_) λh=>?_)
  ·exact .inl (by rw[h])
  ·refine .inr ⟨by rw[h],?_⟩;have:=I v (z v S);rw[h]at this;obtain⟨c,hc⟩:=bN (n:=s.heap.objs.size+1) (mem_of_lookup this);refine aB hc ?_;rfl
 ·have l:=x.toInCall.keep;refine bd (x.toInCall.same) λhh tk ah=>?_;have L:∀{y:Str}{c:Addr},(y,c)∈cellsFrom (s.heap.objs.size+1) f.scope.names []->s.heap.get? c=none/\c≠s.heap.objs.size:=λN=>by
   have p:=x.above _ _ N;refine⟨?_,λq=>by rw[q]at p;exact Nat.lt_irrefl _ p⟩;cases q:s.heap.get? _ with
   |none=>rfl
   |some o=>exact absurd (Heap.lt_size q) (Nat.not_lt.mpr (Nat.le_of_lt p))
  have J:∀b∈(c5 F fd f s.heap.objs.size a).own,s.heap.get? b=none\/b=F.B.P0:=λb t=>by
   rcases List.mem_cons.mp t with rfl|t
   ·exact .inr rfl
   ·rcases List.mem_cons.mp t with rfl|t
    ·exact .inl aa
    ·refine aK (List.mem_map.mp t) λM H=>?_;have y:=M.1;have c:=M.2;obtain⟨N,rfl⟩:=H;exact .inl (L N).1
  have ai:Wf (c5 F fd f s.heap.objs.size a) fd.gs:=by
   refine⟨⟨?_,λi v O=>⟨I v (List.mem_of_getElem? O),(w.L v (List.mem_of_getElem? O)).2.1⟩,λi v O=>(w.L v (List.mem_of_getElem? O)).2.2.1,w.nd,λi v O _=>(w.L v (List.mem_of_getElem? O)).1⟩,u.globals,u.builtins,λm N=>?_,.head _,u.zipc⟩
   ·show f.scope.kind=_;exact aB (u.scope) w.kind
   ·show f.scope.names.lookup m=_;exact aB (u.scope) (w.gs m N)
  have st:St F.B [] F.B.K F.B.K s s1:=by subst ah;exact St.kept' l rfl rfl
  have ae:=x.toInCall.ns;have P:∀(i:Nat)(y:Str)(k:NameKind)(b:Bool),fd.L[i]?=some (bl.mk y k b)->i<fd.np->((fd.L.take fd.np).map bl.name)[i]?=some y:=λi y k b O B=>by refine aB (List.getElem?_map) ?_;refine aB (List.getElem?_take_of_lt B) ?_;refine aB O ?_;rfl
  have af:∀b,(s.heap.get? b=none\/b=F.B.P0)->F.B.K b=none:=λb t=>by
   rw[hK];by_cases q:b=F.B.P0
   ·exact(if_pos q)
   ·exact Eq.trans (if_neg q) (D▸t.resolve_right q)
  have C:∀b∈(c5 F fd f s.heap.objs.size a).own,s1.heap.get? b≠none:=λb t=>by
   rcases List.mem_cons.mp t with rfl|t
   ·have:=F.B.hP0;cases q:F.B.h₀.get? F.B.P0 with
    |none=>exact absurd q this
    |some o=>rw[l _ _ (d q)];exact λq=>nomatch q
   ·rcases List.mem_cons.mp t with rfl|t
    ·exact gf ae
    ·refine aK (List.mem_map.mp t) λM H=>?_;obtain⟨y,c⟩:=M;obtain⟨N,rfl⟩:=H;exact fc (x.cell y c (dX N λc' aj=>fT (by rw[u.scope];exact w.nn) aj N))
  have I1:aF (c5 F fd f s.heap.objs.size a) F.B.K [] s1 ⟨vs++List.replicate (fd.L.length -fd.np) .unb,[]⟩:=by
   refine⟨⟨λb o e=>?_,λb o e=>e,λb t=>af b (J b t),(λ_ _ h=>nomatch h),(λ_ h=>nomatch h),λb t=>(J b t).symm.imp id (λh=>D▸h),.tail _ (.head _),D▸aa,λy hy=>?_,x.apart,.nil,C,(λ_ h=>nomatch h),λy hy=>C _ (.tail _ (.tail _ (List.mem_map.mpr ⟨_,hy,rfl⟩)))⟩,OldK.of_keep λb o e=>l b o (d e),st.bare Q,⟨#[],?_,?_⟩,⟨?_,⟨_,ae,?_⟩,?_⟩,rfl,λi b c t=>nomatch t⟩
   ·rw[hK]at e;split at e
    ·exact aN e
    ·exact l b o (d e)
   ·obtain⟨y,c⟩:=y;exact⟨D▸(L hy).1,(L hy).2,af c (.inl (L hy).1),λh=>nomatch h⟩
   ·exact aB (Array.append_empty) (l _ _ (d gd.tabT.2))
   ·refine c8 (gd.tabC) λ_ _ _ _ H=>c8 H λ_ _ _ _ H=>aG λj=>?_;obtain⟨_,_,_,_,_,_,_,_,_,_,_,ak,_⟩:=H;refine j (aB (Array.append_empty) ?_);exact ak
   ·show(vs++List.replicate (fd.L.length -fd.np) V.unb).length=fd.L.length;refine aB (List.length_append) (aB (List.length_replicate) ?_);refine aB hl ?_;have:=w.np;lia
   ·intro i y b v K p;refine Or.elim (Nat.lt_or_ge i fd.np) (λB=>?_) λU=>?_
    ·rw[List.getElem?_append_left (by rw[hl];exact B)]at p;refine aG λj=>?_;obtain⟨rv,W,rr⟩:=gF rs i v p;refine j (aB ((jr (kindOf:=(callEnvC f s.heap.objs.size a).kindOf) (m:=λ_=>none) ac ab (I _ (List.mem_of_getElem? K))).2 i rv (P i y .local b K B) W) ?_);exact dK.of rr
    ·rw[List.getElem?_append_right (by rw[hl];exact U),List.getElem?_replicate]at p;split at p
     ·obtain rfl:=Option.some.inj p;trivial
     ·exact aN p
   ·intro i y b v K p;have hk:=I _ (List.mem_of_getElem? K)
    dsimp only at hk
    refine aK (bN (n:=s.heap.objs.size+1) (mem_of_lookup hk)) λc hc=>j7 c _ ⟨hc,x.cell y c hc,?_,λ_=>.tail _ (.tail _ (List.mem_map.mpr ⟨_,mem_of_lookup hc,rfl⟩))⟩;have R:(callEnvC f s.heap.objs.size a).kindOf y≠some .local:=by have:(callEnvC f s.heap.objs.size a).kindOf y=some .cell:=hk;refine aB this ?_;decide
    refine Or.elim (Nat.lt_or_ge i fd.np) (λB=>?_) λU=>?_
    ·rw[List.getElem?_append_left (by rw[hl];exact B)]at p;refine aG λj=>?_;obtain⟨rv,W,rr⟩:=gF rs i v p;refine j (aB ((jq (kindOf:=(callEnvC f s.heap.objs.size a).kindOf) (m:=λ_=>none) ac ab R).2 i rv (P i y .cell b K B) W) ?_);exact dK.of rr
    ·rw[List.getElem?_append_right (by rw[hl];exact U),List.getElem?_replicate]at p;split at p
     ·obtain rfl:=Option.some.inj p;trivial
     ·exact aN p
  refine wpAny_mono (HS (c5 F fd f s.heap.objs.size a) fd.gs rfl ai _ F.B.K [] s1 ⟨_,[]⟩ fd.body fd.t 0 r w.body ((⟨ok.handled,by have:=ok.depth;show A.depth+1+n+1<_;lia,by have:=ok.units;rw[Around.deeper_units];lia⟩:Ok n (A.deeper (callEnvC f s.heap.objs.size a)))) I1 K) (λfl s2 hp=>?_) λ_ _ e=>e.elim;refine aC.elim hp λg2 al S2 I2 r2=>?_;replace r2:=p▸r2;refine aG λj=>?_;cases r2 with
  |ret r2=>refine j ?_;exact⟨g2,al,r2,I2.old,S2.st.os.trans st.os,I2.bare⟩
end
noncomputable def tH(p:Program)(fd:FD):Prop:=∃d∈recsOf p,d.name=fd.name/\d.body=mN fd.body fd.L fd.t 0/\d.scope={fd.scope with more:=d.scope.more}/\
 ∀(c e b:Value)(a:List Value),a.length=fd.np->bindArgs (Calls.docDef d.name d.params d.body d.scope c e b) ⟨a,[]⟩=pure (((fd.L.take fd.np).map bl.name).zip a)
noncomputable def ww(p:Program)(q:Nat->Pos):Prop:=∃d∈recsOf p,d.name=("_iter_escaped_chars":Str)/\d.body=hJ q/\d.scope.isCoroutine=false/\d.scope.isGenerator=true/\d.scope.kind=.function/\(∀x∈d.scope.names,x.2≠.cell)/\
 d.scope.names.lookup ("addr":Str)=some .local/\d.scope.names.lookup ("pos":Str)=some .local/\d.scope.names.lookup ("escape":Str)=some .local/\d.scope.names.lookup ("ch":Str)=some .local/\d.scope.names.lookup ("enumerate":Str)=some .globalImplicit/\
 ∀(b c a v:Value),bindArgs (Calls.docDef d.name d.params d.body d.scope b c a) ⟨[v],[]⟩=pure [(("addr":Str),v)]
section
variable{p:Program}{loose:List Str}{mean:ExcName->Option Value}{mg mb:Str->Option Value}{B:Bs}
theorem tQ{code:Value}{nm:Str}(f:B.h₀.get? B.P0=some {cls:=.none,data:=.fields #[]})(h:B.h₀.CodeRec code nm):∃c a vs t,code=.ref c/\c≠B.P0/\B.h₀.get? c=some a/\a.data=.fields vs/\vs[1]?=some (.str nm t):=by refine c8 h λc a vs t g=>ko g λe1 b d e=>vg c a vs t ⟨e1,λq=>?_,b,d,e⟩;rw[q,f]at b;obtain rfl:=Option.some.inj b;cases d;simp at e
theorem t7(T:Top p loose mean mg mb B.h₀)(k:B.h₀.get? B.P0=some {cls:=.none,data:=.fields #[]}){fd:FD}{l:Str}{m:Addr}{n:Obj}{fz:FuncData}(s:mg l=some (.ref m))(t:B.h₀.get? m=some n)(u:n.data=.func fz)(v:fz.code=.ref B.c0)(w:("zip":Str)∈fd.gs->fd.name=l)(r:tH p fd):∃a o f,uL B fd a o f/\mg fd.name=some (.ref a):=by
 refine aG λb=>?_;obtain⟨d,x,e1,y,z,A⟩:=r;refine b (c8 (T.fn d x) λa o C code D=>?_);refine aG λb=>?_;obtain⟨i,e,g,c,E⟩:=D;refine b (vf a o _ ⟨⟨λq=>?_,g,c,tQ k E,by rw[<-y];rfl,rfl,λj=>?_,rfl,rfl,z,λh F=>A C code i h F⟩,e1▸e⟩)
 ·rw[q,k]at g;obtain rfl:=Option.some.inj g;cases c
 ·rw[e1,w j]at e;replace e:=s▸e;cases e;rw[t]at g;obtain rfl:=Option.some.inj g;rw[u]at c;injection c with c
  exact aB (Eq.symm (c)) v
theorem Ab(T:Top p loose mean mg mb B.h₀)(j:B.h₀.get? B.P0=some {cls:=.none,data:=.fields #[]}){q:Nat->Pos}(r:ww p q):∃a o f,DX B q a o f/\mg ("_iter_escaped_chars":Str)=some (.ref a):=by refine aG λb=>?_;obtain⟨d,l,e1,m,n,s,t,u,w,x,y,c,e,g⟩:=r;refine c8 (T.fn d l) λa o z code A=>?_;obtain⟨h,C,i,k,D⟩:=A;refine b (vf a o _ ⟨⟨λq=>?_,i,k,tQ j D,by rw[<-m];rfl,rfl,rfl,n,s,t,u,w,x,y,c,e,λv=>g z code h v⟩,e1▸C⟩);rw[q,j]at i;obtain rfl:=Option.some.inj i;cases k
theorem Ex(T:Top p loose mean mg mb B.h₀)(F:∀b,B.K b=if b=B.P0 then none else B.h₀.get? b)(l:B.ps0=#[]){w:Str}{y:Addr}{z:Obj}{fz:FuncData}(G:mg w=some (.ref y))(H:B.h₀.get? y=some z)(I:z.data=.func fz)(J:fz.code=.ref B.c0)(A:B.h₀.TableAt B.c0 B.P0 #[])(K:B.h₀.IsCode B.c0 B.P0 #[])(L:∀fd∈aH,("zip":Str)∈fd.gs->fd.name=w)(M:∀fd∈aH,fd.name≠("compare":Str)->tH p fd)(g:∀x∈mx,mg x.1=none)(h:∀x∈mx,mb x.1=some x.2)(i:valOf p ("ELLIPSIS_MARKER":Str)=some (.str "...")):Gd B aH mg mb:=by
 have n:=A.2;have c:∀{a:Addr}{m:Str->Option Value},B.h₀.Ns a m->a≠B.P0:=λ{a m}r q=>by refine cU r λo es ep d=>?_;obtain⟨C,N,_⟩:=d;rw[q,n]at C;obtain rfl:=Option.some.inj C;cases N
 refine⟨⟨λb o O e=>by rw[F,if_neg O];exact e,T.g,T.b,c T.g,c T.b,λx D=>⟨g x D,h x D⟩,l▸A,l▸K,?_,?_⟩,?_,?_,yU,λfd j s=>?_⟩
 ·refine aG λk=>bd (T.bmain) λP Q d=>?_;obtain⟨R,S,t,E,U,V⟩:=d;exact k (j7 P Q ⟨R,S,(λq=>by rw[q,n]at t;obtain rfl:=Option.some.inj t;cases E),t,E,U,V⟩)
 ·refine aG λk=>aK (T.const _ _ i) λv d=>?_;obtain⟨W,u⟩:=d;have:=u B.h₀;refine k ?_;cases this;exact⟨_,W⟩
 ·exact T.nolimit
 ·exact aK (T.nolimit) λZ d=>cx d λr _=>c r
 ·refine cU (t7 T n G H I J (L fd j) (M fd j s)) λa o f d=>?_;have X:=d.1;have Y:=d.2;refine vf a o f ⟨X,Y,?_⟩;have:aH.all (λfd=>!(fd.name==("__debug__":Str)))=true:=by decide+kernel
  simpa using List.all_eq_true.mp this fd j
end
end Mine
end
noncomputable section
open PySem PySem.W PyProof.Rows
set_option maxRecDepth 100000
set_option maxHeartbeats 8000000
namespace Mine
noncomputable def vs(n:String)(i:Nat):Value:=.str (Str.ofString n) i
noncomputable def kv(P:Params)(n:String)(i:Nat)(v:Value):DictEntry:={hash:=PyData.keyHash P (Str.ofString n),key:=vs n i,val:=v}
noncomputable def kr(P:Params)(n:String)(i a:Nat):=kv P n i (.ref a)
noncomputable def oN:Obj:={cls:=.none,data:=.fields #[]}
noncomputable def pN:Stmt:=.Pass ⟨0,0,0,0⟩
noncomputable def HA(i:Nat)(q:String)(c:Nat):Obj:=(((sub (PySem.Challenge.pw_xb0025_01.main.body.getD 1 pN)).2.2.getD 0 []).getD i pN).casesOn (λn a b _ _ _ s _ _ _=>{cls:=.type "function",data:=.func {name:=n,qualname:=Str.ofString q,params:=a,body:=.stmts b,scope:=s,globals:=3,closure:=[],defaults:=.none,kwdefaults:=.none,pyModule:=vs "cpy313.pstats" 187,code:=.ref c}}) (λ_ _ _ _ _ _ _ _ _ _=>oN) (λ_ _ _ _ _ _ _ _ _ _ _=>oN) (λ_ _=>oN) (λ_ _=>oN) (λ_ _ _=>oN) (λ_ _ _ _ _ _ _=>oN) (λ_ _ _ _=>oN) (λ_ _ _ _ _=>oN) (λ_ _ _ _ _=>oN) (λ_ _ _ _ _=>oN) (λ_ _ _ _=>oN) (λ_ _ _ _=>oN) (λ_ _ _=>oN) (λ_ _ _=>oN) (λ_ _ _=>oN) (λ_ _ _=>oN) (λ_ _ _ _ _=>oN) (λ_ _ _ _ _=>oN) (λ_ _ _=>oN) (λ_ _=>oN) (λ_ _ _ _=>oN) (λ_ _=>oN) (λ_ _=>oN) (λ_ _=>oN) (λ_=>oN) (λ_=>oN) (λ_=>oN)
noncomputable def K1(P:Params):Frag:=
[(3,{cls:=.type "dict",data:=.dict #[kv P "__name__" 165 (vs "law_xb0025_01" 328),kv P "__doc__" 166 .none,kv P "__package__" 167 .none,kv P "__loader__" 168 (.builtin "__main__.__loader__#opaque"),kv P "__spec__" 169 .none,kr P "__annotations__" 170 6,kr P "__builtins__" 171 4,kv P "__file__" 173 (vs "/claim/cut.py" 172),kv P "__cached__" 174 .none,kr P "TupleComp" 230 38,kr P "func_std_string" 238 49,kr P "add_func_stats" 256 56,kr P "add_callers" 267 63,kv P "ELLIPSIS_MARKER" 271 (vs "..." 270),kr P "_ellipsis_match" 283 70,kr P "_strip_exception_details" 293 77,kr P "_iter_escaped_chars" 305 84,kr P "_strip_quoted_realnames" 317 91,kr P "_check_parenthesis" 327 98,kr P "_law_told" 335 103,kr P "_law_dots" 341 108,kr P "_law_looks" 347 113,kr P "_law_functions" 360 120,kr P "_law_add" 366 125,kr P "_law_note" 384 132,kr P "_law_tree" 401 139,kr P "_law_sort" 418 146,kr P "_law_nest" 428 153,kr P "_law_end" 437 160,kr P "_law_came_first" 451 167,kr P "_law_due" 457 172,kr P "law" 463 177] 32}),
 (22,{cls:=.type "tuple",data:=.seq #[]}),
 (24,{cls:=.type "tuple",data:=.seq #[vs "self" 204,vs "comp_select_list" 205]}),
 (25,{cls:=.type "tuple",data:=.seq #[]}),
 (27,{cls:=.type "code",data:=.fields #[vs "__init__" 201,vs "TupleComp.__init__" 202,vs "/claim/cut.py" 203,.int 4 0,.int 2 0,.int 0 0,.int 0 0,.int 3 0,.ref 22,.bool true,.int 181 0,.ref 23,.none,.ref 24,.ref 25,.ref 26,.int 206 0,.int 4 0,vs "/claim/cut.py" 207]}),
 (28,HA 0 "TupleComp.__init__" 27),
 (34,{cls:=.type "code",data:=.fields #[vs "compare" 209,vs "TupleComp.compare" 210,vs "/claim/cut.py" 211,.int 7 0,.int 3 0,.int 0 0,.int 0 0,.int 3 0,.ref 29,.bool true,.int 181 0,.ref 30,.none,.ref 31,.ref 32,.ref 33,.int 219 0,.int 7 0,vs "/claim/cut.py" 220]}),
 (35,HA 1 "TupleComp.compare" 34),
 (37,{cls:=.type "dict",data:=.dict #[kv P "__module__" 196 (vs "cpy313.pstats" 187),kv P "__firstlineno__" 200 (.int 2 199),kr P "__init__" 208 28,kr P "compare" 221 35,kr P "__static_attributes__" 223 36,kr P "__dict__" 225 39,kr P "__weakref__" 227 40,kv P "__doc__" 228 .none] 4}),
 (38,{cls:=.type "type",data:=.cls {name:=Str.ofString "TupleComp",bases:=[.type "object"],mro:=[.ref 38,.type "object"],ns:=37,qualname:=Str.ofString "TupleComp"},slots:=#[none,none,some (vs "TupleComp" 189),some (vs "TupleComp" 197),some (.builtin "object.__new__"),some (.bool true)]})]
noncomputable def qV:Program:=view PySem.Challenge.pw_xb0025_01 [1,2,3,4,6,7,8,10,11,12,14,15,16,17,18,19,20,21,22,23,24,25,26]
noncomputable def wF:List Addr:=[3,22,24,25,27,28,34,35,37,38]
theorem fQ(P:Params):wF=(K1 P).map (·.1):=rfl
theorem hl:LeftO PySem.Challenge.pw_xb0025_01 qV [] (λs=>xlAt qV [] s&&recOk (RowW.records (OpenRow.toRowW (OpenLaw.row PySem.Challenge.rw_xb0025_01))) s) (Hook.obs (kHook K1 wF fQ)) (Hook.val (kHook K1 wF fQ)) 2084:=by intro w;kernel_rfl
theorem Dk:OpenLaw.wellSaid PySem.Challenge.rw_xb0025_01=true:=by kernel_rfl
theorem E6:(chainsOk qV&&opensWell (OpenLaw.row PySem.Challenge.rw_xb0025_01).prog&&(frees (OpenRow.toRowW (OpenLaw.row PySem.Challenge.rw_xb0025_01))&&(OpenRow.toRowW (OpenLaw.row PySem.Challenge.rw_xb0025_01)).within.isEmpty))=true:=by kernel_rfl
theorem HZ:(defOf qV (OpenLaw.row PySem.Challenge.rw_xb0025_01).name).isSome=true:=by kernel_rfl
noncomputable def dk:=(defOf qV (OpenLaw.row PySem.Challenge.rw_xb0025_01).name).get HZ
theorem GO(hc:WalkO qV [] (XL qV []) (Hook.says (kHook K1 wF fQ)) (OpenRow.toRowW (OpenLaw.row PySem.Challenge.rw_xb0025_01)) dk.1 dk.2 λf vs=>PySem.call f vs):PySem.Challenge.rw_xb0025_01.Holds:=by
 refine holds_law Dk (λDk=>?_);refine holds_open (q:=qV) (loose:=[]) (Xt:=λs=>xlAt qV [] s&&recOk (RowW.records (OpenRow.toRowW (OpenLaw.row PySem.Challenge.rw_xb0025_01))) s) (XP:=XL qV []) (Yf:=Hook.obs (kHook K1 wF fQ)) (Ya:=Hook.val (kHook K1 wF fQ)) (YP:=Hook.says (kHook K1 wF fQ)) (N:=2084) hl (Hook.of (kHook K1 wF fQ)) (Hook.keeps (kHook K1 wF fQ)) (λs e=>xl_of s (Bool.and_eq_true_iff.mp e).1) XL.keeps (d:=dk.1) (kwd:=dk.2) (by kernel_rfl) (by kernel_rfl) (by kernel_rfl) (λs e=>recFacts_of (Bool.and_eq_true_iff.mp e).2) (by rfl) Dk E6 ⟨rfl,rfl,rfl,rfl,rfl,by decide+kernel⟩ ?hw ?hc
 case hw=>w_witness2
 case hc=>exact hc
end Mine
end
noncomputable section
open PySem PySem.W PyProof.Rows Mine
set_option maxRecDepth 100000
set_option maxHeartbeats 8000000
theorem Mine.pM{b:Type}{P:List b->Prop}{n:Nat}{l:List b}(h:l.length=n+1)(k:∀a r,r.length=n->P (a::r)):P l:=by
 induction l using List.casesOn with
 |nil=>exact nomatch h
 |cons a r=>exact k a r (Nat.succ.inj h)
theorem Mine.G2{b:Type}{P:List b->Prop}{l:List b}(h:l.length=0)(k:P []):P l:=by
 induction l using List.casesOn with
 |nil=>exact k
 |cons a r=>exact nomatch h
theorem Mine.Hg{P:List Value->Prop}(h:∀a,P [a]):∀b:List Value,b.length=1->P b:=λ_ e=>
 pM e λa _ e=>G2 (P:=λl=>P (a::l)) e (h a)
theorem Mine.Hh{P:List Value->Prop}(h:∀a b,P [a,b]):∀c:List Value,c.length=2->P c:=λ_ e=>
 pM e λx _ e=>Hg (P:=λl=>P (x::l)) (λa=>h x a) _ e
theorem Mine.Hi{P:List Value->Prop}(h:∀a b c,P [a,b,c]):∀d:List Value,d.length=3->P d:=λ_ e=>
 pM e λx _ e=>Hh (P:=λl=>P (x::l)) (λa b=>h x a b) _ e
theorem Mine.Hj{P:List Value->Prop}(h:∀a b c d,P [a,b,c,d]):∀f:List Value,f.length=4->P f:=λ_ e=>
 pM e λx _ e=>Hi (P:=λl=>P (x::l)) (λa b c=>h x a b c) _ e
theorem Mine.HM{P:List Value->Prop}(h:∀a b c d e,P [a,b,c,d,e]):∀f:List Value,f.length=5->P f:=λ_ e=>
 pM e λx _ e=>Hj (P:=λl=>P (x::l)) (λa b c d=>h x a b c d) _ e
noncomputable def Mine.dO(n:Str):=(recsOf qV).find? λd=>d.name==n
theorem Mine.n7{n:Str}(h:(dO n).isSome=true):(dO n).get h∈recsOf qV/\((dO n).get h).name=n:=by have e:(recsOf qV).find? (λd=>d.name==n)=some ((dO n).get h):=(Option.some_get h).symm;have a:=List.find?_some e;exact⟨List.mem_of_find?_eq_some e,beq_iff_eq.mp a⟩
theorem Mine.o2{fd:FD}(h:(dO fd.name).isSome=true)(c:((dO fd.name).get h).body=mN fd.body fd.L fd.t 0)(d:((dO fd.name).get h).scope={fd.scope with more:=((dO fd.name).get h).scope.more})(e:∀(f g b:Value)(a:List Value),a.length=fd.np->bindArgs (Calls.docDef ((dO fd.name).get h).name ((dO fd.name).get h).params ((dO fd.name).get h).body ((dO fd.name).get h).scope f g b) ⟨a,[]⟩=pure (((fd.L.take fd.np).map bl.name).zip a)):tH qV fd:=
 ⟨_,(n7 h).1,(n7 h).2,c,d,e⟩
theorem Mine.o3:∀fd∈aH,fd.name≠("compare":Str)->tH qV fd:=by
 unfold aH
 repeat'(first|refine List.forall_mem_cons.mpr ⟨?_,?_⟩|exact λ_ h=>absurd h List.not_mem_nil)
 all_goals first
  |exact λh=>absurd rfl h
  |exact λ_=>o2 (by kernel_rfl) (by kernel_rfl) (by kernel_rfl) λg i f=>Hg λa=>by kernel_rfl
  |exact λ_=>o2 (by kernel_rfl) (by kernel_rfl) (by kernel_rfl) λg i f=>Hh λa b=>by kernel_rfl
  |exact λ_=>o2 (by kernel_rfl) (by kernel_rfl) (by kernel_rfl) λg i f=>Hj λa b c d=>by kernel_rfl
  |exact λ_=>o2 (by kernel_rfl) (by kernel_rfl) (by kernel_rfl) λg i f=>HM λa b c d e=>by kernel_rfl
noncomputable def Mine.G5(i:Nat):Pos:=([⟨86,4,86,7⟩,⟨86,10,86,11⟩,⟨86,4,86,11⟩,⟨87,4,87,10⟩,⟨87,13,87,18⟩,⟨87,4,87,18⟩,⟨88,8,88,11⟩,⟨88,13,88,15⟩,⟨88,8,88,15⟩,⟨88,19,88,28⟩,⟨88,29,88,33⟩,⟨88,19,88,34⟩,⟨88,4,95,27⟩,⟨96,7,96,13⟩,⟨97,15,97,18⟩,⟨97,20,97,24⟩,⟨97,14,97,25⟩,⟨97,8,97,25⟩,⟨97,8,97,25⟩,⟨96,4,97,25⟩,⟨89,11,89,17⟩,⟨90,19,90,22⟩,⟨90,24,90,28⟩,⟨90,31,90,33⟩,⟨90,24,90,33⟩,⟨90,18,90,34⟩,⟨90,12,90,34⟩,⟨90,12,90,34⟩,⟨91,12,91,18⟩,⟨91,21,91,26⟩,⟨91,12,91,26⟩,⟨92,13,92,15⟩,⟨92,19,92,23⟩,⟨92,13,92,23⟩,⟨93,12,93,18⟩,⟨93,21,93,25⟩,⟨93,12,93,25⟩,⟨95,19,95,22⟩,⟨95,24,95,26⟩,⟨95,18,95,27⟩,⟨95,12,95,27⟩,⟨95,12,95,27⟩,⟨92,8,95,27⟩,⟨89,8,95,27⟩]:List Pos).getD i ⟨0,0,0,0⟩
theorem Mine.lN:(dO ("_iter_escaped_chars":Str)).isSome=true:=by kernel_rfl
theorem Mine.Cw:ww qV G5:=
 ⟨(dO ("_iter_escaped_chars":Str)).get lN,(n7 lN).1,(n7 lN).2,by kernel_rfl,by kernel_rfl,by kernel_rfl,by kernel_rfl,by decide+kernel,by kernel_rfl,by kernel_rfl,by kernel_rfl,by kernel_rfl,by kernel_rfl,λ_ _ _ _=>by kernel_rfl⟩
theorem Mine.Dz:∀fd∈aH,("zip":Str)∈fd.gs->fd.name=("add_callers":Str):=by decide+kernel
theorem Mine.zB:valOf qV ("ELLIPSIS_MARKER":Str)=some (.str "..."):=rfl
theorem Mine.zo:∀x∈mx,bootBuiltins x.1=some x.2:=by
 unfold mx;simp only[List.mem_cons,List.not_mem_nil,or_false,forall_eq_or_imp,forall_eq]
 repeat' constructor
theorem Mine.zW:∀x∈mx,x.1∉startupNames/\x.1∉looseW qV []/\x.1∉(recsOf qV).map (·.name)/\x.1∉(litsOf qV).map (·.1)/\x.1∉(clssOf qV (looseW qV [])).map (·.name):=by decide+kernel
end
noncomputable section
open PySem PySem.W PyProof.Rows Mine
set_option backward.match.sparseCases false
set_option maxRecDepth 100000
set_option maxHeartbeats 8000000
noncomputable def Mine.BD(o:Obj):Bool:=match o.cls,o.data with
 |.none,.fields vs=>vs.size==0
 |_,_=>false
noncomputable def Mine.KF(P:Params):Frag:=(K1 P).filter λx=>!BD x.2
section
variable(P:Params)
theorem Mine.Ar:keepIn (KF P) (.ref 38)=true:=rfl
theorem Mine.xR:keepIn (KF P) (.ref 35)=true:=rfl
theorem Mine.xS:makesIn (KF P) 38=true:=rfl
theorem Mine.Aq:findIn (KF P) (.ref 38) "__init__"=some (some (.ref 28)):=rfl
theorem Mine.xQ:typeIn (KF P) (.ref 28)=some (.type "function"):=rfl
theorem Mine.sL:findIn (KF P) (.ref 38) "__setattr__"=some (some (.builtin "object.__setattr__")):=rfl
theorem Mine.xU:plainOver (KF P) 38=true:=rfl
theorem Mine.xV:takerIn (KF P) 38 jx=some none:=rfl
theorem Mine.Ap:hasDictIn (KF P) 38=true:=rfl
theorem Mine.Ez:findIn (KF P) (.ref 38) "__getattribute__"=some (some (.builtin "object.__getattribute__")):=rfl
theorem Mine.EA:findIn (KF P) (.ref 38) "__getattr__"=some none:=rfl
theorem Mine.An:findIn (KF P) (.ref 38) jx=some none:=rfl
theorem Mine.CK:findIn (KF P) (.ref 38) "compare"=some (some (.ref 35)):=rfl
theorem Mine.Ao:typeIn (KF P) (.ref 35)=some (.type "function"):=rfl
theorem Mine.As:((KF P).lookup mainGlobals).map (λo=>match o.data with|.dict es _=>nsFind es "TupleComp"|_=>none)=some (some (.ref 38)):=rfl
theorem Mine.xT:((K1 P).map (·.1)).Nodup:=by have:(K1 P).map (·.1)=wF:=rfl;rw[this];unfold wF;decide
end
end
noncomputable section
open PySem PySem.W PyProof.Rows Mine
set_option maxRecDepth 100000
set_option maxHeartbeats 8000000
theorem Mine.hV{c e:Type}[BEq c][LawfulBEq c]:∀{l:List (c×e)}{a:c}{b:e},(l.map (·.1)).Nodup->(a,b)∈l->l.lookup a=some b
 |(x,y)::l,a,b,d,h=>by
  rw[List.map_cons,List.nodup_cons]at d;rcases List.mem_cons.mp h with h|h
  ·cases h;rw[List.lookup_cons,beq_self_eq_true]
  ·have:(a==x)=false:=beq_false_of_ne λq=>d.1 (q▸List.mem_map.mpr ⟨_,h,rfl⟩);rw[List.lookup_cons,this];exact hV d.2 h
theorem Mine.nz{c d:Type}[BEq c][LawfulBEq c]:∀{l:List (c×d)}{a:c}{b:d},l.lookup a=some b->(a,b)∈l
 |(x,y)::l,a,b,h=>by
  rw[List.lookup_cons]at h;induction q:(a==x)using Bool.casesOn with
  |true=>rw[q]at h;obtain rfl:=Option.some.inj h;rw[eq_of_beq q];exact .head _
  |false=>rw[q]at h;exact .tail _ (nz h)
theorem Mine.AG:∀i,i<21->(aH.map FD.name)[i]?=some ("compare":Str)->i=20:=by decide+kernel
section
variable{P:Params}{B:Bs}{mg mb:Str->Option Value}
theorem Mine.EB(d:(K1 P).In B.h₀)(e:B.h₀.get? B.P0=some {cls:=.none,data:=.fields #[]}):∀b o,(KF P).lookup b=some o->b≠B.P0/\B.h₀.get? b=some o:=by intro b o h;have c:(b,o)∈KF P:=nz h;unfold KF at c;obtain⟨f,g⟩:=List.mem_filter.mp c;have a:=d b o (hV (xT P) f);refine⟨λq=>?_,a⟩;rw[q,e]at a;obtain rfl:=Option.some.inj a;exact absurd (show(!BD ({cls:=.none,data:=.fields #[]}:Obj))=true from g) (by decide)
theorem Mine.B5(n:(K1 P).In B.h₀)(p:B.h₀.get? B.P0=some {cls:=.none,data:=.fields #[]})(r:B.h₀.Ns mainGlobals mg)(e:∀g a x y,B.isCmp g a x y↔kH B.prog B.w 38 g a x y):zd B aH mg (KF P) 38 28 35:=by
 have d:=EB n p;refine⟨d,?_,Ar P,xR P,xS P,Aq P,xQ P,?_,sL P,xU P,xV P,Ap P,Ez P,EA P,An P,CK P,Ao P,?_,e⟩
 ·have h:=As P;obtain⟨o,es,ep,s,t,_,u⟩:=r;cases q:(KF P).lookup mainGlobals with
  |none=>rw[q]at h;exact aN h
  |some A=>have:=(d _ _ q).2;rw[s]at this;obtain rfl:=Option.some.inj this;rw[q,Option.map_some]at h;rw[t]at h;rw[<-u];exact Option.some.inj h
 ·have v:∃o,(KF P).lookup 28=some o:=⟨_,rfl⟩;have f:=d 27 _ rfl;exact⟨_,_,_,_,_,_,rfl,rfl,rfl,rfl,rfl,rfl,rfl,rfl,λ_ _=>rfl,27,_,_,_,rfl,f.1,f.2,rfl,rfl⟩
 ·intro fd l w;have:fd=nf:=by obtain⟨i,e⟩:=List.getElem?_of_mem l;have m:i=20:=AG i (List.getElem?_eq_some_iff.mp e).1 (by rw[List.getElem?_map,e];exact congrArg some w);subst m;exact(Option.some.inj e).symm
  subst this;have j:=d 35 _ rfl;have k:=d 34 _ rfl;exact⟨_,_,j.1,j.2,rfl,⟨34,_,_,_,rfl,k.1,k.2,rfl,rfl⟩,rfl,rfl,λz=>absurd z (by decide),rfl,rfl,rfl,Hi λa b c=>rfl⟩
end
theorem Mine.yx{prog:Program}{w:World}{g:G}:∀{vs:List Value}{is:List Int},IntsAre vs is->aD prog w g vs (is.map .int)
 |_,_,.nil=>.nil
 |_,_,.cons _ _ h=>.cons (.int _ _) (yx h)
theorem Mine.CW:∀x∈mx,x.1≠("__name__":Str):=by decide
theorem Mine.xX{P:Params}{j:ExcName->Option Value}{k M:Str->Option Value}{prog:Program}{w:World}{s:Shared}{p l:Addr}{vs:List Value}{is:List Int}{r:Fl×List V×List aA}(T:Top qV (looseW qV []) j k M s.heap)(S:(K1 P).In s.heap)(U:s.gens=#[])(t:k "law"=some (.ref p))(hl:s.heap.get? l=some {cls:=.type "list",data:=.seq vs.toArray})(W:IntsAre vs is)(X:exs aH 300 ([.d (.list (is.map .int))]++List.replicate (iO.L.length -iO.np) .unb) iO.body []=some r)(Y:r.1=.ret (.d (.bool true))):
  wpAny (model prog w) callerA (call (.ref p) [.ref l]) (λx s'=>x=.bool true/\OldK s.heap s'.heap/\s'.os=s.os/\AllBare s'.gens) E0 s:=by
 obtain⟨d,Z,e1,e2,e3,e4⟩:=o3 hH (List.mem_of_getElem? (i:=2) rfl) (by decide);obtain⟨az,oz,fz,c0,P0,u,N,O,Q,z5,c⟩:=T.tab d Z
 let B:Bs:={prog:=prog,w:=w,K:=λb=>if b=P0 then none else s.heap.get? b,P0:=P0,c0:=c0,ps0:=#[],h₀:=s.heap,hP0:=(λq=>by rw[c.2]at q;cases q),isCmp:=λg a x y=>kH prog w 38 g a x y,cmpMono:=@λ_ _ le _ _ _ h=>kH.mono le h}
 have v:d.name=("add_callers":Str):=e1;rw[v]at u;have gd:Gd B aH k M:=Ex (B:=B) T (λ_=>rfl) rfl u N O Q c z5 Dz o3 (λx o=>let⟨z,A,C,a4,a5⟩:=zW x o;T.free x.1 z A C a4 a5) (λx o=>by rw[T.builtins x.1 (CW x o)];exact zo x o) zB;have cl:zd B aH k (KF P) 38 28 35:=B5 (B:=B) S c.2 T.g λ_ _ _ _=>Iff.rfl;obtain⟨ag,og,fg,gn,D⟩:=Ab (B:=B) T c.2 Cw;have E:∀n,wt B aH n:=uP gd cl (λF gs n f m H=>za (f.symm▸gd) m H) (λF gs n f m H=>xE (f.symm▸gd) m (f.symm▸gn) D H);obtain⟨R,ol,ff,G,I⟩:=t7 (B:=B) T c.2 u N O Q (λh=>absurd h (by decide)) (o3 iO (List.mem_of_getElem? (i:=19) rfl) (by decide));have:R=p:=by have h:k "law"=some (.ref R):=I;rw[t]at h;cases h;rfl
 subst this;have rs:aM B B.K [] [.d (.list (is.map .int))] [.ref l]:=by refine .cons (.d (.list (n:=0) ?_ (by simpa using yx W))) .nil;show(if l=P0 then none else s.heap.get? l)=_;rw[if_neg (λq=>by rw[q,c.2]at hl;cases hl)];exact hl
 refine wpAny_mono (wg (F:=⟨B,[],⟨default,0,0,[],default,none,.none,none,0⟩,[]⟩) (n:=300) (λ_=>rfl) rfl (by rw[U];intro y hy;simp at hy) rfl gd G (t4 (yU iO (List.mem_of_getElem? (i:=19) rfl))) ⟨rfl,by decide,by decide⟩ (λF' J f m=>(E 300).exs F' J f m) rs rfl X Y) (λx s' h=>?_) λ_ _ e=>e;obtain⟨g',aa,L,z,A,C⟩:=h;cases L with
 |d L=>cases L;exact⟨rfl,z,A,C⟩
theorem Mine.holds_of(a:∀is:List Int,is.length<=63->∃r,exs aH 300 ([.d (.list (is.map .int))]++List.replicate (iO.L.length -iO.np) .unb) iO.body []=some r/\r.1=.ret (.d (.bool true))):PySem.Challenge.rw_xb0025_01.Holds:=by
 refine GO ?_;intro w n p I J G Y K o L M t N O P Q u R g v q s S b c i j k;have y:=kIn_of Y;refine Ground.open G ?_;intro T B D U V
 wrow_args b c i j k
 rename_i is _ _ _ _ _ _ _ l vs _ hL ra w1 r0 hI hr hc _
 obtain⟨r,z,A⟩:=a is (by lia);cases w1 with
 |list hw _=>obtain⟨W,f,_,X,m⟩:=hL;rw[hw]at f;obtain rfl:=Option.some.inj f;injection m with C _;rw[C]at hw;refine wpAny_mono (xX T y v g hw hI z A) (λx s' h=>?_) (λ_ _ e=>e.elim);obtain⟨rfl,E,F,H⟩:=h;exact⟨.inl ⟨_,.bool true,[],rfl,λcls=>rfl,.bool true,by wrow_post,λ_=>⟨.nil,λ_ h=>nomatch h⟩⟩,E,F,H⟩
end
noncomputable section
open PySem PySem.Calls PySem.Spec PySem.W PyProof.Rows Builtin.Str
set_option backward.match.sparseCases false
namespace Mine
@[simp high] theorem cv{b c:Type}(a:b)(f:b->Option c):(some a).bind f=f a:=rfl
@[simp high] theorem H6{b c:Type}(a:b)(f:b->c):(some a).map f=some (f a):=rfl
noncomputable def Dl(c:Option aA)(i:Nat):V:=match c with
 |some (.froz x)=>.d x
 |_=>.ref i
@[simp] theorem kF(i:Nat)(st:List aA):vY (.ref i) st=some (Dl (aI st i) i,st):=by
 show(match aI st i with|some (.froz x)=>some (V.d x,st)|_=>some (V.ref i,st))=_;unfold Dl;cases aI st i with
 |none=>rfl
 |some c=>induction c using aA.casesOn<;>rfl
section
variable{T:List FD}{n:Nat}{env:List V}{st:List aA}
noncomputable def Ia(r:List V×List aA):Option (V×List aA):=if r.1≠[]then some (lX r.1,r.2)else none
noncomputable def yw{c:Type}(a b:c):Bool->c|true=>a|false=>b
@[simp] theorem C2{c:Type}(a b:c):yw a b true=a:=rfl
@[simp] theorem C1{c:Type}(a b:c):yw a b false=b:=rfl
@[simp] theorem GJ(c a b:X):ev T (n+1) env (.ite c a b) st=(ev T n env c st).bind λr=>(aZ r.1).bind λd=>yw (ev T n env a r.2) (ev T n env b r.2) d:=by
 show(ev T n env c st).bind (λr=>(aZ r.1).bind λd=>match d with|true=>ev T n env a r.2|false=>ev T n env b r.2)=_
 congr 1
noncomputable def Ic(r q:V×List aA):Option (V×List aA):=(vT r.1).bind λxs=>(vT q.1).bind λys=>(eq xs).bind λis=>(eq ys).bind λa=>if xs≠[]/\xs.length=ys.length/\xs.length<=64 then some (.d (.tuple ((List.zipWith (·+·) is a).map .int)),q.2)else none
noncomputable def Fu(r q:V×List aA):Option (V×List aA):=(vS r.1).bind λx=>(vS q.1).bind λy=>if(y.length==0)=false/\x.length<=1000000/\(Txt.split x y).length<=sizeLine then some (.ref q.2.length,q.2++[.list ((Txt.split x y).map .str)])else none
noncomputable def jw(T:List FD)(n:Nat)(a:Option X)(env:List V)(st:List aA):Option (Bool×List aA):=match a with
    |none=>some (true,st)
    |some c=>(ev T n env c st).bind λr=>(aZ r.1).map λb=>(b,r.2)
noncomputable def iW(T:List FD)(n:Nat)(t:dJ)(a:Option X)(e:X)(env:List V)(ds:List PyData)(st:List aA)(acc:List PyData):Option (List PyData×List aA):=x1 t env (jw T n a) (λenv'=>ev T n env' e) ds st acc
@[simp] theorem FZ(t:dJ)(a:Option X)(e:X)(acc:List PyData):iW T n t a e env [] st acc=some (acc,st):=rfl
theorem qv(t:dJ)(a:Option X)(e:X)(d:PyData)(ds acc:List PyData)(h:acc.length<=100):iW T n t a e env (d::ds) st acc=(cd t (.d d) env).bind λenv'=>(jw T n a env' st).bind λc=>yw ((ev T n env' e c.2).bind λr=>(fz r.1 r.2).bind λq=>iW T n t a e env ds q.2 (acc++[q.1])) (iW T n t a e env ds c.2 acc) c.1:=by
 show(cd t (.d d) env).bind _=_
 congr 1
 funext env'
 show(jw T n a env' st).bind _=_
 congr 1
 funext c
 obtain⟨b,s⟩:=c;induction b using Bool.casesOn
 ·rfl
 ·show((ev T n env' e s).bind λr=>(fz r.1 r.2).bind λq=>if acc.length<=sizeLine then _ else none)=_;simp only[if_pos (Nat.le_trans h (by decide:100<=sizeLine))];rfl
noncomputable def u1(T:List FD)(n:Nat)(t:dJ)(a b:X)(env:List V)(ds:List PyData)(st:List aA)(ks:List Str)(vs:List PyData):Option (List Str×List PyData×List aA):=wW t env (λenv'=>ev T n env' a) (λenv'=>ev T n env' b) ds st ks vs
@[simp] theorem FR(t:dJ)(a b:X)(ks:List Str)(vs:List PyData):u1 T n t a b env [] st ks vs=some (ks,vs,st):=rfl
noncomputable def j6(ks:List Str)(vs:List PyData)(T:List FD)(n:Nat)(t:dJ)(a b:X)(env:List V)(ds:List PyData)(k:V)(q:PyData×List aA):Option (List Str×List PyData×List aA):=match k with
  |.d (.str x)=>if ks.length<=sizeLine then u1 T n t a b env ds q.2 (cg ks x) (cA ks vs x q.1)else none
  |_=>none
theorem lm(t:dJ)(a b:X)(d:PyData)(ds:List PyData)(ks:List Str)(vs:List PyData):u1 T n t a b env (d::ds) st ks vs=(cd t (.d d) env).bind λenv'=>(ev T n env' a st).bind λx=>(ev T n env' b x.2).bind λr=>(fz r.1 r.2).bind λq=>j6 ks vs T n t a b env ds x.1 q:=rfl
theorem gx(ks:List Str)(vs:List PyData)(t:dJ)(a b:X)(ds:List PyData)(x:Str)(q:PyData×List aA)(h:ks.length<=100):j6 ks vs T n t a b env ds (.d (.str x)) q=u1 T n t a b env ds q.2 (cg ks x) (cA ks vs x q.1):=by show(if ks.length<=sizeLine then _ else none)=_;rw[if_pos (Nat.le_trans h (by decide))]
noncomputable def Ih(q:PyData×List aA):Option (List PyData×List aA):=(qZ q.1).bind λxs=>some (xs,q.2)
noncomputable def GR(r:V×List aA):Option (List PyData×List aA):=(vS r.1).bind λx=>if x.length<=1000000 then some (eZ 0 false x.cps.toList,r.2)else none
noncomputable def HN(op:Operator)(a:Int)(env:List V)(i:Nat)(r:V×List aA):Option (Fl×List V×List aA):=(vI r.1).bind λb=>match op with
 |.Add=>some (.nx,eA env i (.d (.int (a+b))),r.2)
 |.Sub=>some (.nx,eA env i (.d (.int (a -b))),r.2)
 |_=>none
noncomputable def cf(T:List FD)(n:Nat)(t:dJ)(body:List S)(ds:List PyData)(env:List V)(st:List aA):Option (Fl×List V×List aA):=qa t (λenv'=>exs T n env' body) ds env st
noncomputable def f5(T:List FD)(n:Nat)(t:dJ)(body:List S)(ds:List PyData)(r:Fl×List V×List aA):Option (Fl×List V×List aA):=match r.1 with
  |.nx=>cf T n t body ds r.2.1 r.2.2
  |.brk=>some (.nx,r.2.1,r.2.2)
  |.ret v=>some (.ret v,r.2.1,r.2.2)
@[simp] theorem t9(t:dJ)(body:List S)(ds:List PyData):f5 T n t body ds (.nx,env,st)=cf T n t body ds env st:=rfl
@[simp] theorem Et(t:dJ)(body:List S):cf T n t body [] env st=some (.nx,env,st):=rfl
@[simp] theorem eQ(t:dJ)(body:List S)(d:PyData)(ds:List PyData):cf T n t body (d::ds) env st=(cd t (.d d) env).bind λenv'=>(exs T n env' body st).bind (f5 T n t body ds):=rfl
@[simp] theorem GK(c:X)(a b:List S):ex T (n+1) env (.ite c a b) st=(ev T n env c st).bind λr=>(aZ r.1).bind λd=>yw (exs T n env a r.2) (exs T n env b r.2) d:=by
 show(ev T n env c st).bind (λr=>(aZ r.1).bind λd=>match d with|true=>exs T n env a r.2|false=>exs T n env b r.2)=_
 congr 1
noncomputable def Cc(env:List V)(r q:V×List aA):Option (Fl×List V×List aA):=(vR r.1).bind λa=>(vI q.1).bind λk=>match aI q.2 a with
 |some (.list xs)=>if-1<=k/\k<=0/\xs.length<=sizeLine then(seqIndex? k xs.length).bind λj=>some (.nx,env,aT q.2 a (.list (xs.eraseIdx j)))else none
 |_=>none
noncomputable def Ep(T:List FD)(n:Nat)(r:List S)(q:Fl×List V×List aA):Option (Fl×List V×List aA):=match q.1 with
   |.nx=>exs T n q.2.1 r q.2.2
   |f=>some (f,q.2.1,q.2.2)
@[simp] theorem xg(s:S)(r:List S):exs T (n+1) env (s::r) st=(ex T n env s st).bind (Ep T n r):=rfl
end
noncomputable def fin(k:Nat)(r:Fl×List V×List aA):Option (PyData×List aA):=match r.1 with
    |.ret v=>(fz v r.2.2).map λq=>(q.1,q.2.take k)
    |.nx=>some (.none,r.2.2.take k)
    |.brk=>none
@[simp] theorem ox(x:PyData)(st:List aA):fz (.d x) st=some (x,st):=rfl
section
variable{τ:Type}(f:X->τ->Option (V×τ))(x:X)(xs:List X)(st:τ)
end
section
variable(f:X->List aA->Option (V×List aA))(x y:X)(xs:List X)(st:List aA)(op:BoolOp)
end
section
variable(st:List aA)(x y:Int)
@[simp] theorem k9(x y:Str):dt st .Eq (.d (.str x)) (.d (.str y))=some (x==y,st):=rfl
theorem wQ(x:PyData)(ys:List PyData):dt st .In (.d x) (.d (.list ys))=if d0 x&&d0 (.list ys)then some (ys.any λy=>PyData.eqv y x,st)else none:=by induction x using PyData.casesOn<;>rfl
end
end Mine
end
noncomputable section
open PySem PySem.Calls PySem.Spec PySem.W PyProof.Rows Builtin.Str
set_option backward.match.sparseCases false
set_option genCtorIdx false
set_option genInjectivity false
set_option genSizeOf false
set_option genSizeOfSpec false
namespace Mine
noncomputable def Cn(a:Type):Type:=List Nat->a->Prop
noncomputable abbrev Kv(a:Type):Type:=a->List aA->List Nat->Prop
noncomputable abbrev Kx:Type:=Fl->List V->List aA->List Nat->Prop
section
variable{α β κ:Type}
noncomputable def d8(a:α)(s:List aA):Cn (Kv α):=λtr k=>k a s tr
noncomputable def gZ(f:Fl)(e:List V)(s:List aA):Cn Kx:=λtr k=>k f e s tr
noncomputable def cE(c:Cn (Kv α))(d:α->List aA->Cn κ):Cn κ:=λtr k=>c tr λr s a=>d r s a k
noncomputable def q7:Cn κ:=λ_ _=>True
noncomputable def c9(o:Option α)(d:α->Cn κ):Cn κ:=λtr k=>match o with|some a=>d a tr k|none=>True
noncomputable def zR(o:Option (α×List aA))(d:α->List aA->Cn κ):Cn κ:=λtr k=>match o with|some (a,s)=>d a s tr k|none=>True
noncomputable def wm(A:List Nat->κ->Prop)(c:Cn κ):Cn κ:=λtr k=>match tr with
 |[]=>c [] k
 |0::t=>A t k
 |(n+1)::t=>c (n::t) k
noncomputable def eG(o:Option α)(d:α->Cn κ):Cn κ:=wm (λt k=>∀a,o=some a->d a t k) (c9 o d)
noncomputable def gO(o:Option (α×List aA))(d:α->List aA->Cn κ):Cn κ:=wm (λt k=>∀a s,o=some (a,s)->d a s t k) (zR o d)
noncomputable def DG(b:Bool)(x y:Cn κ):Cn κ:=match b with|true=>x|false=>y
noncomputable def zU:List V->(List V->Cn κ)->Cn κ
 |[],d=>d []
 |v::vs,d=>zU vs λa=>d (v::a)
noncomputable def HB(v:V)(d:V->Cn κ):Cn κ:=match v with
 |.d x=>d (.d x)
 |.ref i=>d (.ref i)
 |.tup vs=>d (.tup vs)
 |.cmp x y=>d (.cmp x y)
 |.unb=>d .unb
noncomputable def Hv(o:Option (α×List aA))(k:Kv α):Prop:=∀r s t,o=some (r,s)->k r s t
noncomputable def Hx(o:Option (Fl×List V×List aA))(k:Kx):Prop:=∀f e s t,o=some (f,e,s)->k f e s t
noncomputable def Sg(H:κ->Prop)(c:Cn κ):Prop:=∀tr k,H k->c tr k
theorem Sg.ret(a:α)(s:List aA):Sg (Hv (some (a,s))) (d8 a s):=λ_ _ h=>h _ _ _ rfl
theorem Sg.retx(f:Fl)(e:List V)(s:List aA):Sg (Hx (some (f,e,s))) (gZ f e s):=λ_ _ h=>h _ _ _ _ rfl
theorem Sg.stp{H:κ->Prop}:Sg H q7:=λ_ _ _=>trivial
theorem Sg.thn{o:Option (α×List aA)}{c:Cn (Kv α)}{d:α->List aA->Cn κ}{H:Option (α×List aA)->κ->Prop}(s:Sg (Hv o) c)(t:∀a s,Sg (H (some (a,s))) (d a s)):Sg (H o) (cE c d):=λtr k h=>
 s tr _ λr s' b e=>t r s' b k (e▸h)
theorem Sg.fixP{o:Option α}{d:α->Cn κ}{H:Option α->κ->Prop}(t:∀a,Sg (H (some a)) (d a)):Sg (H o) (c9 o d):=λtr k h=>by
 induction o using Option.casesOn with
 |none=>trivial
 |some a=>exact t a tr k h
theorem Sg.fixV{o:Option (α×List aA)}{d:α->List aA->Cn κ}{H:Option (α×List aA)->κ->Prop}(t:∀a s,Sg (H (some (a,s))) (d a s)):Sg (H o) (zR o d):=λtr k h=>by
 induction o using Option.casesOn with
 |none=>trivial
 |some a=>exact t a.1 a.2 tr k h
theorem Sg.ask{A:List Nat->κ->Prop}{c:Cn κ}{H:κ->Prop}(a:∀t k,H k->A t k)(s:Sg H c):Sg H (wm A c):=λtr k h=>by
 induction tr using List.casesOn with
 |nil=>exact s [] k h
 |cons n t=>induction n using Nat.casesOn with
  |zero=>exact a t k h
  |succ n=>exact s (n::t) k h
theorem Sg.askP{o:Option α}{d:α->Cn κ}{H:Option α->κ->Prop}(t:∀a,Sg (H (some a)) (d a)):Sg (H o) (eG o d):=Sg.ask (λb k h a e=>t a b k (e▸h)) (.fixP t)
theorem Sg.askV{o:Option (α×List aA)}{d:α->List aA->Cn κ}{H:Option (α×List aA)->κ->Prop}(t:∀a s,Sg (H (some (a,s))) (d a s)):Sg (H o) (gO o d):=Sg.ask (λb k h a s e=>t a s b k (e▸h)) (.fixV t)
theorem Sg.dec{b:Bool}{c d:Cn κ}{H:Bool->κ->Prop}(s:Sg (H true) c)(t:Sg (H false) d):Sg (H b) (DG b c d):=by
 induction b using Bool.casesOn with
 |false=>exact t
 |true=>exact s
theorem Sg.frv{d:V->Cn κ}{H:κ->Prop}(v:V)(s:Sg H (d v)):Sg H (HB v d):=by induction v using V.casesOn<;>exact s
theorem Sg.frc{d:List V->Cn κ}{H:κ->Prop}(l:List V)(s:Sg H (d l)):Sg H (zU l d):=by
 induction l generalizing d with
 |nil=>exact s
 |cons v vs a=>exact a s
end
structure Nm where
 ev:List V->X->List aA->Cn (Kv V)
 evi:List V->It->List aA->Cn (Kv (List PyData))
 ex:List V->S->List aA->Cn Kx
 exs:List V->List S->List aA->Cn Kx
section
variable(sm:Sm)(N:Nm)
noncomputable def HC(v:V)(st:List aA):Cn (Kv V):=match v with
 |.ref a=>gO (vY (.ref a) st) d8
 |.d x=>d8 (.d x) st
 |.cmp x y=>d8 (.cmp x y) st
 |.tup vs=>d8 (.tup vs) st
 |.unb=>q7
section
variable{κ:Type}
noncomputable def DL(v:V)(st:List aA)(d:PyData->List aA->Cn κ):Cn κ:=match v with
 |.ref a=>gO (fz (.ref a) st) d
 |.tup vs=>gO (fz (.tup vs) st) d
 |v=>zR (fz v st) d
noncomputable def oB(f:X->List aA->Cn (Kv V)):List X->List aA->Cn (Kv (List V))
 |[],st=>d8 [] st
 |x::xs,st=>cE (f x st) λr s=>cE (oB f xs s) λq s=>d8 (r::q) s
noncomputable def Cy(f:X->List aA->Cn (Kv V)):List X->List X->List aA->Cn (List V->Kv (List V))
 |[],[],st=>λtr k=>k [] [] st tr
 |k::ks,v::vs,st=>λtr K=>f k st tr λa s tr=>f v s tr λb s tr=>Cy f ks vs s tr λc d s tr=>K (a::c) (b::d) s tr
 |_,_,_=>q7
noncomputable def Cx(f:X->List aA->Cn (Kv V)):Option X->List aA->Cn (Kv (Option V))
 |none,st=>d8 none st
 |some e,st=>cE (f e st) λq s=>d8 (some q) s
noncomputable def xw(op:BoolOp)(f:X->List aA->Cn (Kv V)):List X->List aA->Cn (Kv V)
 |[],_=>q7
 |x::xs,st=>match xs with
  |[]=>f x st
  |_::_=>cE (f x st) λr s=>eG (aZ r) λb=>match op,b with
   |.And,false=>d8 r s
   |.Or,true=>d8 r s
   |_,_=>xw op f xs s
noncomputable def z9(t:dJ)(env:List V)(a:List V->List aA->Cn (Kv Bool))(e:List V->List aA->Cn (Kv V)):List PyData->List aA->List PyData->Cn (Kv (List PyData))
 |[],st,acc=>d8 acc st
 |d::ds,st,acc=>c9 (cd t (.d d) env) λenv'=>cE (a env' st) λc s=>DG c
   (cE (e env' s) λr s=>DL r s λq s=>if acc.length<=sizeLine then z9 t env a e ds s (acc++[q])else q7)
   (z9 t env a e ds s acc)
noncomputable def xA(t:dJ)(body:List V->List aA->Cn Kx):List PyData->List V->List aA->Cn Kx
 |[],env,st=>gZ .nx env st
 |d::ds,env,st=>c9 (cd t (.d d) env) λenv'=>zU env' λenv'=>λtr k=>body env' st tr λr e s tr=>(match r with
  |.nx=>xA t body ds e s
  |.brk=>gZ .nx e s
  |.ret v=>gZ (.ret v) e s) tr k
end
noncomputable def BB(env:List V)(a:Option X)(st:List aA):Cn (Kv Bool):=match a with
 |none=>d8 true st
 |some c=>cE (N.ev env c st) λr s=>eG (aZ r) λb=>d8 b s
noncomputable def Nm.ev1(env:List V)(x:X)(st:List aA):Cn (Kv V):=match x with
 |.v i=>HC (iY env i) st
 |.tup es=>cE (oB (N.ev env) es st) λr s=>if r≠[]then HB (lX r) λv=>d8 v s else q7
 |.lst es=>cE (oB (N.ev env) es st) λr s=>c9 (gM r) λds=>d8 (.d (.list ds)) s
 |.cell es=>cE (oB (N.ev env) es st) λr s=>c9 (gM r) λds=>d8 (.ref s.length) (s++[.list ds])
 |.bin op a b=>cE (N.ev env a st) λr s=>cE (N.ev env b s) λq s=>eG (eI op r q) λv=>d8 v s
 |.neg a=>cE (N.ev env a st) λr s=>c9 (vI r) λi=>d8 (.d (.int (-i))) s
 |.not a=>cE (N.ev env a st) λr s=>eG (aZ r) λb=>d8 (.d (.bool !b)) s
 |.cmp op a b=>cE (N.ev env a st) λr s=>cE (N.ev env b s) λq s=>gO (dt s op r q) λe s=>d8 (.d (.bool e)) s
 |.bop op es=>xw op (N.ev env) es st
 |.ite c a b=>cE (N.ev env c st) λr s=>eG (aZ r) λj=>DG j (N.ev env a s) (N.ev env b s)
 |.idx a i=>cE (N.ev env a st) λr s=>cE (N.ev env i s) λq s=>eG (cW s r q) λv=>d8 v s
 |.slc a lo n=>cE (N.ev env a st) λr s=>cE (Cx (N.ev env) lo s) λl s=>cE (Cx (N.ev env) n s) λh s=>c9 (sH l) λu=>c9 (sH h) λh'=>
    DL r s λq s=>eG (iq q u h') λd=>d8 (.d d) s
 |.fmt1 f a=>cE (N.ev env a st) λr s=>eG (p7 f r) λv=>d8 v s
 |.fmt3 f a=>cE (N.ev env a st) λr s=>eG (nh f r) λv=>d8 v s
 |.call f _ es=>cE (oB (N.ev env) es st) λr s=>gO (sm.callf f r s) λq s=>d8 (.d q) s
 |.bi b a=>cE (N.ev env a st) λr s=>gO (fJ b r s) d8
 |.meth m o es=>cE (N.ev env o st) λr s=>eG (if oX s m r=true then some true else none) λ_=>cE (oB (N.ev env) es s) λq s=>gO (d7 s m r q) d8
 |.cmpr f o a b=>cE (N.ev env o st) λr s=>c9 (vC r) λc=>cE (N.ev env a s) λq s=>cE (N.ev env b s) λp s=>gO (sm.callf f [.cmp c.1 c.2,q,p] s) λq s=>d8 (.d q) s
 |.lc e t it cond C=>cE (N.evi env it st) λds s=>wm (λtr k=>∀a s',x1 t (dM env C.caps) (λenv' st=>match cond with
    |none=>some (true,st)
    |some c=>(sm.ev env' c st).bind λr=>(aZ r.1).map λb=>(b,r.2)) (λenv'=>sm.ev env' e) ds s []=some (a,s')->k (.d (.list a)) s' tr)
   (cE (z9 t (dM env C.caps) (λenv'=>BB N env' cond) (λenv'=>N.ev env' e) ds s []) λq s=>d8 (.d (.list q)) s)
 |.dc a b t it C=>cE (N.evi env it st) λds s=>wm (λtr k=>∀x y s',wW t (dM env C.caps) (λenv'=>sm.ev env' a) (λenv'=>sm.ev env' b) ds s [] []=some (x,y,s')->k (.d (dD x y)) s' tr) (λtr k=>match wW t (dM env C.caps) (λenv'=>sm.ev env' a) (λenv'=>sm.ev env' b) ds s [] []with|some (a,b,s')=>k (.d (dD a b)) s' tr|none=>True)
 |.dct ks vs=>if ks=[]/\vs=[]then d8 (.d (.dict [])) st else if ks≠[]/\ks.length<=15/\ks.length=vs.length then λtr k=>Cy (N.ev env) ks vs st tr λr q s tr=>c9 (gM r) (λw=>c9 (gM q) λz=>eG (lq w z [] []) λd=>d8 (.d d) s) tr k else q7
 |.isTup a=>cE (N.ev env a st) λr s=>c9 (vX r) λx=>c9 (FX x) λb=>d8 (.d (.bool b)) s
 |.tzip a b C=>cE (N.ev env a st) λr s=>cE (N.ev env b s) λq s=>gO (Ic (r,s) (q,s)) d8
 |.split o a=>cE (N.ev env o st) λr s=>cE (N.ev env a s) λq s=>gO (Fu (r,s) (q,s)) d8
 |.mk a=>cE (N.ev env a st) λr s=>c9 (G0 r) λc=>d8 (.cmp c.1 c.2) s
 |.attr o=>cE (N.ev env o st) λr s=>c9 (vC r) λc=>d8 (.d (.list [.tuple [.int 1,.int c.1],.tuple [.int 0,.int c.2]])) s
 |.k c=>match c with
  |.none=>d8 (.d .none) st
  |.bool b=>d8 (.d (.bool b)) st
  |.int i=>d8 (.d (.int i)) st
  |.str x=>d8 (.d (.str x)) st
 |.g _ s=>d8 (.d (.str s)) st
 |x=>gO (sm.ev1 env x st) d8
noncomputable def Nm.evi1(env:List V)(it:It)(st:List aA):Cn (Kv (List PyData)):=match it with
 |.x e=>cE (N.ev env e st) λr s=>DL r s λq s=>c9 (qZ q) λxs=>d8 xs s
 |.rng es=>cE (oB (N.ev env) es st) λr s=>eG (AV r) λd=>d8 d s
 |.enu e=>cE (N.ev env e st) λr s=>DL r s λq s=>c9 (FY q) λxs=>d8 (dQ 0 xs) s
 |.items e=>cE (N.ev env e st) λr s=>c9 (Hz r) λkvs=>d8 (kvs.map λkv=>.tuple [kv.1,kv.2]) s
 |.gen e=>cE (N.ev env e st) λr s=>gO (GR (r,s)) d8
noncomputable def Nm.ex1(env:List V)(s:S)(st:List aA):Cn Kx:=match s with
 |.asg t e=>cE (N.ev env e st) λr s=>c9 (cd t r env) λenv'=>zU env' λenv'=>gZ .nx env' s
 |.asgC i e=>cE (N.ev env e st) λr s=>zU (eA env i r) λenv'=>gZ .nx env' s
 |.asgS is es=>cE (oB (N.ev env) es st) λr s=>c9 (dL is r env) λenv'=>zU env' λenv'=>gZ .nx env' s
 |.asgI b i e=>cE (N.ev env e st) λr s=>cE (N.ev env b s) λq s=>cE (N.ev env i s) λp s=>DL r s λz s=>eG (je s q p z) λg=>gZ .nx env g
 |.aug i op e=>c9 (vI (iY env i)) λa=>cE (N.ev env e st) λr s=>c9 (vI r) λb=>match op with
   |.Add=>zU (eA env i (.d (.int (a+b)))) λenv'=>gZ .nx env' s
   |.Sub=>zU (eA env i (.d (.int (a -b)))) λenv'=>gZ .nx env' s
   |_=>q7
 |.augI b i .Add e=>cE (N.ev env b st) λr s=>cE (N.ev env i s) λq s=>eG (cW s r q) λh=>cE (N.ev env e s) λp s=>c9 (vI h) λx=>c9 (vI p) λy=>eG (je s r q (.int (x+y))) λg=>gZ .nx env g
 |.ex e=>cE (N.ev env e st) λr s=>c9 (vX r) λx=>match x with
   |.none=>gZ .nx env s
   |_=>q7
 |.for t it body=>cE (N.evi env it st) λds s=>wm (λtr k=>∀f e s',qa t (λenv'=>sm.exs env' body) ds env s=some (f,e,s')->k f e s' tr) (xA t (λenv'=>N.exs env' body) ds env s)
 |.ite c a b=>cE (N.ev env c st) λr s=>eG (aZ r) λj=>DG j (N.exs env a s) (N.exs env b s)
 |.ret e=>cE (N.ev env e st) λr s=>gZ (.ret r) env s
 |.asrt e=>cE (N.ev env e st) λr s=>eG (aZ r) λb=>DG b (gZ .nx env s) q7
 |s=>wm (λtr k=>∀f e s',sm.ex1 env s st=some (f,e,s')->k f e s' tr) (λtr k=>match sm.ex1 env s st with|some (f,e,s')=>k f e s' tr|none=>True)
noncomputable def Nm.exs1(env:List V)(a:List S)(st:List aA):Cn Kx:=match a with
 |[]=>gZ .nx env st
 |s::r=>λtr k=>N.ex env s st tr λf e s' tr=>(match f with
  |.nx=>N.exs e r s'
  |f=>gZ f e s') tr k
noncomputable def Nm.step:Nm:=⟨N.ev1 sm,N.evi1,N.ex1 sm,N.exs1⟩
end
noncomputable def sE(T:List FD):Nat->Nm
 |0=>⟨λ_ _ _=>q7,λ_ _ _=>q7,λ_ _ _=>q7,λ_ _ _=>q7⟩
 |n+1=>(sE T n).step (ch T n)
structure DB(sm:Sm)(N:Nm):Prop where
 ev:∀env x st,Sg (Hv (sm.ev env x st)) (N.ev env x st)
 evi:∀env x st,Sg (Hv (sm.evi env x st)) (N.evi env x st)
 ex:∀env x st,Sg (Hx (sm.ex env x st)) (N.ex env x st)
 exs:∀env x st,Sg (Hx (sm.exs env x st)) (N.exs env x st)
section
variable{α β κ γ:Type}{H:Option γ->κ->Prop}
theorem Sg.thnB{o:Option (α×List aA)}{f:α×List aA->Option γ}{c:Cn (Kv α)}{d:α->List aA->Cn κ}(s:Sg (Hv o) c)(t:∀a s,Sg (H (f (a,s))) (d a s)):Sg (H (o.bind f)) (Mine.cE c d):=Sg.thn (H:=λo=>H (o.bind f)) s t
theorem Sg.thnM{o:Option (α×List aA)}{f:α×List aA->γ}{c:Cn (Kv α)}{d:α->List aA->Cn κ}(s:Sg (Hv o) c)(t:∀a s,Sg (H (some (f (a,s)))) (d a s)):Sg (H (o.map f)) (Mine.cE c d):=Sg.thn (H:=λo=>H (o.map f)) s t
theorem Sg.fixB{o:Option α}{f:α->Option γ}{d:α->Cn κ}(t:∀a,Sg (H (f a)) (d a)):Sg (H (o.bind f)) (Mine.c9 o d):=Sg.fixP (H:=λo=>H (o.bind f)) t
theorem Sg.fixM{o:Option α}{f:α->γ}{d:α->Cn κ}(t:∀a,Sg (H (some (f a))) (d a)):Sg (H (o.map f)) (Mine.c9 o d):=Sg.fixP (H:=λo=>H (o.map f)) t
theorem Sg.askB{o:Option α}{f:α->Option γ}{d:α->Cn κ}(t:∀a,Sg (H (f a)) (d a)):Sg (H (o.bind f)) (Mine.eG o d):=Sg.askP (H:=λo=>H (o.bind f)) t
theorem Sg.askM{o:Option α}{f:α->γ}{d:α->Cn κ}(t:∀a,Sg (H (some (f a))) (d a)):Sg (H (o.map f)) (Mine.eG o d):=Sg.askP (H:=λo=>H (o.map f)) t
theorem Sg.askVB{o:Option (α×List aA)}{f:α×List aA->Option γ}{d:α->List aA->Cn κ}(t:∀a s,Sg (H (f (a,s))) (d a s)):Sg (H (o.bind f)) (Mine.gO o d):=Sg.askV (H:=λo=>H (o.bind f)) t
theorem Sg.askVM{o:Option (α×List aA)}{f:α×List aA->γ}{d:α->List aA->Cn κ}(t:∀a s,Sg (H (some (f (a,s)))) (d a s)):Sg (H (o.map f)) (Mine.gO o d):=Sg.askV (H:=λo=>H (o.map f)) t
theorem Sg.fixVB{o:Option (α×List aA)}{f:α×List aA->Option γ}{d:α->List aA->Cn κ}(t:∀a s,Sg (H (f (a,s))) (d a s)):Sg (H (o.bind f)) (Mine.zR o d):=Sg.fixV (H:=λo=>H (o.bind f)) t
theorem Sg.gfzB{v:V}{st:List aA}{f:PyData×List aA->Option γ}{d:PyData->List aA->Cn κ}(t:∀a s,Sg (H (f (a,s))) (d a s)):Sg (H ((fz v st).bind f)) (DL v st d):=by
 induction v using V.casesOn with
 |ref a=>exact Sg.askVB t
 |tup vs=>exact Sg.askVB t
 |_=>exact Sg.fixVB t
theorem Sg.decB{b:Bool}{o p:Option γ}{c d:Cn κ}(s:Sg (H o) c)(t:Sg (H p) d):Sg (H (match b with|true=>o|false=>p)) (Mine.DG b c d):=by
 induction b using Bool.casesOn with
 |false=>exact t
 |true=>exact s
end
theorem Sg.iteB{a b:Type}{H:Option a->b->Prop}{p:Prop}{f g:Decidable p}{o e:Option a}{c d:Cn b}(s:p->Sg (H o) c)(t:¬p->Sg (H e) d):Sg (H (@ite _ p f o e)) (@ite _ p g c d):=by
 by_cases h:p
 ·refine aB (if_pos h) (aB (if_pos h) ?_);exact s h
 ·refine aB (if_neg h) (aB (if_neg h) ?_);exact t h
theorem Sg.self{b:Type}(o:Option (b×List aA)):Sg (Hv o) (Mine.gO o Mine.d8):=Sg.askV (H:=Hv) λa s=>Sg.ret a s
theorem H2{o:Option (List PyData×List aA)}{c:Cn (Kv V)}(h:Sg (Hv (o.map λq=>(V.d (.list q.1),q.2))) c):Sg (Hv (o.map λq=>(V.d (.list q.1),q.2))) (Mine.wm (λtr k=>∀a s',o=some (a,s')->k (.d (.list a)) s' tr) c):=Sg.ask (λt k b a s' e=>by subst e;exact b _ _ _ rfl) h
theorem HY{o:Option (List Str×List PyData×List aA)}:Sg (Hv (o.map λq=>(V.d (dD q.1 q.2.1),q.2.2))) (Mine.wm (λtr k=>∀x y s',o=some (x,y,s')->k (.d (dD x y)) s' tr) λtr k=>match o with|some (a,b,s')=>k (.d (dD a b)) s' tr|none=>True):=
 Sg.ask (λt k c a b s' e=>by subst e;exact c _ _ _ rfl) λtr k c=>by
  induction o using Option.casesOn with
  |none=>trivial
  |some q=>exact c _ _ _ rfl
section
variable{sm:Sm}{N:Nm}
theorem CB(v:V)(st:List aA):Sg (Hv (vY v st)) (HC v st):=by
 induction v using V.casesOn with
 |ref a=>exact Sg.self _
 |unb=>exact Sg.stp
 |_=>exact Sg.ret _ _
theorem oF{f:X->List aA->Option (V×List aA)}{g:X->List aA->Cn (Kv V)}(h:∀x st,Sg (Hv (f x st)) (g x st))(es:List X):∀st,Sg (Hv (pk f es st)) (oB g es st):=by
 induction es with
 |nil=>exact λst=>Sg.ret _ _
 |cons x xs a=>exact λst=>(h x st).thnB λr s=>(a s).thnB λq s=>Sg.ret _ _
theorem z8{f:X->List aA->Option (V×List aA)}{g:X->List aA->Cn (Kv V)}(h:∀x st,Sg (Hv (f x st)) (g x st))(es:List X):∀vs st,Sg (λk=>∀a b s t,DI f es vs st=some (a,b,s)->k a b s t) (Cy g es vs st):=by
 induction es with
 |nil=>
  intro vs;induction vs using List.casesOn with
  |nil=>exact λst tr k h=>h _ _ _ _ rfl
  |cons v vs=>exact λst=>Sg.stp
 |cons x xs c=>
  intro vs;induction vs using List.casesOn with
  |nil=>exact λst=>Sg.stp
  |cons v vs=>
   exact λst tr k d=>h x st tr _ λa s t e=>h v s t _ λb s2 i j=>c vs s2 i _ λm n o p l=>d _ _ _ _ (by
    show(f x st).bind _=_;refine aB e ?_;show(f v s).bind _=_;refine aB j ?_;show(DI f xs vs s2).bind _=_;rw[l];rfl)
theorem ua{f:X->List aA->Option (V×List aA)}{g:X->List aA->Cn (Kv V)}(h:∀x st,Sg (Hv (f x st)) (g x st))(e:Option X)(st:List aA):Sg (Hv (By f e st)) (Cx g e st):=by
 induction e using Option.casesOn with
 |none=>exact Sg.ret _ _
 |some x=>exact(h x st).thnM λq s=>Sg.ret _ _
theorem xx{f:X->List aA->Option (V×List aA)}{g:X->List aA->Cn (Kv V)}(h:∀x st,Sg (Hv (f x st)) (g x st))(op:BoolOp)(es:List X):∀st,Sg (Hv (wJ op f es st)) (xw op g es st):=by
 induction es with
 |nil=>exact λst=>Sg.stp
 |cons x xs a=>
  induction xs using List.casesOn with
  |nil=>exact λst=>h x st
  |cons y ys=>
   exact λst=>(h x st).thnB λr s=>Sg.askB λb=>by
    induction op using BoolOp.casesOn<;>induction b using Bool.casesOn
    ·exact Sg.ret _ _
    ·exact a s
    ·exact a s
    ·exact Sg.ret _ _
theorem Aa{t:dJ}{env:List V}{c:List V->List aA->Option (Bool×List aA)}{e:List V->List aA->Option (V×List aA)}{c':List V->List aA->Cn (Kv Bool)}{a:List V->List aA->Cn (Kv V)}(hc:∀env st,Sg (Hv (c env st)) (c' env st))(g:∀env st,Sg (Hv (e env st)) (a env st))(ds:List PyData):∀st acc,Sg (Hv (x1 t env c e ds st acc)) (z9 t env c' a ds st acc):=by
 induction ds with
 |nil=>exact λst acc=>Sg.ret _ _
 |cons d ds f=>
  exact λst acc=>Sg.fixB λenv'=>(hc env' st).thnB λb s=>Sg.decB ((g env' s).thnB λr s=>Sg.gfzB λz s=>by
   by_cases h:acc.length<=sizeLine
   ·refine aB (if_pos h) (aB (if_pos h) ?_);exact f _ _
   ·rw[if_neg h,if_neg h];exact Sg.stp) (f _ _)
theorem xB{t:dJ}{b:List V->List aA->Option (Fl×List V×List aA)}{c:List V->List aA->Cn Kx}(h:∀env st,Sg (Hx (b env st)) (c env st))(ds:List PyData):∀env st,Sg (Hx (qa t b ds env st)) (xA t c ds env st):=by
 induction ds with
 |nil=>exact λenv st=>Sg.retx _ _ _
 |cons d ds f=>
  exact λenv st=>Sg.fixB λenv'=>Sg.frc env' λtr k a=>h env' st tr _ λr e s g q=>by
   replace a:=q▸a;induction r using Fl.casesOn with
   |nx=>exact f _ _ _ _ a
   |brk=>exact a _ _ _ _ rfl
   |ret v=>exact a _ _ _ _ rfl
theorem xy(H:DB sm N)(env:List V)(a:Option X)(st:List aA):Sg (Hv (match a with
    |none=>some (true,st)
    |some c=>(sm.ev env c st).bind λr=>(aZ r.1).map λb=>(b,r.2))) (BB N env a st):=by
 induction a using Option.casesOn with
 |none=>exact Sg.ret _ _
 |some c=>exact(H.ev env c st).thnB λr s=>Sg.askM λb=>Sg.ret _ _
theorem Cm(H:DB sm N)(env:List V)(x:X)(st:List aA):Sg (Hv (sm.ev1 env x st)) (N.ev1 sm env x st):=by
 have E:=H.ev env;have u:=oF E;induction x using X.casesOn with
 |v i=>exact CB _ _
 |k c=>induction c using K.casesOn<;>exact Sg.ret _ _
 |g n s=>exact Sg.ret _ _
 |tup es=>
  exact(u es st).thnB λr s=>by exact Sg.iteB (λ_=>Sg.frv _ (Sg.ret _ _)) λ_=>Sg.stp
 |lst es=>exact(u es st).thnB λr s=>Sg.fixB λds=>Sg.ret _ _
 |cell es=>exact(u es st).thnB λr s=>Sg.fixB λds=>Sg.ret _ _
 |bin op a b=>exact(E a st).thnB λr s=>(E b s).thnB λq s=>Sg.askM λv=>Sg.ret _ _
 |neg a=>exact(E a st).thnB λr s=>Sg.fixB λi=>Sg.ret _ _
 |not a=>exact(E a st).thnB λr s=>Sg.askM λv=>Sg.ret _ _
 |cmp op a b=>exact(E a st).thnB λr s=>(E b s).thnB λq s=>Sg.askVM λe s=>Sg.ret _ _
 |bop op es=>exact xx E op es st
 |ite c a b=>exact(E c st).thnB λr s=>Sg.askB λB=>Sg.decB (E a s) (E b s)
 |idx a i=>exact(E a st).thnB λr s=>(E i s).thnB λq s=>Sg.askM λv=>Sg.ret _ _
 |slc a z A=>exact(E a st).thnB λr s=>(ua E z s).thnB λl s=>(ua E A s).thnB λh s=>Sg.fixB λD=>Sg.fixB λh'=>Sg.gfzB λq s=>Sg.askM λd=>Sg.ret _ _
 |fmt1 f a=>exact(E a st).thnB λr s=>Sg.askM λv=>Sg.ret _ _
 |fmt3 f a=>exact(E a st).thnB λr s=>Sg.askM λv=>Sg.ret _ _
 |call f m es=>exact(u es st).thnB λr s=>Sg.askVB λq s=>Sg.ret _ _
 |bi b a=>exact(E a st).thnB λr s=>Sg.self _
 |meth m o es=>
  exact(E o st).thnB λr s=>by
   show Sg (Hv (if oX s m r=true then _ else _)) (eG (if oX s m r=true then _ else _) _);by_cases h:oX s m r=true
   ·refine aB (if_pos h) (aB (if_pos h) ?_);exact Sg.askP (H:=λ_=>Hv _) λ_=>(u es s).thnB λq s=>Sg.self _
   ·refine aB (if_neg h) (aB (if_neg h) ?_);exact Sg.ask (λ_ _ _ _ e=>nomatch e) Sg.stp
 |cmpr f o a b=>exact(E o st).thnB λr s=>Sg.fixB λc=>(E a s).thnB λq s=>(E b s).thnB λp s=>Sg.askVB λq s=>Sg.ret _ _
 |lc e t it w C=>exact(H.evi env it st).thnB λds s=>H2 ((Aa (λenv' j=>xy H env' w j) (λenv' j=>H.ev env' e j) ds s []).thnM λq s=>Sg.ret _ _)
 |dc a b t it C=>exact(H.evi env it st).thnB λds s=>HY
 |dct ks vs=>
  exact Sg.iteB (λ_=>Sg.ret _ _) λ_=>Sg.iteB (λ_ tr k y=>z8 E ks vs st tr _ λr q s t e=>by
   rw[e]at y;exact(Sg.fixB (H:=Hv) λF=>Sg.fixB λG=>Sg.askB λd=>Sg.ret _ _) t k y) λ_=>Sg.stp
 |isTup a=>exact(E a st).thnB λr s=>Sg.fixB λx=>Sg.fixB λb=>Sg.ret _ _
 |tzip a b C=>exact(E a st).thnB λr s=>(E b s).thnB λq s=>Sg.self _
 |split o a=>exact(E o st).thnB λr s=>(E a s).thnB λq s=>Sg.self _
 |mk a=>exact(E a st).thnB λr s=>Sg.fixB λc=>Sg.ret _ _
 |attr o=>exact(E o st).thnB λr s=>Sg.fixB λc=>Sg.ret _ _
 |_=>exact Sg.self _
theorem zO(H:DB sm N)(env:List V)(x:It)(st:List aA):Sg (Hv (sm.evi1 env x st)) (N.evi1 env x st):=by
 have E:=H.ev env;induction x using It.casesOn with
 |x e=>exact(E e st).thnB λr s=>Sg.gfzB λq s=>Sg.fixB λxs=>Sg.ret _ _
 |rng es=>exact(oF E es st).thnB λr s=>Sg.askB λd=>Sg.ret _ _
 |enu e=>exact(E e st).thnB λr s=>Sg.gfzB λq s=>Sg.fixB λxs=>Sg.ret _ _
 |items e=>exact(E e st).thnB λr s=>Sg.fixB λxs=>Sg.ret _ _
 |gen e=>exact(E e st).thnB λr s=>Sg.self _
theorem Co(H:DB sm N)(env:List V)(s:S)(st:List aA):Sg (Hx (sm.ex1 env s st)) (N.ex1 sm env s st):=by
 have E:=H.ev env;have g:Sg (Hx (sm.ex1 env s st)) (Mine.wm (λtr k=>∀f e s',sm.ex1 env s st=some (f,e,s')->k f e s' tr) (λtr k=>match sm.ex1 env s st with|some (f,e,s')=>k f e s' tr|none=>True)):=by
  generalize sm.ex1 env s st=o;exact Sg.ask (λt k h f e s' q=>h _ _ _ _ q) λtr k h=>by
   induction o using Option.casesOn with
   |none=>trivial
   |some a=>exact h a.1 a.2.1 a.2.2 tr rfl
 induction s using S.casesOn with
 |asg t e=>exact(E e st).thnB λr s=>Sg.fixM λenv'=>Sg.frc env' (Sg.retx _ _ _)
 |asgC i e=>exact(E e st).thnM λr s=>Sg.frc _ (Sg.retx _ _ _)
 |asgS is es=>exact(oF E es st).thnB λr s=>Sg.fixM λenv'=>Sg.frc env' (Sg.retx _ _ _)
 |asgI b i e=>exact(E e st).thnB λr s=>(E b s).thnB λq s=>(E i s).thnB λp s=>Sg.gfzB λz s=>Sg.askM λd=>Sg.retx _ _ _
 |aug i op e=>
  exact Sg.fixB λa=>(E e st).thnB λr s=>Sg.fixB λb=>by
   induction op using Operator.casesOn with
   |Add=>exact Sg.frc _ (Sg.retx _ _ _)
   |Sub=>exact Sg.frc _ (Sg.retx _ _ _)
   |_=>exact Sg.stp
 |augI b i op e=>
  induction op using Operator.casesOn with
  |Add=>exact(E b st).thnB λr s=>(E i s).thnB λq s=>Sg.askB λj=>(E e s).thnB λp s=>Sg.fixB λx=>Sg.fixB λy=>Sg.askB λd=>Sg.retx _ _ _
  |_=>exact g
 |ex e=>
  exact(E e st).thnB λr s=>Sg.fixB λx=>by
   induction x using PyData.casesOn with
   |none=>exact Sg.retx _ _ _
   |_=>exact Sg.stp
 |«for» t it body=>exact(H.evi env it st).thnB λds s=>Sg.ask (λt k h f e s' q=>h _ _ _ _ q) (xB (λenv' d=>H.exs env' body d) ds env s)
 |ite c a b=>exact(E c st).thnB λr s=>Sg.askB λl=>Sg.decB (H.exs env a s) (H.exs env b s)
 |ret e=>exact(E e st).thnM λr s=>Sg.retx _ _ _
 |asrt e=>
  exact(E e st).thnB λr s=>Sg.askB λb=>by
   induction b using Bool.casesOn with
   |false=>exact Sg.stp
   |true=>exact Sg.retx _ _ _
 |_=>exact g
theorem zQ(H:DB sm N)(env:List V)(b:List S)(st:List aA):Sg (Hx (sm.exs1 env b st)) (N.exs1 env b st):=by
 induction b using List.casesOn with
 |nil=>exact Sg.retx _ _ _
 |cons s r=>
  exact λtr k a=>H.ex env s st tr _ λf e s' c q=>by
   have a:Hx ((sm.ex env s st).bind _) k:=a;rw[q]at a;induction f using Fl.casesOn with
   |nx=>exact H.exs _ _ _ _ _ a
   |_=>exact a _ _ _ _ rfl
end
theorem iS(T:List FD)(n:Nat):DB (ch T n) (sE T n):=by
 induction n with
 |zero=>exact⟨λ_ _ _=>Sg.stp,λ_ _ _=>Sg.stp,λ_ _ _=>Sg.stp,λ_ _ _=>Sg.stp⟩
 |succ n a=>exact⟨Cm a,zO a,Co a,zQ a⟩
section
variable{T:List FD}{n:Nat}{env:List V}{st:List aA}
theorem go{a:List S}{f:Fl}{e:List V}{s:List aA}(tr:List Nat)(k:((sE T n).exs env a st tr λb c s' _=>(f,e,s)=(b,c,s')->exs T n env a st=some (f,e,s))->exs T n env a st=some (f,e,s)):exs T n env a st=some (f,e,s):=
 k ((iS T n).exs env a st tr _ λ_ _ _ _ h q=>q▸h)
theorem pm{x:X}{v:V}{s:List aA}(tr:List Nat)(k:((sE T n).ev env x st tr λa s' _=>(v,s)=(a,s')->ev T n env x st=some (v,s))->ev T n env x st=some (v,s)):ev T n env x st=some (v,s):=
 k ((iS T n).ev env x st tr _ λ_ _ _ h q=>q▸h)
theorem dR{a:List S}{j:Nat}{d:PyData}{s:List aA}(tr:List Nat)(k:((sE T n).exs env a st tr λb c s' _=>fin j (b,c,s')=some (d,s)->(exs T n env a st).bind (fin j)=some (d,s))->(exs T n env a st).bind (fin j)=some (d,s)):(exs T n env a st).bind (fin j)=some (d,s):=
 k ((iS T n).exs env a st tr _ λ_ _ _ _ h q=>(congrArg (Option.bind · (fin j)) h).trans q)
theorem oJ{t:dJ}{a:List S}{x:PyData}{ds:List PyData}{b:Fl×List V×List aA}(tr:List Nat)(k:(Mine.c9 (cd t (.d x) env) (λenv'=>Mine.zU env' λenv'=>(sE T n).exs env' a st) tr λg i s' _=>f5 T n t a ds (g,i,s')=some b->cf T n t a (x::ds) env st=some b)->cf T n t a (x::ds) env st=some b):cf T n t a (x::ds) env st=some b:=
 k (Sg.fixP (H:=λo k=>∀f e s tr,o.bind (λenv'=>exs T n env' a st)=some (f,e,s)->k f e s tr) (λenv'=>Sg.frc env' ((iS T n).exs env' a st)) tr _ λf e s _ h q=>by
  show(cd t (.d x) env).bind (λenv'=>(exs T n env' a st).bind (f5 T n t a ds))=_;cases c:cd t (.d x) env with
  |none=>rw[c]at h;exact(aN h)
  |some env'=>
   rw[c]at h;exact(congrArg (Option.bind · (f5 T n t a ds)) h).trans q)
theorem lI{x:PyData}{a:List aA}:fin st.length (.ret (.d x),env,st++a)=some (x,st):=congrArg (λl=>some (x,l)) List.take_left
theorem bF{x:PyData}:fin st.length (.ret (.d x),env,st)=some (x,st):=congrArg (λl=>some (x,l)) List.take_length
theorem p6{a:List aA}(h:st.length=a.length):fin st.length (.nx,env,a)=some (.none,a):=congrArg (λl=>some (PyData.none,l)) (List.take_of_length_le (Nat.le_of_eq h.symm))
theorem tb{b c:Bool}(h:b=c):aZ (.d (.bool b))=some c:=congrArg some h
noncomputable def zs:Nat->List Nat->List Nat
 |0,l=>l
 |n+1,l=>0::zs n l
end
section
variable{st cs:List aA}{i:Nat}{l:List PyData}{ks:List Str}
theorem iD(cs:List aA)(i:Nat):∀st:List aA,aI (st++cs) (st.length+i)=aI cs i
 |[]=>congrArg (aI cs) (Nat.zero_add i)
 |_::s=>(congrArg (aI _) (Nat.succ_add s.length i)).trans (iD cs i s)
theorem pD(cs:List aA)(i:Nat)(c:aA):∀st:List aA,aT (st++cs) (st.length+i) c=st++aT cs i c
 |[]=>congrArg (aT cs · c) (Nat.zero_add i)
 |x::s=>(congrArg (aT _ · c) (Nat.succ_add s.length i)).trans (congrArg (x::·) (pD cs i c s))
theorem qU{r:Nat}(h:aI st r=some (.list l)):vY (.ref r) st=some (.ref r,st):=by rw[kF,h];rfl
theorem zh(h:aI cs i=some (.list l)):vY (.ref (st.length+i)) (st++cs)=some (.ref (st.length+i),st++cs):=qU ((iD ..).trans h)
theorem AK{r:Nat}(h:aI st r=some (.list l)):(if oX st .append (.ref r)=true then some true else none)=some true:=if_pos (by show(match aI st r with|some (.list _)=>true|_=>false)=_;rw[h])
theorem DN(h:aI cs i=some (.list l)):(if oX (st++cs) .append (.ref (st.length+i))=true then some true else none)=some true:=AK ((iD ..).trans h)
theorem D9{r:Nat}{x:PyData}(h:aI st r=some (.list l))(hs:l.length<=1000):d7 st .append (.ref r) [.d x]=some (.d .none,aT st r (.list (l++[x]))):=by show(match aI st r with|some (.list xs)=>if xs.length<=sizeLine then some (V.d .none,aT st r (.list (xs++[x])))else none|_=>none)=_;exact aB h (if_pos (Nat.le_trans hs (by decide)))
theorem Hf{x:PyData}(h:aI cs i=some (.list l))(hs:l.length<=1000):d7 (st++cs) .append (.ref (st.length+i)) [.d x]=some (.d .none,st++aT cs i (.list (l++[x]))):=by rw[<-pD];exact D9 ((iD ..).trans h) hs
end
end Mine
end
noncomputable section
open PySem PySem.Calls PySem.Spec PySem.W PyProof.Rows Builtin.Str
set_option backward.match.sparseCases false
namespace Mine
noncomputable def CA(T:List FD)(n:Nat):Nat->List V->List S->List aA->List Nat->(List V->List S->List aA->Prop)->Prop
 |0,env,a,st,_,k=>k env a st
 |m+1,env,a,st,tr,k=>match a with
  |[]=>True
  |s::r=>(sE T (n+m)).ex env s st tr λf e s' b=>match f with
   |.nx=>CA T n m e r s' b k
   |_=>True
theorem Ac(T:List FD)(n:Nat)(m:Nat):∀env a st tr k,(∀e r s,exs T (n+m) env a st=exs T n e r s->k e r s)->CA T n m env a st tr k:=by
 induction m with
 |zero=>exact λenv a st tr k h=>h _ _ _ rfl
 |succ m c=>
  intro env a st tr k h;induction a using List.casesOn with
  |nil=>trivial
  |cons s r=>
   exact(iS T (n+m)).ex env s st tr _ λf e s' b q=>by
    induction f using Fl.casesOn with
    |nx=>exact c e r s' b k λg r' s2 d=>h _ _ _ (((xg s r).trans (congrArg (Option.bind · (Ep T (n+m) r)) q)).trans d)
    |_=>trivial
theorem wp{T:List FD}{n:Nat}{env:List V}{a:List S}{st:List aA}{e:List V}{r:List S}{s:List aA}(m:Nat)(tr:List Nat)(k:(CA T n m env a st tr λb r' s'=>(e,r,s)=(b,r',s')->exs T (n+m) env a st=exs T n e r s)->exs T (n+m) env a st=exs T n e r s):exs T (n+m) env a st=exs T n e r s:=
 k (Ac T n m _ _ _ _ _ λ_ _ _ h q=>by cases q;exact h)
end Mine
end
noncomputable section
open PySem PySem.Calls PySem.Spec PySem.W PyProof.Rows Builtin.Str
namespace Mine
theorem ci{n:Nat}{st:List aA}{a:V}:callf aH (n+1) 0 [a] st=(exs aH n [a,.unb] eB st).bind (fin st.length):=rfl
theorem gQ{n:Nat}{st:List aA}{a b:V}:callf aH (n+1) 1 [a,b] st=(exs aH n [a,b,.unb,.unb,.unb,.unb,.unb,.unb,.unb,.unb,.unb,.unb] eL st).bind (fin st.length):=rfl
theorem eN{n:Nat}{st:List aA}{a b:V}:callf aH (n+1) 2 [a,b] st=(exs aH n [a,b,.unb,.unb,.unb] eH st).bind (fin st.length):=rfl
theorem d3{n:Nat}{st:List aA}{a b:V}:callf aH (n+1) 3 [a,b] st=(exs aH n [a,b,.unb,.unb,.unb,.unb] bp st).bind (fin st.length):=rfl
theorem dT{n:Nat}{st:List aA}{a:V}:callf aH (n+1) 4 [a] st=(exs aH n [a,.unb,.unb,.unb] cu st).bind (fin st.length):=rfl
theorem d6{n:Nat}{st:List aA}{a:V}:callf aH (n+1) 5 [a] st=(exs aH n [a,.unb,.unb,.unb,.unb,.unb] cy st).bind (fin st.length):=rfl
theorem fb{n:Nat}{st:List aA}{a:V}:callf aH (n+1) 6 [a] st=(exs aH n [a,.unb,.unb,.unb] d1 st).bind (fin st.length):=rfl
theorem mB{n:Nat}{st:List aA}{a b:V}:callf aH (n+1) 7 [a,b] st=(exs aH n [a,b] kQ st).bind (fin st.length):=rfl
theorem my{n:Nat}{st:List aA}{a b:V}:callf aH (n+1) 8 [a,b] st=(exs aH n [a,b,.unb] kL st).bind (fin st.length):=rfl
theorem kU{n:Nat}{st:List aA}{a:V}:callf aH (n+1) 9 [a] st=(exs aH n [a,.unb] jX st).bind (fin st.length):=rfl
theorem h9{n:Nat}{st:List aA}{a b:V}:callf aH (n+1) 10 [a,b] st=(exs aH n [a,b,.unb,.unb,.unb,.unb,.unb] dS st).bind (fin st.length):=rfl
theorem nW{n:Nat}{st:List aA}{a b c d:V}:callf aH (n+1) 11 [a,b,c,d] st=(exs aH n [a,b,c,d,.unb,.unb] mV st).bind (fin st.length):=rfl
theorem mz{n:Nat}{st:List aA}{a b c d e:V}:callf aH (n+1) 12 [a,b,c,d,e] st=(exs aH n [a,b,c,d,e,.unb,.unb,.unb,.unb,.unb,.unb,.unb] kO st).bind (fin st.length):=rfl
theorem mC{n:Nat}{st:List aA}{a b c d:V}:callf aH (n+1) 13 [a,b,c,d] st=(exs aH n [a,b,c,d,.unb,.unb,.unb,.unb,.unb,.unb,.unb] hZ st).bind (fin st.length):=rfl
theorem mA{n:Nat}{st:List aA}{a b c d e:V}:callf aH (n+1) 14 [a,b,c,d,e] st=(exs aH n [a,b,c,d,e,.unb,.unb,.unb,.unb,.unb,.unb] em st).bind (fin st.length):=rfl
theorem hF{n:Nat}{st:List aA}{a b c d:V}:callf aH (n+1) 15 [a,b,c,d] st=(exs aH n [a,b,c,d] kM st).bind (fin st.length):=rfl
theorem nY{n:Nat}{st:List aA}{a b:V}:callf aH (n+1) 16 [a,b] st=(exs aH n [a,b,.unb] mX st).bind (fin st.length):=rfl
theorem gT{n:Nat}{st:List aA}{a b c d e:V}:callf aH (n+1) 17 [a,b,c,d,e] st=(exs aH n [a,b,c,d,e,.unb,.unb,.unb] eM st).bind (fin st.length):=rfl
theorem nX{n:Nat}{st:List aA}{a b c d:V}:callf aH (n+1) 18 [a,b,c,d] st=(exs aH n [a,b,c,d,.unb,.unb,.unb,.unb,.unb,.unb,.unb,.unb,.unb,.unb] mW st).bind (fin st.length):=rfl
theorem Ea{n:Nat}{st:List aA}{a:V}:callf aH (n+1) 19 [a] st=(exs aH n [a,.unb,.unb,.unb,.unb,.unb,.unb,.unb,.unb,.unb,.unb,.unb,.unb,.unb,.unb,.unb,.unb,.unb,.unb,.unb,.unb,.unb,.unb,.unb,.unb,.unb,.unb,.unb,.unb,.unb,.unb,.unb] tL st).bind (fin st.length):=rfl
theorem nV{n:Nat}{st:List aA}{a b c:V}:callf aH (n+1) 20 [a,b,c] st=(exs aH n [a,b,c,.unb,.unb,.unb,.unb] mU st).bind (fin st.length):=rfl
theorem ba{a:Type}(xs:List a)(i:Nat)(h:i<xs.length)(hs:i<1000):bV xs (i:Int)=xs[i]?:=by show(if i<=1000000 then xs[i]?else none)=_;rw[if_pos (by lia)]
@[simp] theorem nq(st:List aA)(xs:List PyData)(i:Int):cW st (.d (.list xs)) (.d (.int i))=(bV xs i).map .d:=rfl
@[simp] theorem CF(st:List aA)(xs:List PyData)(i:Int):cW st (.d (.tuple xs)) (.d (.int i))=(bV xs i).map .d:=rfl
@[simp] theorem CJ{a:Type}(x:a)(xs:List a):bV (x::xs) 0=some x:=by have:=ba (x::xs) 0 (by simp) (by simp);simpa using this
@[simp] theorem GP{a:Type}(x y:a)(xs:List a):bV (x::y::xs) 1=some y:=by have:=ba (x::y::xs) 1 (by simp) (by simp);simpa using this
noncomputable def uY(a two b c d e:Int):Int:=if c<e then-a else if c>e then a else if b<d then-two else if b>d then two else 0
theorem rU(n:Nat)(st:List aA)(c two f h i j:Int):
  callf aH (n+20) 20 [.cmp c two,.d (.tuple [.int f,.int h]),.d (.tuple [.int i,.int j])] st=some (.int (uY c two f h i j),st):=by
 refine nV.trans ?_;unfold uY;by_cases a:h<j
 ·rw[if_pos a];exact dR (4::[]) λg=>g _ (tb (decide_eq_true a)) bF
 ·rw[if_neg a];by_cases b:h>j
  ·rw[if_pos b];exact dR (4::1::[]) λg=>g _ (tb (decide_eq_false a)) _ (tb (decide_eq_true b)) bF
  ·rw[if_neg b];by_cases e:f<i
   ·rw[if_pos e];exact dR (4::1::3::[]) λg=>g _ (tb (decide_eq_false a)) _ (tb (decide_eq_false b)) _ (tb (decide_eq_true e)) bF
   ·rw[if_neg e];by_cases k:f>i
    ·rw[if_pos k];exact dR (4::1::3::1::[]) λg=>g _ (tb (decide_eq_false a)) _ (tb (decide_eq_false b)) _ (tb (decide_eq_false e)) _ (tb (decide_eq_true k)) bF
    ·rw[if_neg k];exact dR (4::1::3::1::[]) λg=>g _ (tb (decide_eq_false a)) _ (tb (decide_eq_false b)) _ (tb (decide_eq_false e)) _ (tb (decide_eq_false k)) bF
end Mine
end
noncomputable section
open PySem PySem.Calls PySem.Spec PySem.W PyProof.Rows Builtin.Str
set_option backward.match.sparseCases false
namespace Mine
section
variable(st:List aA)(c c' d d':aA)(r:List aA)
@[simp] theorem aR:∀(st:List aA),aI (st++c::r) st.length=some c
 |[]=>rfl
 |_::s=>aR s
@[simp] theorem ju:∀(st:List aA),aI (st++c::d::r) (st.length+1)=some d
 |[]=>rfl
 |_::s=>ju s
@[simp] theorem cz:∀(st:List aA),aT (st++c::r) st.length c'=st++c'::r
 |[]=>rfl
 |x::s=>congrArg (x::·) (cz s)
@[simp] theorem jv:∀(st:List aA),aT (st++c::d::r) (st.length+1) d'=st++c::d'::r
 |[]=>rfl
 |x::s=>congrArg (x::·) (jv s)
theorem fU:∀{st:List aA}{i:Nat},i<st.length->aI (st++r) i=aI st i
 |_::_,0,_=>rfl
 |_::s,i+1,h=>fU (st:=s) (i:=i) (by simpa using h)
theorem iF:∀{st:List aA}{i:Nat},i<st.length->aT (st++r) i c=aT st i c++r
 |_::_,0,_=>rfl
 |x::s,i+1,h=>congrArg (x::·) (iF (st:=s) (i:=i) (by simpa using h))
@[simp] theorem kX:∀(st:List aA)(i:Nat),(aT st i c).length=st.length
 |[],_=>rfl
 |_::_,0=>rfl
 |_::s,i+1=>congrArg (·+1) (kX s i)
theorem gu:∀{st:List aA}{i:Nat},i<st.length->aI (aT st i c) i=some c
 |_::_,0,_=>rfl
 |_::s,i+1,h=>gu (st:=s) (i:=i) (by simpa using h)
theorem fe:∀{st:List aA}{i j:Nat},i≠j->aI (aT st i c) j=aI st j
 |[],_,_,_=>rfl
 |_::_,0,0,h=>absurd rfl h
 |_::_,0,_+1,_=>rfl
 |_::_,_+1,0,_=>rfl
 |_::s,i+1,j+1,h=>fe (st:=s) (i:=i) (j:=j) (λe=>h (congrArg (·+1) e))
theorem gv:∀(st:List aA)(i:Nat),aT (aT st i c) i c'=aT st i c'
 |[],_=>rfl
 |_::_,0=>rfl
 |x::s,i+1=>congrArg (x::·) (gv s i)
theorem m0:∀(st:List aA)(i j:Nat),i≠j->aT (aT st i c) j c'=aT (aT st j c') i c
 |[],_,_,_=>rfl
 |_::_,0,0,h=>absurd rfl h
 |_::_,0,_+1,_=>rfl
 |_::_,_+1,0,_=>rfl
 |x::s,i+1,j+1,h=>congrArg (x::·) (m0 s i j (λe=>h (congrArg (·+1) e)))
theorem iE:∀{st:List aA}{i:Nat}{c:aA},aI st i=some c->i<st.length
 |[],_,_,h=>nomatch h
 |_::_,0,_,_=>by simp
 |_::s,i+1,_,h=>by have:=iE (st:=s) (i:=i) h;simp;lia
end
noncomputable def aO(ps:List (Str×PyData)):List Str:=ps.map (·.1)
noncomputable def bH(ps:List (Str×PyData)):List PyData:=ps.map (·.2)
noncomputable def bg(ps:List (Str×PyData)):PyData:=.dict (ps.map λp=>(.str p.1,p.2))
noncomputable def dc(ps:List (Str×PyData)):aA:=.dict (aO ps) (bH ps)
theorem j0:∀ps:List (Str×PyData),dD (aO ps) (bH ps)=bg ps:=by
 intro ps;unfold dD bg
 congr 1
 induction ps with
 |nil=>rfl
 |cons p r a=>simp only[aO,bH,List.map_cons,List.zip_cons_cons]at a⊢;rw[a]
@[simp] theorem n8(ps:List (Str×PyData)):(dc ps).data=bg ps:=j0 ps
theorem GH:dc []=.dict [] []:=rfl
@[simp] theorem G9(ps:List (Str×PyData))(i:Nat):Dl (some (dc ps)) i=.ref i:=rfl
@[simp] theorem er(a b:List (Str×PyData)):aO (a++b)=aO a++aO b:=List.map_append ..
@[simp] theorem jK(p:Str×PyData)(b:List (Str×PyData)):aO (p::b)=p.1::aO b:=rfl
@[simp] theorem EC:aO []=[]:=rfl
@[simp] theorem xW(a:List (Str×PyData)):(aO a).length=a.length:=List.length_map ..
theorem eV{ks:List Str}{k:Str}(h:k∉ks):cg ks k=ks++[k]:=by unfold cg;rw[if_neg (by simpa using h)]
theorem qu{ks:List Str}{k:Str}(h:k∈ks):cg ks k=ks:=by unfold cg;rw[if_pos (by simpa using h)]
theorem eP:∀{ps:List (Str×PyData)}{k:Str}(x:PyData),k∉aO ps->cA (aO ps) (bH ps) k x=bH (ps++[(k,x)]):=by
 intro a;induction a with
 |nil=>exact@λ_ _ _=>rfl
 |cons p r b=>intro k x h;have c:p.1≠k:=λe=>h (by simp[e]);have d:k∉aO r:=λe=>h (by simp[e]);show(if p.1=k then _ else _::cA (aO r) (bH r) k x)=_;rw[if_neg c,b x d];rfl
theorem wZ:∀{ps:List (Str×PyData)}{k:Str}(o x:PyData)(q:List (Str×PyData)),k∉aO ps->cA (aO (ps++(k,o)::q)) (bH (ps++(k,o)::q)) k x=bH (ps++(k,x)::q):=by
 intro a;induction a with
 |nil=>intro k o x q _;show(if k=k then _ else _)=_;rw[if_pos rfl];rfl
 |cons p r b=>intro k o x q h;have c:p.1≠k:=λe=>h (by simp[e]);have d:k∉aO r:=λe=>h (by simp[e]);show(if p.1=k then _ else _::cA (aO (r++(k,o)::q)) (bH (r++(k,o)::q)) k x)=_;rw[if_neg c,b o x q d];rfl
theorem pV:∀{ps:List (Str×PyData)}{k:Str},k∉aO ps->cQ (aO ps) (bH ps) k=none
 |[],_,_=>rfl
 |p::r,k,h=>by have a:p.1≠k:=λe=>h (by simp[e]);have b:k∉aO r:=λe=>h (by simp[e]);show(if p.1=k then _ else cQ (aO r) (bH r) k)=_;rw[if_neg a,pV b]
theorem pW:∀{ps:List (Str×PyData)}{k:Str}(o:PyData)(q:List (Str×PyData)),k∉aO ps->cQ (aO (ps++(k,o)::q)) (bH (ps++(k,o)::q)) k=some o:=by
 intro a;induction a with
 |nil=>intro k o q _;show(if k=k then _ else _)=_;rw[if_pos rfl]
 |cons p r b=>intro k o q h;have c:p.1≠k:=λe=>h (by simp[e]);have d:k∉aO r:=λe=>h (by simp[e]);show(if p.1=k then _ else cQ (aO (r++(k,o)::q)) (bH (r++(k,o)::q)) k)=_;rw[if_neg c,b o q d]
theorem u6:∀{ps:List (Str×PyData)}{k:Str}(o:PyData)(q:List (Str×PyData)),k∉aO ps->dN ((ps++(k,o)::q).map λp=>(.str p.1,p.2)) k=some o:=by
 intro a;induction a with
 |nil=>intro k o q _;show(if k=k then _ else _)=_;rw[if_pos rfl]
 |cons p r b=>intro k o q h;have c:p.1≠k:=λe=>h (by simp[e]);have d:k∉aO r:=λe=>h (by simp[e]);show(if p.1=k then _ else dN ((r++(k,o)::q).map λp=>(.str p.1,p.2)) k)=_;rw[if_neg c,b o q d]
theorem u5:∀{ps:List (Str×PyData)}{k:Str},k∉aO ps->dN (ps.map λp=>(.str p.1,p.2)) k=none
 |[],_,_=>rfl
 |p::r,k,h=>by have a:p.1≠k:=λe=>h (by simp[e]);have b:k∉aO r:=λe=>h (by simp[e]);show(if p.1=k then _ else dN (r.map λp=>(.str p.1,p.2)) k)=_;rw[if_neg a,u5 b]
theorem bb{n:Nat}(h:n<=1000):n<=sizeLine:=Nat.le_trans h (by decide)
theorem md{st:List aA}{r:Nat}{ps:List (Str×PyData)}{k:Str}(x:PyData)(h:aI st r=some (dc ps))(a:k∉aO ps)(hs:ps.length<=100):je st (.ref r) (.d (.str k)) x=some (aT st r (dc (ps++[(k,x)]))):=by show(match aI st r with|some (.dict ks ds)=>if ks.length<=sizeLine then some (aT st r (.dict (cg ks k) (cA ks ds k x)))else none|_=>none)=_;rw[h];show(if(aO ps).length<=sizeLine then some (aT st r (.dict (cg (aO ps) k) (cA (aO ps) (bH ps) k x)))else none)=_;rw[if_pos (bb (by simp;lia)),eV a,eP x a];simp[dc]
theorem yI{st:List aA}{r:Nat}{ps q:List (Str×PyData)}{k:Str}{o:PyData}(x:PyData)(h:aI st r=some (dc (ps++(k,o)::q)))(a:k∉aO ps)(hs:ps.length+q.length<=100):je st (.ref r) (.d (.str k)) x=some (aT st r (dc (ps++(k,x)::q))):=by show(match aI st r with|some (.dict ks ds)=>if ks.length<=sizeLine then some (aT st r (.dict (cg ks k) (cA ks ds k x)))else none|_=>none)=_;rw[h];show(if(aO (ps++(k,o)::q)).length<=sizeLine then some (aT st r (.dict (cg (aO (ps++(k,o)::q)) k) (cA (aO (ps++(k,o)::q)) (bH (ps++(k,o)::q)) k x)))else none)=_;rw[if_pos (bb (by simp;lia)),qu (by simp),wZ o x q a];simp[dc]
theorem Ah{st:List aA}{r:Nat}{ps q:List (Str×PyData)}{k:Str}{o:PyData}(h:aI st r=some (dc (ps++(k,o)::q)))(a:k∉aO ps):cW st (.ref r) (.d (.str k))=some (.d o):=by show(match aI st r with|some (.dict ks ds)=>(cQ ks ds k).map V.d|_=>none)=_;rw[h];show(cQ (aO (ps++(k,o)::q)) (bH (ps++(k,o)::q)) k).map V.d=_;rw[pW o q a];rfl
theorem xH{st:List aA}{ps q:List (Str×PyData)}{k:Str}{o:PyData}(a:k∉aO ps):cW st (.d (bg (ps++(k,o)::q))) (.d (.str k))=some (.d o):=by show(dN ((ps++(k,o)::q).map λp=>(.str p.1,p.2)) k).map V.d=_;rw[u6 o q a];rfl
theorem CG{st:List aA}{r:Nat}{ps:List (Str×PyData)}{k:Str}(h:aI st r=some (dc ps))(a:k∉aO ps):dt st .In (.d (.str k)) (.ref r)=some (false,st):=by show(match aI st r with|some (.dict ks ds)=>some ((cQ ks ds k).isSome,st)|_=>none)=_;rw[h];show some ((cQ (aO ps) (bH ps) k).isSome,st)=_;rw[pV a];rfl
theorem CH{st:List aA}{r:Nat}{ps q:List (Str×PyData)}{k:Str}{o:PyData}(h:aI st r=some (dc (ps++(k,o)::q)))(a:k∉aO ps):dt st .In (.d (.str k)) (.ref r)=some (true,st):=by show(match aI st r with|some (.dict ks ds)=>some ((cQ ks ds k).isSome,st)|_=>none)=_;rw[h];show some ((cQ (aO (ps++(k,o)::q)) (bH (ps++(k,o)::q)) k).isSome,st)=_;rw[pW o q a];rfl
theorem lM{st:List aA}{r:Nat}{c:aA}(h:aI st r=some c):fz (.ref r) st=some (c.data,aT st r (.froz c.data)):=by show(match aI st r with|some c=>some (c.data,aT st r (.froz c.data))|none=>none)=_;rw[h]
@[simp] theorem jG(st:List aA)(c:aA)(r:List aA):fz (.ref st.length) (st++c::r)=some (c.data,st++.froz c.data::r):=by rw[lM (c:=c) (by simp)];simp
@[simp] theorem DK(x:PyData):(aA.froz x).data=x:=rfl
@[simp] theorem DM(x:List PyData):(aA.list x).data=.list x:=rfl
theorem bv{st:List aA}{r:Nat}{xs:List (Str×PyData)}(h:aI st r=some (dc xs)):vY (.ref r) st=some (.ref r,st):=by rw[kF,h];rfl
noncomputable def nO:List S:=[(.asgI (.v 2) (.v 3) (.v 4))]
noncomputable def nQ:List S:=[(.ite (.cmp .In (.v 3) (.v 2)) [(.ite (.isTup (.v 4)) [(.asgI (.v 2) (.v 3) (.tzip (.v 4) (.idx (.v 2) (.v 3)) Hr))] [(.augI (.v 2) (.v 3) .Add (.v 4))])] [(.asgI (.v 2) (.v 3) (.v 4))])]
noncomputable def fv(ps:List (Str×PyData)):List PyData:=(ps.map λp=>((PyData.str p.1,p.2):PyData×PyData)).map λkv=>.tuple [kv.1,kv.2]
theorem jD{acc b:List (Str×PyData)}{k:Str}{v:PyData}(a:(aO (acc++(k,v)::b)).Nodup):k∉aO acc:=λc=>by rw[er,List.nodup_append]at a;exact a.2.2 k c k (List.mem_cons_self ..) rfl
theorem pt(n:Nat)(st:List aA)(j l:V):∀(a acc:List (Str×PyData))(f c:V),(aO (acc++a)).Nodup->acc.length+a.length<=100->
  ∃b c',cf aH (n+10) (.tup [3,4]) nO (fv a) [j,l,.ref st.length,f,c] (st++[dc acc])=some (.nx,[j,l,.ref st.length,b,c'],st++[dc (acc++a)]):=by
 intro a;induction a with
 |nil=>exact λacc f c _ _=>⟨f,c,by rw[List.append_nil];rfl⟩
 |cons p a h=>
  intro acc f c m hl;have e:acc++p::a=acc++[p]++a:=List.append_cons ..;have i:(acc++[p]).length+a.length<=100:=by rw[List.length_append];exact Nat.le_trans (Nat.le_of_eq (Nat.add_right_comm ..)) hl
  obtain⟨b,c',h⟩:=h (acc++[p]) (.d (.str p.1)) (.d p.2) (e▸m) i;refine⟨b,c',?_⟩;rw[e];have e:=(md (st:=st++[dc acc]) (r:=st.length) (ps:=acc) (k:=p.1) p.2 (aR ..) (jD m) (Nat.le_trans (Nat.le_add_right ..) hl)).trans (congrArg some (cz ..));change cf aH (n+10) (.tup [3,4]) nO (.tuple [.str p.1,p.2]::fv a) _ _=_;exact oJ (zs 2 ([])) λg=>g _ _ (bv (aR ..)) _ e h
theorem HQ:eH=[(.asg (.v 2) .dnew),(.for (.tup [3,4]) (.items (.v 0)) nO),(.for (.tup [3,4]) (.items (.v 1)) nQ),(.ret (.v 2))]:=rfl
@[simp] theorem BF:fv []=[]:=rfl
@[simp] theorem AP(p:Str×PyData)(r:List (Str×PyData)):fv (p::r)=.tuple [.str p.1,p.2]::fv r:=rfl
@[simp] theorem GG:aA.dict [] []=dc []:=rfl
theorem Cp{st:List aA}{env:List V}{ps:List (Str×PyData)}:fin st.length (.ret (.ref st.length),env,st++[dc ps])=some (bg ps,st):=by show(fz (.ref st.length) (st++[dc ps])).map _=_;rw[jG,n8];exact lI (env:=env)
theorem qc{v:V}{vs:List V}{s s1 s2:List aA}{d:PyData}{ds:List PyData}(h:fz v s=some (d,s1))(a:vr vs s1=some (ds,s2)):vr (v::vs) s=some (d::ds,s2):=by show(match fz v s with|some r=>(match vr vs r.2 with|some q=>some (r.1::q.1,q.2)|none=>none)|none=>none)=_;rw[h];show(match vr vs s1 with|some q=>some (d::q.1,q.2)|none=>none)=_;rw[a]
theorem Eu{st:List aA}{A B:List PyData}:fz (.tup [.ref st.length,.ref (st.length+1)]) (st++[aA.list A,aA.list B])=some (.tuple [.list A,.list B],st++[aA.froz (.list A),aA.froz (.list B)]):=by have a:fz (.ref st.length) (st++[aA.list A,aA.list B])=some (.list A,st++[aA.froz (.list A),aA.list B]):=(lM (aR ..)).trans (by rw[cz];rfl);have b:fz (.ref (st.length+1)) (st++[aA.froz (.list A),aA.list B])=some (.list B,st++[aA.froz (.list A),aA.froz (.list B)]):=(lM (ju ..)).trans (by rw[jv];rfl);have g:vr [.ref (st.length+1)] (st++[aA.froz (.list A),aA.list B])=some ([.list B],st++[aA.froz (.list A),aA.froz (.list B)]):=qc b rfl;have g:=qc a g;show(match vr [.ref st.length,.ref (st.length+1)] (st++[aA.list A,aA.list B])with|some r=>some (PyData.tuple r.1,r.2)|none=>none)=_;rw[g]
theorem Bz{st:List aA}{env:List V}{A B:List PyData}:fin st.length (.ret (.tup [.ref st.length,.ref (st.length+1)]),env,st++[aA.list A,aA.list B])=some (.tuple [.list A,.list B],st):=by show(fz (.tup [.ref st.length,.ref (st.length+1)]) (st++[aA.list A,aA.list B])).map _=_;rw[Eu];exact lI (env:=env)
theorem BV(n:Nat)(st:List aA)(a:List (Str×PyData))(k:Str)(v:PyData)(b:(aO (a++[(k,v)])).Nodup)(hl:a.length<=50):
  callf aH (n+20) 2 [.d (bg a),.d (bg [(k,v)])] st=some (bg (a++[(k,v)]),st):=by
 refine eN.trans ?_;have h:=jD b;obtain⟨f,c,i⟩:=pt (n+6) st (.d (bg a)) (.d (bg [(k,v)])) a [] .unb .unb (by rw[er]at b;exact(List.nodup_append.mp b).1) (Nat.le_trans (Nat.le_of_eq (Nat.zero_add _)) (Nat.le_trans hl (by decide)));have e:=(md (st:=st++[dc a]) (r:=st.length) (ps:=a) (k:=k) v (aR ..) h (Nat.le_trans hl (by decide))).trans (congrArg some (cz ..));have j:=CG (st:=st++[dc a]) (r:=st.length) (ps:=a) (k:=k) (aR ..) h;exact dR (1::1::zs 1 (1::zs 2 ([]))) λg=>g _ _ _ i _ _ (bv (aR ..)) _ _ j _ _ (bv (aR ..)) _ e _ _ (bv (aR ..)) Cp
noncomputable def wv(both:Bool)(w c:Int):PyData:=if both then .tuple [.int w,.int c]else .int w
@[simp] theorem Ig(w c:Int):wv true w c=.tuple [.int w,.int c]:=rfl
@[simp] theorem Ie(w c:Int):wv false w c=.int w:=rfl
noncomputable def eC(T:Nat->Str)(both:Bool)(w c:Nat->Int)(ys:List Nat):List (Str×PyData):=ys.map λy=>(T y,wv both (w y) (c y))
@[simp] theorem FP(T:Nat->Str)(both:Bool)(w c:Nat->Int):eC T both w c []=[]:=rfl
@[simp] theorem Ee(T:Nat->Str)(both:Bool)(w c:Nat->Int)(y:Nat)(ys:List Nat):eC T both w c (y::ys)=(T y,wv both (w y) (c y))::eC T both w c ys:=rfl
@[simp] theorem zw(T:Nat->Str)(both:Bool)(w c:Nat->Int)(a b:List Nat):eC T both w c (a++b)=eC T both w c a++eC T both w c b:=List.map_append ..
@[simp] theorem n6(T:Nat->Str)(both:Bool)(w c:Nat->Int)(a:List Nat):(eC T both w c a).length=a.length:=List.length_map ..
theorem rV(T:Nat->Str)(both:Bool)(w c:Nat->Int)(ys:List Nat):aO (eC T both w c ys)=ys.map T:=by simp[aO,eC]
theorem wz(n:Nat)(st:List aA)(p s:V)(T:Nat->Str)(both:Bool)(b h i j:Nat->Int):∀(ys a:List Nat)(f c:V),((a++ys).map T).Nodup->a.length+ys.length<=100->
  ∃t c',cf aH (n+12) (.tup [3,4]) nQ (fv (eC T both i j ys)) [p,s,.ref st.length,f,c] (st++[dc (eC T both (λy=>b y+i y) (λy=>h y+j y) a++eC T both b h ys)])
   =some (.nx,[p,s,.ref st.length,t,c'],st++[dc (eC T both (λy=>b y+i y) (λy=>h y+j y) (a++ys))]):=by
 intro u;induction u with
 |nil=>exact λa f c _ _=>⟨f,c,by rw[List.append_nil];exact congrArg (λl=>some (Fl.nx,[p,s,.ref st.length,f,c],st++[dc l])) (List.append_nil _)⟩
 |cons y ys v=>
  intro a f c w hl;have k:T y∉aO (eC T both (λy=>b y+i y) (λy=>h y+j y) a):=λk=>by rw[rV]at k;rw[List.map_append,List.nodup_append]at w;exact w.2.2 _ k _ (List.mem_cons_self ..) rfl
  have e:a++y::ys=a++[y]++ys:=List.append_cons ..;have z:(a++[y]).length+ys.length<=100:=by rw[List.length_append];exact Nat.le_trans (Nat.le_of_eq (Nat.add_right_comm ..)) hl
  obtain⟨t,c',m⟩:=v (a++[y]) (.d (.str (T y))) (.d (wv both (i y) (j y))) (e▸w) z;refine⟨t,c',?_⟩;rw[e];rw[zw,List.append_assoc]at m;have e1:=λ(o:PyData)(q:List (Str×PyData))=>CH (o:=o) (q:=q) (st:=st++[dc (eC T both (λy=>b y+i y) (λy=>h y+j y) a++(T y,o)::q)]) (r:=st.length) (aR ..) k;have A:=λ(o:PyData)(q:List (Str×PyData))=>Ah (o:=o) (q:=q) (st:=st++[dc (eC T both (λy=>b y+i y) (λy=>h y+j y) a++(T y,o)::q)]) (r:=st.length) (aR ..) k;have B:=λ(o x:PyData)=>(yI (o:=o) (q:=eC T both b h ys) (st:=st++[dc (eC T both (λy=>b y+i y) (λy=>h y+j y) a++(T y,o)::eC T both b h ys)]) (r:=st.length) x (aR ..) k (by rw[n6,n6];exact Nat.le_trans (Nat.add_le_add_left (Nat.le_succ _) _) hl)).trans (congrArg some (cz ..));change cf aH (n+12) (.tup [3,4]) nQ (.tuple [.str (T y),wv both (i y) (j y)]::fv (eC T both i j ys)) _ _=_;induction both using Bool.casesOn
  ·exact oJ (zs 2 (2::zs 2 ([]))) λg=>g _ _ (bv (aR ..)) _ _ (e1 _ _) _ _ (bv (aR ..)) _ (A _ _) _ (B _ _) m
  ·have C:=B (.tuple [.int (b y),.int (h y)]) (.tuple [.int (b y+i y),.int (h y+j y)]);rw[Int.add_comm (b y),Int.add_comm (h y)]at C;rw[show eC T true (λy=>b y+i y) (λy=>h y+j y) [y]=[(T y,.tuple [.int (i y+b y),.int (j y+h y)])] by rw[Int.add_comm (i y),Int.add_comm (j y)];rfl]at m;exact oJ (zs 2 (2::zs 1 (1::zs 1 ([])))) λg=>g _ _ (bv (aR ..)) _ _ (e1 _ _) _ _ (bv (aR ..)) _ (A _ _) _ _ (bv (aR ..)) _ C m
theorem gb{T:Nat->Str}{both:Bool}{w c:Nat->Int}{ys:List Nat}(h:(ys.map T).Nodup):(aO (eC T both w c ys)).Nodup:=by rw[rV];exact h
theorem zm(n:Nat)(st:List aA)(T:Nat->Str)(both:Bool)(a b e h:Nat->Int)(ys:List Nat)(i:(ys.map T).Nodup)(hl:ys.length<=50):
  callf aH (n+30) 2 [.d (bg (eC T both a b ys)),.d (bg (eC T both e h ys))] st=some (bg (eC T both (λy=>a y+e y) (λy=>b y+h y) ys),st):=by
 refine eN.trans ?_;have hl:([]:List Nat).length+ys.length<=100:=Nat.le_trans (Nat.le_of_eq (Nat.zero_add _)) (Nat.le_trans hl (by decide));obtain⟨f,c,j⟩:=pt (n+16) st (.d (bg (eC T both a b ys))) (.d (bg (eC T both e h ys))) (eC T both a b ys) [] .unb .unb (gb i) (by rw[n6];exact hl);obtain⟨l,c',k⟩:=wz (n+13) st (.d (bg (eC T both a b ys))) (.d (bg (eC T both e h ys))) T both a b e h ys [] f c i hl;exact dR (1::zs 2 ([])) λg=>g _ _ _ j _ _ _ k _ _ (bv (aR ..)) Cp
noncomputable def cZ(a b c d:Int)(e:PyData):PyData:=.tuple [.int a,.int b,.int c,.int d,e]
theorem BX(n:Nat)(st:List aA)(a b c d i j c' k:Int)(l e f:PyData)(h:∀n,callf aH (n+30) 2 [.d e,.d l] st=some (f,st)):
  callf aH (n+40) 1 [.d (cZ i j c' k e),.d (cZ a b c d l)] st=some (cZ (a+i) (b+j) (c+c') (d+k) f,st):=by
 exact gQ.trans (dR (4::[]) λg=>g _ _ (h _) bF)
noncomputable def nS:List (Str×PyData)->Str->PyData->List (Str×PyData)
 |[],k,x=>[(k,x)]
 |p::r,k,x=>if p.1=k then(k,x)::r else p::nS r k x
noncomputable def gK:List (Str×PyData)->Str->Option PyData
 |[],_=>none
 |p::r,k=>if p.1=k then some p.2 else gK r k
theorem wD(p:Str×PyData)(r:List (Str×PyData))(k:Str)(x:PyData):nS (p::r) k x=if p.1=k then(k,x)::r else p::nS r k x:=rfl
theorem BZ(p:Str×PyData)(r:List (Str×PyData))(k:Str):gK (p::r) k=if p.1=k then some p.2 else gK r k:=rfl
theorem zA:∀(ps:List (Str×PyData))(k:Str),cQ (aO ps) (bH ps) k=gK ps k:=by
 intro a;induction a with
 |nil=>exact λ_=>rfl
 |cons p r b=>intro k;show(if p.1=k then _ else cQ (aO r) (bH r) k)=(if p.1=k then _ else _);rw[b k]
theorem lw:∀(ps:List (Str×PyData))(k:Str),dN (ps.map λp=>(.str p.1,p.2)) k=gK ps k:=by
 intro a;induction a with
 |nil=>exact λ_=>rfl
 |cons p r b=>intro k;show(if p.1=k then _ else dN (r.map λp=>(.str p.1,p.2)) k)=(if p.1=k then _ else _);rw[b k]
theorem zC:∀(ps:List (Str×PyData))(k:Str)(x:PyData),cA (aO ps) (bH ps) k x=bH (nS ps k x):=by
 intro a;induction a with
 |nil=>exact λ_ _=>rfl
 |cons p r b=>
  intro k x;show(if p.1=k then _ else _::cA (aO r) (bH r) k x)=_;rw[wD];by_cases h:p.1=k
  ·rw[if_pos h,if_pos h];rfl
  ·rw[if_neg h,if_neg h,b k x];rfl
theorem vF(a:Str)(r:List Str)(k:Str)(h:a≠k):cg (a::r) k=a::cg r k:=by
 unfold cg;simp only[List.contains_cons,beq_eq_false_iff_ne.mpr (Ne.symm h),Bool.false_or];by_cases hc:r.contains k=true
 ·rw[if_pos hc,if_pos hc]
 ·rw[if_neg hc,if_neg hc];rfl
theorem Au:∀(ps:List (Str×PyData))(k:Str)(x:PyData),cg (aO ps) k=aO (nS ps k x):=by
 intro a;induction a with
 |nil=>exact λ_ _=>rfl
 |cons p r b=>
  intro k x;rw[wD];by_cases h:p.1=k
  ·rw[if_pos h,qu (by simp[h])];simp[h]
  ·rw[if_neg h,jK,vF _ _ _ h,b k x];rfl
theorem v1{st:List aA}{r:Nat}{ps:List (Str×PyData)}(k:Str)(x:PyData)(h:aI st r=some (dc ps))(hs:ps.length<=100):je st (.ref r) (.d (.str k)) x=some (aT st r (dc (nS ps k x))):=by show(match aI st r with|some (.dict ks ds)=>if ks.length<=sizeLine then some (aT st r (.dict (cg ks k) (cA ks ds k x)))else none|_=>none)=_;rw[h];show(if(aO ps).length<=sizeLine then some (aT st r (.dict (cg (aO ps) k) (cA (aO ps) (bH ps) k x)))else none)=_;rw[if_pos (bb (by simp;lia)),Au ps k x,zC];rfl
theorem qd{st:List aA}{r:Nat}{ps:List (Str×PyData)}(k:Str)(d:PyData)(h:aI st r=some (dc ps)):d7 st .get (.ref r) [.d (.str k),.d d]=some (.d ((gK ps k).getD d),st):=by show(match aI st r with|some (.dict ks ds)=>some (V.d ((cQ ks ds k).getD d),st)|_=>none)=_;rw[h];show some (V.d ((cQ (aO ps) (bH ps) k).getD d),st)=_;rw[zA]
theorem uq{st:List aA}{r:Nat}{ps:List (Str×PyData)}(h:aI st r=some (dc ps)):oX st .get (.ref r)=true:=by show(match aI st r with|some (.dict _ _)=>true|_=>false)=_;rw[h];rfl
theorem F4{st:List aA}{r:Nat}{xs:List PyData}(h:aI st r=some (.list xs)):oX st .append (.ref r)=true:=by show(match aI st r with|some (.list _)=>true|_=>false)=_;rw[h]
theorem oO{st:List aA}{r:Nat}{xs:List PyData}(x:PyData)(h:aI st r=some (.list xs))(hs:xs.length<=1000):d7 st .append (.ref r) [.d x]=some (.d .none,aT st r (.list (xs++[x]))):=by show(match aI st r with|some (.list xs)=>if xs.length<=sizeLine then some (V.d .none,aT st r (.list (xs++[x])))else none|_=>none)=_;rw[h];show(if xs.length<=sizeLine then _ else _)=_;rw[if_pos (bb hs)]
theorem aP{st:List aA}{r:Nat}{xs:List PyData}(h:aI st r=some (.list xs)):vY (.ref r) st=some (.ref r,st):=by rw[kF,h];rfl
theorem u0(n:Nat)(st:List aA)(a b c d:Int):∀(g f:List (Str×PyData)),(aO (f++g)).Nodup->f.length+g.length<=100->
  u1 aH (n+5) (.v 0) (.v 0) (.idx (.idx (.v 1) (.k (.int 4))) (.v 0)) [.unb,.d (cZ a b c d (bg (f++g)))] (g.map λp=>.str p.1) st (aO f) (bH f)=some (aO (f++g),bH (f++g),st):=by
 intro h;induction h with
 |nil=>exact λf _ _=>by rw[List.append_nil];rfl
 |cons t r i=>
  obtain⟨k,v⟩:=t;intro f m hl;have j:k∉aO f:=jD m;have e:f++(k,v)::r=f++[(k,v)]++r:=List.append_cons ..;have l:(f++[(k,v)]).length+r.length<=100:=by rw[List.length_append];exact Nat.le_trans (Nat.le_of_eq (Nat.add_right_comm ..)) hl
  have s:=i (f++[(k,v)]) (e▸m) l;rw[<-e]at s;have u:=xH (st:=st) (o:=v) (q:=r) j;rw[List.map_cons,lm];change(((cW st (.d (bg (f++(k,v)::r))) (.d (.str k))).map λv=>(v,st)).bind λr=>(fz r.1 r.2).bind (j6 (aO f) (bH f) aH (n+5) _ _ _ _ _ (.d (.str k))))=_;rw[u];change j6 (aO f) (bH f) aH (n+5) _ _ _ _ _ (.d (.str k)) (v,st)=_;rw[gx _ _ _ _ _ _ _ _ (by rw[xW];exact Nat.le_trans (Nat.le_add_right ..) hl),eV j,eP v j];exact(congrArg (λk=>u1 aH (n+5) _ _ _ _ _ _ k _) (er ..).symm).trans s
theorem zv(n:Nat)(st:List aA)(a b c d:Int)(ps:List (Str×PyData))(e:(aO ps).Nodup)(hl:ps.length<=100):
  u1 aH (n+5) (.v 0) (.v 0) (.idx (.idx (.v 1) (.k (.int 4))) (.v 0)) [.unb,.d (cZ a b c d (bg ps))] (ps.map λp=>.str p.1) st [] []=some (aO ps,bH ps,st):=u0 n st a b c d ps [] e (by simpa using hl)
theorem H8(a b c d:Int)(x:PyData):iq (.tuple [.int a,.int b,.int c,.int d,x]) none (some 4)=some (.tuple [.int a,.int b,.int c,.int d]):=rfl
theorem Hl(a b c d:Int)(x:PyData):eI .Add (.d (.tuple [.int a,.int b,.int c,.int d])) (.d (.tuple [x]))=some (.d (.tuple [.int a,.int b,.int c,.int d,x])):=rfl
end Mine
end
noncomputable section
open PySem PySem.Calls PySem.Spec PySem.W PyProof.Rows Builtin.Str
namespace Mine
theorem xG(st:List aA)(a b c d:Int)(x:PyData):cW st (.d (cZ a b c d x)) (.d (.int 4))=some (.d x):=by refine aB ((ba [PyData.int a,.int b,.int c,.int d,x] 4 (by simp) (by simp))) ?_;rfl
theorem tJ(n:Nat)(st:List aA)(h:Nat)(hs:List PyData)(a b c d:Int)(ps:List (Str×PyData))(f e1 i j:V)(l:aI st h=some (.list hs))(o:hs.length<=990)(q:(aO ps).Nodup)(hl:ps.length<=100):
  exs aH (n+30) [f,e1,i,.ref h,j,.d (cZ a b c d (bg ps))] gr st
   =some (.nx,[f,e1,i,.ref h,j,.d (cZ a b c d (bg ps))],aT st h (.list (hs++[.tuple [cZ a b c d (bg ps),cZ a b c d (bg ps)]]))):=by
 have e:∀m,u1 aH (m+5) (.v 0) (.v 0) (.idx (.idx (.v 1) (.k (.int 4))) (.v 0)) [.unb,.d (cZ a b c d (bg ps))] ((ps.map λp=>((PyData.str p.1,p.2):PyData×PyData)).map (·.1)) st [] []=some (aO ps,bH ps,st):=λm=>by exact aB (List.map_map) (zv m st a b c d ps q hl)
 have key:exs aH (n+30) [f,e1,i,.ref h,j,.d (cZ a b c d (bg ps))] gr st
   =some (.nx,[f,e1,i,.ref h,j,.d (cZ a b c d (bg ps))],aT st h (.list (hs++[.tuple [cZ a b c d (bg ps),cZ a b c d (dD (aO ps) (bH ps))]]))):=by
  exact go (zs 2 (1::zs 1 (1::[]))) λg=>g _ _ (aP l) _ (AK l) _ (xG _ _ _ _ _ _) _ _ _ (e _) _ _ (D9 l (Nat.le_trans o (by decide))) rfl
 rw[j0]at key;exact key
theorem tK(n:Nat)(a b c d g i c' j:Int)(k e f:PyData)(h:∀n st,callf aH (n+30) 2 [.d e,.d k] st=some (f,st))(st:List aA):
  callf aH (n+40) 1 [.d (cZ g i c' j e),.d (cZ a b c d k)] st=some (cZ (a+g) (b+i) (c+c') (d+j) f,st):=BX n st a b c d g i c' j k e f (λn=>h n st)
theorem BW(n:Nat)(st:List aA)(r h:Nat)(name:Str)(ps:List (Str×PyData))(hs:List PyData)(a b c d f i c' j:Int)(e k:List (Str×PyData))(l:PyData)(q:aI st r=some (dc ps))(B:aI st h=some (.list hs))(s:r≠h)(t:ps.length<=100)(o:hs.length<=900)(D:(gK ps name).getD (cZ 0 0 0 0 (bg []))=cZ f i c' j (bg e))(u:(aO e).Nodup)(w:(aO k).Nodup)(y:e.length<=50)(z:k.length<=50)(A:∀n st,callf aH (n+30) 2 [.d (bg e),.d (bg k)] st=some (l,st)):
  callf aH (n+60) 11 [.ref r,.d (.str name),.d (cZ a b c d (bg k)),.ref h] st=some (.none,
   aT (aT st h (.list (hs++[.tuple [cZ f i c' j (bg e),cZ f i c' j (bg e)],.tuple [cZ a b c d (bg k),cZ a b c d (bg k)]]))) r (dc (nS ps name (cZ (a+f) (b+i) (c+c') (d+j) l)))):=by
 have C:=λm=>tJ m _ h _ a b c d k (.ref r) (.d (.str name)) (.d (cZ a b c d (bg k))) (.d (cZ f i c' j (bg e))) ((gu _ (iE B):aI (aT st h (.list (hs++[.tuple [cZ f i c' j (bg e),cZ f i c' j (bg e)]]))) h=some (.list (hs++[.tuple [cZ f i c' j (bg e),cZ f i c' j (bg e)]])))) (by rw[List.length_append];exact Nat.le_trans (Nat.add_le_add_right o 1) (by decide)) w (Nat.le_trans z (by decide));simp only[gv,List.append_assoc]at C;have p:aI (aT st h (.list (hs++[.tuple [cZ f i c' j (bg e),cZ f i c' j (bg e)],.tuple [cZ a b c d (bg k),cZ a b c d (bg k)]]))) r=some (dc ps):=by exact aB (fe _ (Ne.symm s)) (aB q rfl)
 have lp:=λm(_:V)=>(congrArg (Option.bind · (f5 aH (m+30) (.v 5) gr [cZ a b c d (bg k)])) ((λm=>tJ m st h hs f i c' j e (.ref r) (.d (.str name)) (.d (cZ a b c d (bg k))) (.d (cZ f i c' j (bg e))) B (Nat.le_trans o (by decide)) u (Nat.le_trans y (by decide))) m)).trans (congrArg (Option.bind · (f5 aH (m+30) (.v 5) gr [])) (C m));have lp:∀m(E:V),cf aH (m+30) (.v 5) gr [cZ f i c' j (bg e),cZ a b c d (bg k)] [.ref r,.d (.str name),.d (cZ a b c d (bg k)),.ref h,.d (cZ f i c' j (bg e)),E] st=_:=lp;exact nW.trans (dR (zs 7 ([])) λg=>g _ _ (bv q) _ (if_pos (uq q)) _ _ ((qd name (cZ 0 0 0 0 (bg [])) q).trans (congrArg (λx=>some (V.d x,st)) D)) _ _ _ (lp _ _) _ _ (tK _ _ _ _ _ _ _ _ _ _ _ _ A _) _ _ (bv p) _ (v1 _ _ p t) (p6 (by rw[kX,kX])))
end Mine
end
noncomputable section
open PySem PySem.Calls PySem.Spec PySem.W PyProof.Rows Builtin.Str
set_option genCtorIdx false
namespace Mine
structure Wd where
 T:Nat->Str
 cost:Nat->Int
 w0:Int
 w1:Int
 both:Bool
noncomputable def L6{a:Type}(f:Nat->a):List a:=[f 0,f 1,f 2,f 3,f 4,f 5]
theorem kx{a:Type}(f:Nat->a):∀y:Nat,y<6->bV (L6 f) (y:Int)=some (f y)
 |0,_=>ba (L6 f) 0 (by simp[L6]) (by simp)
 |1,_=>ba (L6 f) 1 (by simp[L6]) (by simp)
 |2,_=>ba (L6 f) 2 (by simp[L6]) (by simp)
 |3,_=>ba (L6 f) 3 (by simp[L6]) (by simp)
 |4,_=>ba (L6 f) 4 (by simp[L6]) (by simp)
 |5,_=>ba (L6 f) 5 (by simp[L6]) (by simp)
 |n+6,h=>absurd h (by lia)
noncomputable def bP(T:Nat->Str):PyData:=.list (L6 λi=>.str (T i))
noncomputable def bs(c:Nat->Int):PyData:=.list (L6 λi=>.int (c i))
noncomputable def wd(W:Wd)(h:Nat):V:=.tup [.d (bP W.T),.d (bs W.cost),.d (.tuple [.int W.w0,.int W.w1]),.d (.bool W.both),.ref h]
theorem dy(T:Nat->Str)(st:List aA)(y:Nat)(h:y<6):cW st (.d (bP T)) (.d (.int y))=some (.d (.str (T y))):=by show(bV (L6 λi=>PyData.str (T i)) (y:Int)).map V.d=_;refine aB (kx _ y h) ?_;rfl
theorem cM(T:Nat->Int)(st:List aA)(y:Nat)(h:y<6):cW st (.d (bs T)) (.d (.int y))=some (.d (.int (T y))):=by show(bV (L6 λi=>PyData.int (T i)) (y:Int)).map V.d=_;refine aB (kx _ y h) ?_;rfl
noncomputable def sd(l k:Bool):Str:=if l then"-1"else if k then"0"else"1"
@[simp] theorem Fp(l k:Bool):(sd l k==Str.ofString "-1")=l:=by induction l using Bool.casesOn<;>induction k using Bool.casesOn<;>decide+kernel
@[simp] theorem Fq(l k:Bool):(sd l k==Str.ofString "0")=(!l&&k):=by induction l using Bool.casesOn<;>induction k using Bool.casesOn<;>decide+kernel
noncomputable def rA(p:Nat->Bool)(ys:List Nat):Int:=(ys.map λy=>if p y then(1:Int)else 0).sum
noncomputable def jQ(c:Nat->Int)(ys:List Nat):Int:=(ys.map c).sum
noncomputable def bR(W:Wd)(a b:Nat->Bool)(ys:List Nat):PyData:=cZ (rA a ys) ys.length (rA b ys) (jQ W.cost ys) (bg (eC W.T W.both (λy=>if a y then W.w0 else W.w1) W.cost ys))
noncomputable def eu(W:Wd)(a b:Nat->Nat->Bool)(A:List (Nat×List Nat)):List (Str×PyData):=A.map λp=>(W.T p.1,bR W (a p.1) (b p.1) p.2)
noncomputable def eF:List (Nat×List Nat)->Nat->Nat->List (Nat×List Nat)
 |[],x,y=>[(x,[y])]
 |p::r,x,y=>if p.1=x then(x,p.2++[y])::r else p::eF r x y
noncomputable def bj:List (Nat×List Nat)->Nat->List Nat
 |[],_=>[]
 |p::r,x=>if p.1=x then p.2 else bj r x
theorem rF(p:Nat×List Nat)(r:List (Nat×List Nat))(x y:Nat):eF (p::r) x y=if p.1=x then(x,p.2++[y])::r else p::eF r x y:=rfl
noncomputable def eh(T:Nat->Str):Prop:=∀i j,i<6->j<6->T i=T j->i=j
theorem pv{W:Wd}(f:eh W.T)(a b:Nat->Nat->Bool)(x:Nat)(g:x<6):∀A:List (Nat×List Nat),(∀p∈A,p.1<6)->
  (gK (eu W a b A) (W.T x)).getD (cZ 0 0 0 0 (bg []))=bR W (a x) (b x) (bj A x):=by
 intro c;induction c with
 |nil=>exact λ_=>rfl
 |cons p r d=>
  intro h;show(if W.T p.1=W.T x then some (bR W (a p.1) (b p.1) p.2)else gK (eu W a b r) (W.T x)).getD _=bR W (a x) (b x) (if p.1=x then p.2 else bj r x);by_cases e:p.1=x
  ·refine aB (if_pos (by rw[e])) (aB (if_pos e) ?_);refine aB e ?_;rfl
  ·refine aB (if_neg (λi=>e (f _ _ (h p (List.mem_cons_self ..)) g i))) (aB (if_neg e) ?_);exact aB ((d (λq j=>h q (List.mem_cons_of_mem _ j)))) rfl
theorem wE{W:Wd}(f:eh W.T)(a b:Nat->Nat->Bool)(x y:Nat)(g:x<6):∀A:List (Nat×List Nat),(∀p∈A,p.1<6)->
  nS (eu W a b A) (W.T x) (bR W (a x) (b x) (bj A x++[y]))=eu W a b (eF A x y):=by
 intro c;induction c with
 |nil=>exact λ_=>rfl
 |cons p r d=>
  intro h;show(if W.T p.1=W.T x then(W.T x,bR W (a x) (b x) ((if p.1=x then p.2 else bj r x)++[y]))::eu W a b r else(W.T p.1,bR W (a p.1) (b p.1) p.2)::nS (eu W a b r) (W.T x) (bR W (a x) (b x) ((if p.1=x then p.2 else bj r x)++[y])))=eu W a b (if p.1=x then(x,p.2++[y])::r else p::eF r x y);by_cases e:p.1=x
  ·refine aB (if_pos (by rw[e])) (aB (if_pos e) ?_);refine aB (if_pos e) ?_;rfl
  ·refine aB (if_neg (λi=>e (f _ _ (h p (List.mem_cons_self ..)) g i))) (aB (if_neg e) ?_);refine aB (if_neg e) (aB ((d (λq j=>h q (List.mem_cons_of_mem _ j)))) ?_);rfl
theorem u8(W:Wd)(a b:Nat->Bool)(ys:List Nat)(y:Nat):bR W a b (ys++[y])=
  cZ ((if a y then 1 else 0)+rA a ys) (1+ys.length) ((if b y then 1 else 0)+rA b ys) (W.cost y+jQ W.cost ys) (bg (eC W.T W.both (λy=>if a y then W.w0 else W.w1) W.cost ys++[(W.T y,wv W.both (if a y then W.w0 else W.w1) (W.cost y))])):=by
 unfold bR rA jQ;simp
 congr 1<;>lia
noncomputable def BP(d:PyData):Prop:=∃e,d=.tuple [e,e]/\fL e e=some true
theorem cN{T:Nat->Str}(f:eh T):∀{ys:List Nat},ys.Nodup->(∀y∈ys,y<6)->(ys.map T).Nodup:=by
 intro b;induction b with
 |nil=>exact@λ_ _=>List.nodup_nil
 |cons y ys c=>intro d h;refine aB (List.map_cons) ?_;rw[List.nodup_cons];simp only[List.nodup_cons]at d;refine⟨λg=>?_,c d.2 (λz a=>h z (List.mem_cons_of_mem _ a))⟩;obtain⟨z,a,e⟩:=List.mem_map.mp g;exact d.1 (f z y (h z (List.mem_cons_of_mem _ a)) (h y (List.mem_cons_self ..)) e▸a)
theorem bx(l k:Bool)(st:List aA):dt st .Eq (.d (.str (sd l k))) (.d (.str "-1"))=some (l,st):=congrArg (λb=>some (b,st)) (Fp l k)
theorem gw(l k:Bool)(st:List aA):dt st .Eq (.d (.str (sd l k))) (.d (.str "0"))=some (!l&&k,st):=congrArg (λb=>some (b,st)) (Fq l k)
theorem ym(n:Nat)(st f:List aA)(r h:Nat)(W:Wd)(A:List (Nat×List Nat))(hs:List PyData)(x y:Nat)(o q:Bool)(ps:List (Str×PyData))(t:aI st r=some (dc ps))(u:aI st h=some (.list hs))(v:x<6)(s:y<6)(p:o=true->q=false)(a:st.length=f.length)(c:∀m,callf aH (m+60) 11 [.ref r,.d (.str (W.T x)),.d (cZ (if o then 1 else 0) 1 (if q then 1 else 0) (W.cost y) (bg [(W.T y,wv W.both (if o then W.w0 else W.w1) (W.cost y))])),.ref h] st=some (.none,f)):
  callf aH (n+70) 12 [.ref r,wd W h,.d (.int x),.d (.int y),.d (.str (sd o q))] st=some (.none,f):=by
 refine Eq.trans mz ?_;unfold wd;have i:=dy W.T st _ v;have j:=dy W.T st _ s;have e:=cM W.cost st _ s;generalize W.both=b at*;have k:=bv t;have l:=aP u;induction b using Bool.casesOn<;>induction o using Bool.casesOn<;>induction q using Bool.casesOn
 ·exact dR (zs 1 (2::1::1::zs 1 (2::zs 3 ([])))) λg=>g _ _ (bx _ _ _) _ _ (bx _ _ _) _ _ (gw _ _ _) _ e _ j _ _ k _ i _ _ l _ _ (c _) (p6 a)
 ·exact dR (zs 1 (2::1::1::zs 1 (2::zs 3 ([])))) λg=>g _ _ (bx _ _ _) _ _ (bx _ _ _) _ _ (gw _ _ _) _ e _ j _ _ k _ i _ _ l _ _ (c _) (p6 a)
 ·exact dR (zs 1 (2::1::1::zs 1 (2::zs 3 ([])))) λg=>g _ _ (bx _ _ _) _ _ (bx _ _ _) _ _ (gw _ _ _) _ e _ j _ _ k _ i _ _ l _ _ (c _) (p6 a)
 ·exact nomatch p rfl
 ·exact dR (zs 1 (2::1::1::zs 1 (1::1::zs 3 ([])))) λg=>g _ _ (bx _ _ _) _ _ (bx _ _ _) _ _ (gw _ _ _) _ e _ j _ e _ _ k _ i _ _ l _ _ (c _) (p6 a)
 ·exact dR (zs 1 (2::1::1::zs 1 (1::1::zs 3 ([])))) λg=>g _ _ (bx _ _ _) _ _ (bx _ _ _) _ _ (gw _ _ _) _ e _ j _ e _ _ k _ i _ _ l _ _ (c _) (p6 a)
 ·exact dR (zs 1 (2::1::1::zs 1 (1::1::zs 3 ([])))) λg=>g _ _ (bx _ _ _) _ _ (bx _ _ _) _ _ (gw _ _ _) _ e _ j _ e _ _ k _ i _ _ l _ _ (c _) (p6 a)
 ·exact nomatch p rfl
theorem yl(n:Nat)(st:List aA)(r h:Nat)(W:Wd)(i:eh W.T)(hs:List PyData)(A:List (Nat×List Nat))(x y:Nat)(a b:Nat->Nat->Bool)(t:aI st r=some (dc (eu W a b A)))(u:aI st h=some (.list hs))(j:r≠h)(k:x<6)(v:y<6)(B:∀p∈A,p.1<6)(l:∀z∈bj A x,z<6)(hl:A.length<=40)(D:(bj A x++[y]).Nodup)(E:(bj A x).length<=40)(F:hs.length<=900)(o:a x y=true->b x y=false):
  callf aH (n+90) 12 [.ref r,wd W h,.d (.int x),.d (.int y),.d (.str (sd (a x y) (b x y)))] st
   =some (.none,aT (aT st h (.list (hs++[.tuple [bR W (a x) (b x) (bj A x),bR W (a x) (b x) (bj A x)],.tuple [bR W (a x) (b x) [y],bR W (a x) (b x) [y]]]))) r (dc (eu W a b (eF A x y)))):=by
 have C:=wE i a b x y k A B;have G:((bj A x++[y]).map W.T).Nodup:=cN i D (λz f=>by
  rcases List.mem_append.mp f with f|f
  ·exact l z f
  ·rw[List.mem_singleton.mp f];exact v)
 have e:(aO (eC W.T W.both (λy=>if a x y then W.w0 else W.w1) W.cost (bj A x)++[(W.T y,wv W.both (if a x y then W.w0 else W.w1) (W.cost y))])).Nodup:=by have:=gb (both:=W.both) (w:=λy=>if a x y then W.w0 else W.w1) (c:=W.cost) G;simpa using this
 have q:(aO (eC W.T W.both (λy=>if a x y then W.w0 else W.w1) W.cost (bj A x))).Nodup:=by rw[er,List.nodup_append]at e;exact e.1
 have s:=λ(n:Nat)(st:List aA)=>BV (n+10) st _ _ _ e (by simp;lia);have g:=λm=>BW m st r h (W.T x) (eu W a b A) hs (if a x y then 1 else 0) 1 (if b x y then 1 else 0) (W.cost y) _ _ _ _ _ [(W.T y,wv W.both (if a x y then W.w0 else W.w1) (W.cost y))] _ t u j (by simp[eu];lia) (by omega) (pv i a b x k A B) q (by simp) (by simp;lia) (by simp) s;simp only[u8]at C;simp only[C]at g;have H:bR W (a x) (b x) [y]=cZ (if a x y then 1 else 0) 1 (if b x y then 1 else 0) (W.cost y) (bg [(W.T y,wv W.both (if a x y then W.w0 else W.w1) (W.cost y))]):=by simp[bR,rA,jQ]
 exact aB H (ym (n+20) st _ r h W A hs x y (a x y) (b x y) _ t u k v o (by simp) ((g:∀m,callf aH (m+60) 11 [.ref r,.d (.str (W.T x)),.d (cZ (if a x y then 1 else 0) 1 (if b x y then 1 else 0) (W.cost y) (bg [(W.T y,wv W.both (if a x y then W.w0 else W.w1) (W.cost y))])),.ref h] st=some (.none,aT (aT st h (.list (hs++[.tuple [bR W (a x) (b x) (bj A x),bR W (a x) (b x) (bj A x)],.tuple [cZ (if a x y then 1 else 0) 1 (if b x y then 1 else 0) (W.cost y) (bg [(W.T y,wv W.both (if a x y then W.w0 else W.w1) (W.cost y))]),cZ (if a x y then 1 else 0) 1 (if b x y then 1 else 0) (W.cost y) (bg [(W.T y,wv W.both (if a x y then W.w0 else W.w1) (W.cost y))])]]))) r (dc (eu W a b (eF A x y)))))))
end Mine
end
noncomputable section
open PySem PySem.Calls PySem.Spec PySem.W PyProof.Rows Builtin.Str
namespace Mine
theorem fj(n:Nat)(i:Int):ie n (.int i) (.int i)=true:=by
 have h:PyData.eqv (.int i) (.int i)=true:=by simp[PyData.eqv]
 induction n using Nat.casesOn<;>simp[ie,h,d0,SeqAt.shaped,PyData.canLay0,PyData.depth]
theorem lG{n:Nat}{x y:PyData}(h:En (ie n) x y=true):ie (n+1) x y=true:=by unfold ie;simp only[h,Bool.or_true]
theorem Cj(n:Nat)(b:Bool)(w c:Int):ie (n+1) (wv b w c) (wv b w c)=true:=by
 induction b using Bool.casesOn
 ·exact fj _ _
 ·refine lG ?_;show(ie n (.int w) (.int w)&&(ie n (.int c) (.int c)&&true))=true;rw[fj,fj];rfl
theorem p0{f:PyData->PyData->Bool}{ys:List (PyData×PyData)}:∀{ps:List (Str×PyData)},(∀p∈ps,∃y,dN ys p.1=some y/\f p.2 y=true)->vc f ys (ps.map λp=>(.str p.1,p.2))=true
 |[],_=>rfl
 |p::r,h=>by obtain⟨y,a,b⟩:=h p (List.mem_cons_self ..);show((match dN ys p.1 with|some y=>f p.2 y|none=>false)&&vc f ys (r.map λp=>(.str p.1,p.2)))=true;refine aB a (aB (p0 (f:=f) (ys:=ys) (ps:=r) (λq c=>h q (List.mem_cons_of_mem _ c))) ?_);simp[b]
theorem tZ{n:Nat}{ps a:List (Str×PyData)}(hl:ps.length=a.length)(h:∀p∈ps,∃y,gK a p.1=some y/\ie n p.2 y=true):ie (n+1) (bg ps) (bg a)=true:=by
 refine lG ?_;show((ps.map λp=>((PyData.str p.1,p.2):PyData×PyData)).length==(a.map λp=>((PyData.str p.1,p.2):PyData×PyData)).length&&vc (ie n) (a.map λp=>(.str p.1,p.2)) (ps.map λp=>(.str p.1,p.2)))=true;rw[p0 (λp c=>by
  refine aK (h p c) λy b=>?_;have d:=b.1;exact⟨y,by rw[lw,d],(b.2)⟩)]
 simp[hl]
theorem fP:∀{ps:List (Str×PyData)}{p:Str×PyData},(aO ps).Nodup->p∈ps->gK ps p.1=some p.2
 |q::r,p,a,c=>by
  rw[BZ];rw[jK,List.nodup_cons]at a;rcases List.mem_cons.mp c with rfl|b
  ·exact(if_pos rfl)
  ·rw[if_neg,fP a.2 b];intro e;exact a.1 (e▸List.mem_map_of_mem b)
theorem tX(n:Nat)(T:Nat->Str)(b:Bool)(w c:Nat->Int)(ys:List Nat)(h:(ys.map T).Nodup):ie (n+2) (bg (eC T b w c ys)) (bg (eC T b w c ys))=true:=by refine tZ rfl λp a=>⟨p.2,fP (gb h) a,?_⟩;refine aK (List.mem_map.mp a) λy d=>?_;obtain⟨_,rfl⟩:=d;exact Cj n b (w y) (c y)
theorem tY(n:Nat)(a b c d:Int)(x y:PyData)(h:ie n x y=true):ie (n+1) (cZ a b c d x) (cZ a b c d y)=true:=by refine lG ?_;show(ie n (.int a) (.int a)&&(ie n (.int b) (.int b)&&(ie n (.int c) (.int c)&&(ie n (.int d) (.int d)&&(ie n x y&&true)))))=true;simp only[fj,fj,fj,fj,h];rfl
theorem lE{x y:PyData}(a:d0 x=false)(h:ie 8 x y=true):fL x y=some true:=by unfold fL;rw[a,h];rfl
theorem B9(ps:List (Str×PyData)):d0 (bg ps)=false:=by simp[d0,SeqAt.shaped,bg,PyData.canLay0]
theorem B7(a b c d:Int)(ps:List (Str×PyData)):d0 (cZ a b c d (bg ps))=false:=by simp[d0,SeqAt.shaped,cZ,bg,PyData.canLay0,PyData.canLayAll0]
theorem pZ(n:Nat)(W:Wd)(a b:Nat->Bool)(ys:List Nat)(h:(ys.map W.T).Nodup):ie (n+3) (bR W a b ys) (bR W a b ys)=true:=tY _ _ _ _ _ _ _ (tX n _ _ _ _ _ h)
theorem nj(W:Wd)(a b:Nat->Bool)(ys:List Nat)(h:(ys.map W.T).Nodup):BP (.tuple [bR W a b ys,bR W a b ys]):=
 ⟨_,rfl,lE (B7 ..) (pZ 5 W a b ys h)⟩
noncomputable def kz(a:List (Nat×Nat)):List (Nat×List Nat):=a.foldl (λA p=>eF A p.1 p.2) []
noncomputable def dp(W:Wd)(b c:Nat->Nat->Bool)(a:List (Nat×Nat)):List (Str×PyData):=eu W b c (kz a)
theorem qA(a:List (Nat×Nat))(x y:Nat):kz (a++[(x,y)])=eF (kz a) x y:=by simp[kz]
theorem pr:∀{A:List (Nat×List Nat)}{x y:Nat}{p:Nat×List Nat},p∈eF A x y->p.1=x\/∃q∈A,q.1=p.1:=by
 intro b;induction b with
 |nil=>intro x y p h;exact .inl (by rw[List.mem_singleton.mp (h:p∈[(x,[y])])])
 |cons q r c=>
  intro x y p h;rw[rF]at h;split at h
  ·rcases List.mem_cons.mp h with rfl|h
   ·exact .inl rfl
   ·exact .inr ⟨p,List.mem_cons_of_mem _ h,rfl⟩
  ·rcases List.mem_cons.mp h with rfl|h
   ·exact .inr ⟨_,List.mem_cons_self ..,rfl⟩
   ·refine aG λa=>?_;rcases c h with e|⟨d,f,e⟩
    ·exact a (.inl e)
    ·exact a (.inr ⟨d,List.mem_cons_of_mem _ f,e⟩)
theorem wy:∀(A:List (Nat×List Nat))(x y:Nat),(eF A x y).length<=A.length+1:=by
 intro a;induction a with
 |nil=>exact λ_ _=>Nat.le_refl 1
 |cons q r b=>
  intro x y;have:=b x y;rw[rF];split
  ·simp
  ·simp;lia
theorem kK:∀(A:List (Nat×List Nat))(x y z:Nat),bj (eF A x y) z=if x=z then bj A z++[y]else bj A z:=by
 intro a;induction a with
 |nil=>intro x y z;show(if x=z then[y]else[])=_;split<;>rfl
 |cons q r b=>
  intro x y z;rw[rF];by_cases h:q.1=x
  ·refine aB (if_pos h) ?_;show(if x=z then q.2++[y]else bj r z)=if x=z then(if q.1=z then q.2 else bj r z)++[y]else(if q.1=z then q.2 else bj r z);by_cases h':x=z
   ·refine aB (if_pos h') (aB (if_pos h') ?_);exact aB (if_pos (h.trans h')) rfl
   ·refine aB (if_neg h') (aB (if_neg h') ?_);exact aB (if_neg (λe=>h' (h.symm.trans e))) rfl
  ·refine aB (if_neg h) ?_;show(if q.1=z then q.2 else bj (eF r x y) z)=if x=z then(if q.1=z then q.2 else bj r z)++[y]else(if q.1=z then q.2 else bj r z);refine aB ((b x y z)) ?_;by_cases h':x=z
   ·refine aB (if_pos h') (aB (if_pos h') ?_);exact aB (if_neg (λe=>h (e.trans h'.symm))) (aB (if_neg (λe=>h (e.trans h'.symm))) rfl)
   ·exact aB (if_neg h') (aB (if_neg h') rfl)
theorem sx:∀(a:List (Nat×Nat))(A:List (Nat×List Nat)),(∀p∈a,p.1<6)->(∀p∈A,p.1<6)->∀p∈a.foldl (λA p=>eF A p.1 p.2) A,p.1<6:=by
 intro b;induction b with
 |nil=>exact λ_ _ c=>c
 |cons q a d=>
  exact λA h c=>d _ (λp f=>h p (List.mem_cons_of_mem _ f)) (λp f=>by
    rcases pr f with e|⟨g,i,e⟩
    ·exact aB e (h q (List.mem_cons_self ..))
    ·rw[<-e];exact c g i)
theorem vn:∀(a:List (Nat×Nat))(A:List (Nat×List Nat)),(a.foldl (λA p=>eF A p.1 p.2) A).length<=A.length+a.length:=by
 intro b;induction b with
 |nil=>exact λ_=>Nat.le_refl _
 |cons q a c=>intro A;have:=c (eF A q.1 q.2);have:=wy A q.1 q.2;simp only[List.foldl_cons,List.length_cons];lia
theorem sy:∀(a:List (Nat×Nat))(A:List (Nat×List Nat))(z:Nat),bj (a.foldl (λA p=>eF A p.1 p.2) A) z=bj A z++(a.filter λp=>p.1==z).map (·.2):=by
 intro b;induction b with
 |nil=>exact λA z=>by simp
 |cons q a c=>
  intro A z;simp only[List.foldl_cons,c,kK];by_cases h:q.1=z
  ·rw[if_pos h,List.filter_cons_of_pos (by simpa using h)];simp
  ·exact aB (if_neg h) (aB (List.filter_cons_of_neg (by simpa using h)) rfl)
theorem f8(a:List (Nat×Nat))(z:Nat):bj (kz a) z=(a.filter λp=>p.1==z).map (·.2):=sy a [] z
structure bA(log:List (Nat×Nat)):Prop where
 nd:log.Nodup
 lt:∀p∈log,p.1<6/\p.2<6
 len:log.length<=40
theorem bA.pre{a b:List (Nat×Nat)}(h:bA (a++b)):bA a:=
 ⟨(List.nodup_append.mp h.nd).1,λp c=>h.lt p (List.mem_append_left _ c),by have:=h.len;simp at this;lia⟩
theorem v0:∀{a:List (Nat×Nat)}(x:Nat),a.Nodup->((a.filter λp=>p.1==x).map (·.2)).Nodup:=by
 intro c;induction c with
 |nil=>exact@λ_ _=>List.nodup_nil
 |cons q a b=>
  intro x h;simp only[List.nodup_cons]at h;by_cases e:q.1=x
  ·refine aB (List.filter_cons_of_pos (by simpa using e)) (aB (List.map_cons) ?_);rw[List.nodup_cons];refine⟨λf=>?_,b x h.2⟩;obtain⟨p,d,g⟩:=List.mem_map.mp f;rw[List.mem_filter]at d;have:p=q:=Prod.ext ((by simpa using d.2:p.1=x).trans e.symm) g;exact h.1 (this▸d.1)
  ·exact aB (List.filter_cons_of_neg (by simpa using e)) (b x h.2)
theorem bA.sel{a:List (Nat×Nat)}(h:bA a)(x:Nat):(bj (kz a) x).Nodup:=by rw[f8];exact v0 x h.nd
theorem bA.sel_lt{a:List (Nat×Nat)}(h:bA a)(x z:Nat)(b:z∈bj (kz a) x):z<6:=by rw[f8]at b;refine aK (List.mem_map.mp b) λp c=>?_;obtain⟨d,rfl⟩:=c;exact(h.lt p (List.mem_filter.mp d).1).2
theorem bA.sel_len{a:List (Nat×Nat)}(h:bA a)(x:Nat):(bj (kz a) x).length<=40:=by rw[f8,List.length_map];have:=List.length_filter_le (λp:Nat×Nat=>p.1==x) a;have:=h.len;lia
theorem bA.keys{a:List (Nat×Nat)}(h:bA a):∀p∈kz a,p.1<6:=sx a [] (λp b=>(h.lt p b).1) (λ_ h=>nomatch h)
theorem bA.lenA{a:List (Nat×Nat)}(h:bA a):(kz a).length<=40:=by refine aG λb=>?_;have:=vn a [];have:=h.len;refine b ?_;unfold kz;simp at*;lia
noncomputable def df(st:List aA)(r h:Nat)(hs:List PyData)(ps:List (Str×PyData)):List aA:=aT (aT st h (.list hs)) r (dc ps)
@[simp] theorem d9(st:List aA)(r h:Nat)(hs:List PyData)(ps:List (Str×PyData)):(df st r h hs ps).length=st.length:=by simp[df]
theorem BJ{st:List aA}{r h:Nat}{hs:List PyData}{ps:List (Str×PyData)}(a:r<st.length):aI (df st r h hs ps) r=some (dc ps):=gu _ (by simpa using a)
theorem BI{st:List aA}{r h:Nat}{hs:List PyData}{ps:List (Str×PyData)}(b:h<st.length)(a:r≠h):aI (df st r h hs ps) h=some (.list hs):=by exact aB (fe _ a) (aB (gu _ b) rfl)
theorem v9{st:List aA}{r h:Nat}{hs a:List PyData}{ps b:List (Str×PyData)}(c:r≠h):df (df st r h hs ps) r h a b=df st r h a b:=by unfold df;refine aB (m0 _ _ _ _ _ c) ?_;rw[gv,gv]
noncomputable def mq(B:Nat)(hs:List PyData):Prop:=hs.length<=B/\∀d∈hs,BP d
theorem uo(st tail:List aA)(r h:Nat)(W:Wd)(s:eh W.T)(hs:List PyData)(a:List (Nat×Nat))(x y:Nat)(c e:Nat->Nat->Bool)(k:r<st.length)(l:h<st.length)(f:r≠h)(m:bA (a++[(x,y)]))(o:c x y=true->e x y=false){B:Nat}(u:B<=800)(p:mq B hs):
  ∃i,mq (B+2) i/\∀n,callf aH (n+90) 12 [.ref r,wd W h,.d (.int x),.d (.int y),.d (.str (sd (c x y) (e x y)))] (df st r h hs (dp W c e a)++tail)
   =some (.none,df st r h i (dp W c e (a++[(x,y)]))++tail):=by
 have b:=m.pre;have j:=m.lt (x,y) (by simp);have t:=m.sel x;rw[qA,kK,if_pos rfl]at t;refine⟨hs++[.tuple [bR W (c x) (e x) (bj (kz a) x),bR W (c x) (e x) (bj (kz a) x)],.tuple [bR W (c x) (e x) [y],bR W (c x) (e x) [y]]],?_,λn=>((λn=>yl n (df st r h hs (dp W c e a)++tail) r h W s hs (kz a) x y c e (by rw[fU _ (by simpa using k),BJ k];rfl) (by rw[fU _ (by simpa using l),BI l f]) f j.1 j.2 b.keys (λz q=>b.sel_lt x z q) b.lenA t (b.sel_len x) (by have:=p.1;lia) o) n).trans ?_⟩
 ·refine⟨by have:=p.1;simp;lia,λd g=>?_⟩;rcases List.mem_append.mp g with g|g
  ·exact p.2 d g
  ·simp only[List.mem_cons,List.not_mem_nil,or_false]at g;rcases g with rfl|rfl
   ·exact nj _ _ _ _ (cN s (b.sel x) (λz q=>b.sel_lt x z q))
   ·exact nj _ _ _ _ (by simp)
 ·refine aB (iF _ _ (by simpa using l)) (aB (iF _ _ (by simpa using k)) ?_);rw[<-qA];refine aB (show aT (aT (df st r h hs (dp W c e a)) h _) r _=df (df st r h hs (dp W c e a)) r h _ _ from rfl) (aB (v9 f) ?_);rfl
end Mine
end
noncomputable section
open PySem PySem.Calls PySem.Spec PySem.W PyProof.Rows Builtin.Str
set_option backward.match.sparseCases false
set_option genCtorIdx false
namespace Mine
structure Ks where
 one:Int
 two:Int
 p:Nat->Int
 q:Nat->Int
 h1:one=1\/one=-1
 h2:two=1\/two=-1
noncomputable def Ks.c(K:Ks)(i j:Nat):Int:=uY K.one K.two (K.p i) (K.q i) (K.p j) (K.q j)
noncomputable def cB(K:Ks):PyData:=.list (L6 λi=>.tuple [.int (K.p i),.int (K.q i)])
noncomputable def Ks.lf(K:Ks)(x y:Nat):Bool:=K.c y x==-1
noncomputable def Ks.lk(K:Ks)(x y:Nat):Bool:=K.c y x==0
theorem Ks.c3(K:Ks)(i j:Nat):K.c i j=-1\/K.c i j=0\/K.c i j=1:=by
 unfold Ks.c uY;have:=K.h1;have:=K.h2
 repeat' split
 all_goals lia
theorem Ks.anti(K:Ks)(i j:Nat):K.c i j=-K.c j i:=by
 unfold Ks.c uY
 repeat' split
 all_goals lia
theorem Ks.lflk(K:Ks)(x y:Nat)(h:K.lf x y=true):K.lk x y=false:=by
 unfold Ks.lf at h;unfold Ks.lk;have:K.c y x=-1:=by simpa using h
 simp[this]
theorem Fz(c:Int)(h:c=-1\/c=0\/c=1):Str.ofString (toString c)=sd (c==-1) (c==0):=by rcases h with rfl|rfl|rfl<;>decide+kernel
theorem wH(c:Int)(h:c=-1\/c=0\/c=1)(st:List aA):fJ .str (.d (.int c)) st=some (.d (.str (sd (c==-1) (c==0))),st):=by show(if c.natAbs<2^64 then some (V.d (.str (Str.ofString (toString c))),st)else none)=_;rw[if_pos (by rcases h with rfl|rfl|rfl<;>decide),Fz c h]
theorem bt(K:Ks)(st:List aA)(y:Nat)(h:y<6):cW st (.d (cB K)) (.d (.int y))=some (.d (.tuple [.int (K.p y),.int (K.q y)])):=by show(bV (L6 λi=>PyData.tuple [.int (K.p i),.int (K.q i)]) (y:Int)).map V.d=_;refine aB (kx _ y h) ?_;rfl
theorem eO(K:Ks)(n:Nat)(st:List aA)(i j:Nat):callf aH (n+20) 20 [.cmp K.one K.two,.d (.tuple [.int (K.p i),.int (K.q i)]),.d (.tuple [.int (K.p j),.int (K.q j)])] st=some (.int (K.c i j),st):=rU n st _ _ _ _ _ _
noncomputable def qO:Option Nat->PyData
 |none=>.none
 |some z=>.int z
noncomputable def be(s:List (Option Nat)):List PyData:=s.map qO
structure bU(s:List (Option Nat)):Prop where
 len:s.length=6
 lt:∀z,some z∈s->z<6
section
variable{st:List aA}{r h:Nat}{hs:List PyData}{ps:List (Str×PyData)}{c d c' d':aA}{tail:List aA}
@[simp] theorem bq:aI (df st r h hs ps++c::tail) st.length=some c:=by
 have:=aR c tail (df st r h hs ps)
 rwa [d9]at this
@[simp] theorem br:aI (df st r h hs ps++c::d::tail) (st.length+1)=some d:=by
 have:=ju c d tail (df st r h hs ps)
 rwa [d9]at this
@[simp] theorem pE:aT (df st r h hs ps++c::tail) st.length c'=df st r h hs ps++c'::tail:=by
 have:=cz c c' tail (df st r h hs ps)
 rwa [d9]at this
@[simp] theorem pG:aT (df st r h hs ps++c::d::tail) (st.length+1) d'=df st r h hs ps++c::d'::tail:=by
 have:=jv c d d' tail (df st r h hs ps)
 rwa [d9]at this
theorem kW(a:r<st.length):aI (df st r h hs ps++tail) r=some (dc ps):=by exact aB (fU _ (by simpa using a)) (aB (BJ a) rfl)
theorem Eb(b:h<st.length)(a:r≠h):aI (df st r h hs ps++tail) h=some (.list hs):=by exact aB (fU _ (by simpa using b)) (aB (BI b a) rfl)
end
theorem dE{st:List aA}{r:Nat}{xs:List PyData}{i:Int}(h:aI st r=some (.list xs)):cW st (.ref r) (.d (.int i))=(bV xs i).map .d:=by show(match aI st r with|some (.list xs)=>(bV xs i).map V.d|_=>none)=_;exact aB h rfl
theorem jP{st:List aA}{r:Nat}{xs:List PyData}{i:Nat}(x:PyData)(h:aI st r=some (.list xs))(a:i<xs.length)(hl:xs.length<=1000):je st (.ref r) (.d (.int i)) x=some (aT st r (.list (xs.set i x))):=by show(match aI st r with|some (.list xs)=>if 0<=(i:Int)/\(i:Int)<xs.length/\xs.length<=sizeLine then some (aT st r (.list (xs.set (i:Int).toNat x)))else none|_=>none)=_;rw[h];show(if 0<=(i:Int)/\(i:Int)<xs.length/\xs.length<=sizeLine then some (aT st r (.list (xs.set (i:Int).toNat x)))else none)=_;rw[if_pos ⟨by lia,by lia,bb hl⟩];rfl
theorem gB{s:List (Option Nat)}(a:bU s)(i:Nat)(h:i<6):bV (be s) (i:Int)=some (qO (s.getD i none)):=by
 refine Eq.trans (ba _ _ (by simp[be,a.len];exact h) (by lia)) ?_;have:i<s.length:=by rw[a.len];exact h
 simp[be,this]
theorem q3(s:List (Option Nat))(i z:Nat):(be s).set i (.int z)=be (s.set i (some z)):=by simp[be,List.map_set,qO]
theorem bU.put{s:List (Option Nat)}(a:bU s)(i z:Nat)(b:z<6):bU (s.set i (some z)):=
 ⟨by simp[a.len],λy c=>by
  rcases List.mem_or_eq_of_mem_set c with h|h
  ·exact a.lt y h
  ·rw[Option.some.inj h];exact b⟩
theorem bU.get{s:List (Option Nat)}(a:bU s){i z:Nat}(h:s.getD i none=some z):z<6:=by
 refine a.lt z ?_;replace h:=Eq.trans (Eq.symm (List.getD_eq_getElem?_getD)) h;cases e:s[i]?with
 |none=>rw[e]at h;cases h
 |some o=>rw[e]at h;exact h▸List.mem_of_getElem? e
@[simp] theorem G7(W:Wd)(h:Nat)(st:List aA):vY (wd W h) st=some (wd W h,st):=rfl
theorem A4{st:List aA}{r h:Nat}{hs:List PyData}{ps:List (Str×PyData)}{s:List (Option Nat)}{tail:List aA}(a:bU s){i:Nat}(b:i<6)(z:Nat):
  je (df st r h hs ps++.list (be s)::tail) (.ref st.length) (.d (.int i)) (.int z)=some (df st r h hs ps++.list (be (s.set i (some z)))::tail):=by
 have hl:(be s).length=6:=by simp[be,a.len]
 refine Eq.trans (jP _ bq (by lia) (by lia)) ?_;simp only[pE,q3]
theorem A5{st:List aA}{r h:Nat}{hs:List PyData}{ps:List (Str×PyData)}{s:List (Option Nat)}{c:aA}{tail:List aA}(a:bU s){i:Nat}(b:i<6)(z:Nat):
  je (df st r h hs ps++c::.list (be s)::tail) (.ref (st.length+1)) (.d (.int i)) (.int z)=some (df st r h hs ps++c::.list (be (s.set i (some z)))::tail):=by
 have hl:(be s).length=6:=by simp[be,a.len]
 refine Eq.trans (jP _ br (by lia) (by lia)) ?_;simp only[pG,q3]
@[simp] theorem CI(o:Option Nat):lO (qO o)=o.isNone:=by induction o using Option.casesOn<;>rfl
structure Tr where
 lo:List (Option Nat)
 hi:List (Option Nat)
 log:List (Nat×Nat)
noncomputable def c7(c:Nat->Nat->Bool)(b:Nat):Nat->Nat->Tr->Tr
 |0,_,s=>s
 |f+1,a,s=>if c a b=true then
   match s.lo.getD a none with
   |none=>⟨s.lo.set a (some b),s.hi,s.log++[(a,b)]⟩
   |some z=>c7 c b f z ⟨s.lo,s.hi,s.log++[(a,b)]⟩
  else match s.hi.getD a none with
   |none=>⟨s.lo,s.hi.set a (some b),s.log++[(a,b)]⟩
   |some z=>c7 c b f z ⟨s.lo,s.hi,s.log++[(a,b)]⟩
noncomputable def fH(a:Nat->Nat->Bool):List Nat->Tr->Tr
 |[],s=>s
 |new::r,s=>fH a r (c7 a new 6 0 s)
section
variable(K:Ks)(W:Wd)(st:List aA)(r h:Nat)
noncomputable def A8(hs:List PyData)(s:Tr):List aA:=df st r h hs (dp W K.lf K.lk s.log)++[.list (be s.lo),.list (be s.hi)]
noncomputable def r9(a:Nat)(c e f b:V):List V:=[.d (cB K),.cmp K.one K.two,.ref r,wd W h,.ref st.length,.ref (st.length+1),.d (.int a),c,e,f,b]
end
theorem wh(K:Ks)(W:Wd)(D:eh W.T)(st:List aA)(r h:Nat)(hs:List PyData)(s:Tr)(b a:Nat)(t E u:V)(y:r<st.length)(F:h<st.length)(v:r≠h)(A:bU s.lo)(C:bU s.hi)(f:b<6)(c:a<6)(G:bA (s.log++[(a,b)])){B:Nat}(H:B<=800)(I:mq B hs):
  ∃i o j,mq (B+2) i/\∀n,exs aH (n+100) (r9 K W st r h b (.d (.int a)) t E u) fE (A8 K W st r h hs s)
   =some (match(if K.lf a b=true then s.lo else s.hi).getD a none with
    |none=>(.brk,r9 K W st r h b (.d (.int a)) t o j,A8 K W st r h i (if K.lf a b=true then⟨s.lo.set a (some b),s.hi,s.log++[(a,b)]⟩else⟨s.lo,s.hi.set a (some b),s.log++[(a,b)]⟩))
    |some z=>(.nx,r9 K W st r h b (.d (.int z)) t o j,A8 K W st r h i ⟨s.lo,s.hi,s.log++[(a,b)]⟩)):=by
 refine aG λw=>?_;obtain⟨i,x,e⟩:=uo st [.list (be s.lo),.list (be s.hi)] r h W D hs s.log a b K.lf K.lk y F v G (K.lflk a b) H I;refine w (vf i (.d (.str (sd (K.lf a b) (K.lk a b)))) (if K.lf a b=true then .ref st.length else .ref (st.length+1)) ⟨x,λn=>?_⟩);have q:aI (df st r h hs (dp W K.lf K.lk s.log)++[.list (be s.lo),.list (be s.hi)]) r=some (dc (dp W K.lf K.lk s.log)):=kW y;have k:=wH (K.c b a) (K.c3 b a);simp only[show(K.c b a==-1)=K.lf a b from rfl,show(K.c b a==0)=K.lk a b from rfl]at k;have l:=gB A a c;have m:=gB C a c;by_cases hl:K.lf a b=true
 ·simp only[hl,if_true]at k e⊢;cases p:s.lo.getD a none with
  |none=>replace l:=p▸l;exact go (zs 7 (1::zs 2 (2::zs 1 ([])))) λg=>g _ (bt K _ b f) _ (bt K _ a c) _ _ (eO K _ _ b a) _ _ (k _) _ _ (bv q) _ _ (e _) _ _ (bx _ _ _) _ _ (aP bq) _ _ (aP bq) _ ((dE bq).trans (congrArg (Option.map V.d) l)) _ _ (aP bq) _ (A4 A c _) rfl
  |some z=>rw[p]at l;exact go (zs 7 (1::zs 2 (2::zs 1 ([])))) λg=>g _ (bt K _ b f) _ (bt K _ a c) _ _ (eO K _ _ b a) _ _ (k _) _ _ (bv q) _ _ (e _) _ _ (bx _ _ _) _ _ (aP bq) _ _ (aP bq) _ ((dE bq).trans (congrArg (Option.map V.d) l)) _ _ (aP bq) _ ((dE bq).trans (congrArg (Option.map V.d) l)) rfl
 ·simp only[Bool.not_eq_true]at hl;simp only[hl,Bool.false_eq_true,if_false]at k e⊢;cases p:s.hi.getD a none with
  |none=>replace m:=p▸m;exact go (zs 7 (1::zs 2 (2::zs 1 ([])))) λg=>g _ (bt K _ b f) _ (bt K _ a c) _ _ (eO K _ _ b a) _ _ (k _) _ _ (bv q) _ _ (e _) _ _ (bx _ _ _) _ _ (aP br) _ _ (aP br) _ ((dE br).trans (congrArg (Option.map V.d) m)) _ _ (aP br) _ (A5 C c _) rfl
  |some z=>rw[p]at m;exact go (zs 7 (1::zs 2 (2::zs 1 ([])))) λg=>g _ (bt K _ b f) _ (bt K _ a c) _ _ (eO K _ _ b a) _ _ (k _) _ _ (bv q) _ _ (e _) _ _ (bx _ _ _) _ _ (aP br) _ _ (aP br) _ ((dE br).trans (congrArg (Option.map V.d) m)) _ _ (aP br) _ ((dE br).trans (congrArg (Option.map V.d) m)) rfl
theorem du(c:Nat->Nat->Bool)(b f a:Nat)(s:Tr):c7 c b (f+1) a s=if c a b=true then
   match s.lo.getD a none with
   |none=>⟨s.lo.set a (some b),s.hi,s.log++[(a,b)]⟩
   |some z=>c7 c b f z ⟨s.lo,s.hi,s.log++[(a,b)]⟩
  else match s.hi.getD a none with
   |none=>⟨s.lo,s.hi.set a (some b),s.log++[(a,b)]⟩
   |some z=>c7 c b f z ⟨s.lo,s.hi,s.log++[(a,b)]⟩:=rfl
theorem fD(b:Nat->Nat->Bool)(a:Nat)(r:List Nat)(s:Tr):fH b (a::r) s=fH b r (c7 b a 6 0 s):=rfl
theorem lr(g:Nat->Nat->Bool)(b:Nat):∀(f a:Nat)(s:Tr),∃t,(c7 g b f a s).log=s.log++t:=by
 intro d;induction d with
 |zero=>exact λ_ s=>⟨[],(List.append_nil _).symm⟩
 |succ f c=>
  intro a s;rw[du];split
  ·split
   ·exact⟨_,rfl⟩
   ·obtain⟨t,e⟩:=c _ ⟨s.lo,s.hi,s.log++[(a,b)]⟩;exact⟨(a,b)::t,by rw[e];simp⟩
  ·split
   ·exact⟨_,rfl⟩
   ·obtain⟨t,e⟩:=c _ ⟨s.lo,s.hi,s.log++[(a,b)]⟩;exact⟨(a,b)::t,by rw[e];simp⟩
theorem m4(c:Nat->Nat->Bool)(b f a:Nat)(s:Tr):∃t,(c7 c b (f+1) a s).log=(s.log++[(a,b)])++t:=by
 rw[du];split
 ·split
  ·exact⟨[],by simp⟩
  ·exact lr c b f _ ⟨s.lo,s.hi,s.log++[(a,b)]⟩
 ·split
  ·exact⟨[],by simp⟩
  ·exact lr c b f _ ⟨s.lo,s.hi,s.log++[(a,b)]⟩
theorem nJ(b:Nat->Nat->Bool):∀(ns:List Nat)(s:Tr),∃t,(fH b ns s).log=s.log++t:=by
 intro c;induction c with
 |nil=>exact λs=>⟨[],(List.append_nil _).symm⟩
 |cons a r d=>intro s;refine aK (lr b a 6 0 s) λt e=>?_;obtain⟨f,g⟩:=d (c7 b a 6 0 s);exact⟨t++f,by rw[fD,g,e,List.append_assoc]⟩
inductive mP(K:Ks)(W:Wd)(st:List aA)(r h new B:Nat)(t:Tr)(ds:List PyData)(env:List V)(s0:List aA):Prop
 |mk (hs':List PyData) (a b c d:V) (H:mq B hs') (ol:bU t.lo) (oh:bU t.hi) (ch:∀n,cf aH (n+100) (.v 8) fE ds env s0=some (.nx,r9 K W st r h new a b c d,A8 K W st r h hs' t))
theorem mP.step{K:Ks}{W:Wd}{st:List aA}{r h e B j:Nat}{t:Tr}{ds f:List PyData}{env env':List V}{l s1:List aA}(D:mP K W st r h e B t ds env l)(m:B=j)(k:∀n g,cf aH (n+100) (.v 8) fE ds env l=g->cf aH (n+100) (.v 8) fE f env' s1=g):mP K W st r h e j t f env' s1:=by
 induction D using mP.casesOn with
 |mk i a b c d H o p ch=>exact⟨i,a,b,c,d,m▸H,o,p,λn=>k n _ (ch n)⟩
theorem zz(K:Ks)(W:Wd)(E:eh W.T)(st:List aA)(r h:Nat)(F:r<st.length)(G:h<st.length)(x:r≠h)(b:Nat)(f:b<6)(ds:List PyData):∀(hs:List PyData)(s:Tr)(a:Nat)(w u c:V)(B:Nat),
  bU s.lo->bU s.hi->a<6->bA (c7 K.lf b ds.length a s).log->B+2*ds.length<=800->mq B hs->
  mP K W st r h b (B+2*ds.length) (c7 K.lf b ds.length a s) ds (r9 K W st r h b (.d (.int a)) w u c) (A8 K W st r h hs s):=by
 induction ds with
 |nil=>exact λhs s a w u c B m p _ _ _ y=>⟨hs,_,_,_,_,y,m,p,λn=>rfl⟩
 |cons d ds A=>
  intro hs s a w u c B m p q g H y;rw[List.length_cons]at g H⊢;refine(m4 K.lf b ds.length a s).elim λt I=>(wh K W E st r h hs s b a (.d d) u c F G x m p f q (by rw[I]at g;exact g.pre) (by lia:B<=800) y).elim λi⟨j,e10',hH1,step⟩=>?_;have C:∀{hs},mq (B+2) hs->mq (B+2*(ds.length+1)) hs:=λh=>⟨by have:=h.1;lia,h.2⟩;have D:B+2+2*ds.length=B+2*(ds.length+1):=by lia
  have k:∀n o,exs aH (n+100) (r9 K W st r h b (.d (.int a)) (.d d) u c) fE (A8 K W st r h hs s)=o->cf aH (n+100) (.v 8) fE (d::ds) (r9 K W st r h b (.d (.int a)) w u c) (A8 K W st r h hs s)=o.bind (f5 aH (n+100) (.v 8) fE ds):=λn o e=>congrArg (Option.bind · (f5 aH (n+100) (.v 8) fE ds)) e;rw[du]at g⊢;by_cases hl:K.lf a b=true
  ·simp only[hl,if_true]at step g⊢;cases l:s.lo.getD a none with
   |none=>rw[l]at step;exact⟨i,.d (.int a),.d d,j,e10',C hH1,m.put a b f,p,λn=>k n _ (step n)⟩
   |some z=>rw[l]at step;simp only[l]at g⊢;exact(A i ⟨s.lo,s.hi,s.log++[(a,b)]⟩ z (.d d) j e10' (B+2) m p (m.get l) g (by lia) hH1).step D λn _ ch=>(k n _ (step n)).trans ch
  ·simp only[Bool.not_eq_true]at hl;simp only[hl,Bool.false_eq_true,if_false]at step g⊢;cases l:s.hi.getD a none with
   |none=>rw[l]at step;exact⟨i,.d (.int a),.d d,j,e10',C hH1,m,p.put a b f,λn=>k n _ (step n)⟩
   |some z=>rw[l]at step;simp only[l]at g⊢;exact(A i ⟨s.lo,s.hi,s.log++[(a,b)]⟩ z (.d d) j e10' (B+2) m p (p.get l) g (by lia) hH1).step D λn _ ch=>(k n _ (step n)).trans ch
inductive Bn(K:Ks)(W:Wd)(st:List aA)(r h B:Nat)(t:Tr)(ds:List PyData)(env:List V)(s0:List aA):Prop
 |mk (hs':List PyData) (a b c d e:V) (H:mq B hs') (ch:∀n,cf aH (n+110) (.v 6) ph ds env s0=some (.nx,[.d (cB K),.cmp K.one K.two,.ref r,wd W h,.ref st.length,.ref (st.length+1),a,b,c,d,e],A8 K W st r h hs' t))
theorem y3(K:Ks)(W:Wd)(D:eh W.T)(st:List aA)(r h:Nat)(E:r<st.length)(F:h<st.length)(o:r≠h)(ns:List Nat):∀(hs:List PyData)(s:Tr)(p:V)(q l m f:V)(B:Nat),
  (∀z∈ns,z<6)->bU s.lo->bU s.hi->bA (fH K.lf ns s).log->B+12*ns.length<=700->mq B hs->
  Bn K W st r h (B+12*ns.length) (fH K.lf ns s) (ns.map λi:Nat=>PyData.int i) [.d (cB K),.cmp K.one K.two,.ref r,wd W h,.ref st.length,.ref (st.length+1),p,q,l,m,f] (A8 K W st r h hs s):=by
 induction ns with
 |nil=>exact λhs s p q l m f B _ _ _ _ _ u=>⟨hs,_,_,_,_,_,u,λn=>rfl⟩
 |cons e ns G=>
  intro hs s p q l m f B hl H I j J u;rw[List.length_cons]at J⊢;replace j:bA (fH K.lf ns (c7 K.lf e 6 0 s)).log:=j;refine(nJ K.lf ns (c7 K.lf e 6 0 s)).elim λt L=>?_;induction(zz K W D st r h E F o e (hl e (List.mem_cons_self ..)) [.int 0,.int 1,.int 2,.int 3,.int 4,.int 5] hs s 0 l m f B H I (by lia) (by rw[L]at j;exact j.pre) (by simp;lia) u)using mP.casesOn with
  |mk v a b c d w x y ch=>
   induction(G v (c7 K.lf e 6 0 s) (.d (.int e)) a b c d (B+12) (λz M=>hl z (List.mem_cons_of_mem _ M)) x y j (by lia) w)using Bn.casesOn with
   |mk A N O c' P Q C k=>
    exact⟨A,N,O,c',P,Q,(by lia:B+12+12*ns.length=B+12*(ns.length+1))▸C,λn=>by
     refine aB (List.map_cons) ?_;exact oJ (1::[]) λg=>g _ _ _ ((ch (n+7))) (k n)⟩
noncomputable def gc:List (Option Nat):=[none,none,none,none,none,none]
noncomputable def kh(K:Ks):Tr:=fH K.lf [1,2,3,4,5] ⟨gc,gc,[]⟩
theorem BG:bU gc:=⟨rfl,λz h=>by simp[gc]at h⟩
set_option maxRecDepth 8000 in
set_option maxHeartbeats 2000000 in
theorem Bj(K:Ks)(W:Wd)(m:eh W.T)(st:List aA)(r h:Nat)(o:r<st.length)(p:h<st.length)(i:r≠h)(hs:List PyData)(q:bA (kh K).log){B:Nat}(u:B<=600)(s:mq B hs):
  ∃f,mq (B+60) f/\∀n,callf aH (n+130) 13 [.d (cB K),.cmp K.one K.two,.ref r,wd W h] (df st r h hs [])
   =some (.tuple [.list (be (kh K).lo),.list (be (kh K).hi)],df st r h f (dp W K.lf K.lk (kh K).log)):=by
 obtain⟨f,a,b,c,d,e,j,ch⟩:=y3 K W m st r h o p i [1,2,3,4,5] hs ⟨gc,gc,[]⟩ .unb .unb .unb .unb .unb B (by decide) BG BG q (by simp;lia) s;refine⟨f,j,λn=>?_⟩;have t:=ch (n+16);refine Eq.trans mC ?_;have g:exs aH (n+129) [.d (cB K),.cmp K.one K.two,.ref r,wd W h,.unb,.unb,.unb,.unb,.unb,.unb,.unb] hZ (df st r h hs [])=exs aH (n+128) [.d (cB K),.cmp K.one K.two,.ref r,wd W h,.ref (df st r h hs []).length,.ref (df st r h hs []++[aA.list (be gc)]).length,.unb,.unb,.unb,.unb,.unb] [(.for (.v 6) (.rng [(.k (.int 1)),(.k (.int 6))]) ph),(.ret (.tup [(.v 4),(.v 5)]))] ((df st r h hs []++[aA.list (be gc)])++[aA.list (be gc)]):=rfl;have l:=λenv=>Bz (st:=df st r h f (dp W K.lf K.lk (kh K).log)) (env:=env) (A:=be (kh K).lo) (B:=be (kh K).hi);rw[d9]at l;rw[g,List.append_assoc,List.length_append,d9];exact dR (1::zs 2 ([])) λg=>g _ _ _ t _ _ (qU (bq ..)) _ _ (qU (br ..)) (l _)
end Mine
end
noncomputable section
open PySem PySem.Calls PySem.Spec PySem.W PyProof.Rows Builtin.Str
namespace Mine
noncomputable def aJ(l:List Nat):List PyData:=l.map λi:Nat=>PyData.int i
@[simp] theorem EJ:aJ []=[]:=rfl
@[simp] theorem eW(x:Nat)(l:List Nat):aJ (x::l)=.int x::aJ l:=rfl
@[simp] theorem EI(a b:List Nat):aJ (a++b)=aJ a++aJ b:=List.map_append ..
@[simp] theorem yn(a:List Nat):(aJ a).length=a.length:=List.length_map ..
theorem Ca(k a:Str)(v b:PyData)(h:k≠a):lq [.str k,.str a] [v,b] [] []=some (bg [(k,v),(a,b)]):=by show some (dD (cg (cg [] k) a) (cA (cg [] k) (cA [] [] k v) a b))=_;rw[show cg [] k=aO [(k,v)] from rfl,show cA ([]:List Str) [] k v=bH [(k,v)] from rfl,eV (by simp;exact Ne.symm h),eP _ (by simp;exact Ne.symm h)];exact congrArg some (j0 [(k,v),(a,b)])
theorem yr:Str.ofString "1"≠Str.ofString "-1":=by decide+kernel
noncomputable def yS:PyData:=bg [(Str.ofString "1",.str (Str.ofString "-1")),(Str.ofString "-1",.str (Str.ofString "1"))]
theorem pT:lq [.str (Str.ofString "1"),.str (Str.ofString "-1")] [.str (Str.ofString "-1"),.str (Str.ofString "1")] [] []=some yS:=Ca _ _ _ _ yr
theorem E5(st:List aA):oX st .get (.d yS)=true:=rfl
theorem yc(st:List aA)(c:Int)(h:c=-1\/c=0\/c=1):d7 st .get (.d yS) [.d (.str (sd (c==-1) (c==0))),.d (.str (sd (c==-1) (c==0)))]=some (.d (.str (sd (c==1) (c==0))),st):=by
 show some (V.d ((dN ([(Str.ofString "1",PyData.str (Str.ofString "-1")),(Str.ofString "-1",.str (Str.ofString "1"))].map λp=>(.str p.1,p.2)) (sd (c==-1) (c==0))).getD (.str (sd (c==-1) (c==0)))),st)=_;rw[lw];rcases h with rfl|rfl|rfl
 ·show some (V.d ((if Str.ofString "1"=Str.ofString "-1"then _ else(if Str.ofString "-1"=Str.ofString "-1"then _ else _:Option PyData)).getD _),st)=_;refine aB (if_neg yr) (aB (if_pos rfl) ?_);rfl
 ·show some (V.d ((if Str.ofString "1"=Str.ofString "0"then _ else(if Str.ofString "-1"=Str.ofString "0"then _ else none:Option PyData)).getD _),st)=_;refine aB (if_neg (by decide+kernel)) (aB (if_neg (by decide+kernel)) ?_);rfl
 ·show some (V.d ((if Str.ofString "1"=Str.ofString "1"then _ else _:Option PyData).getD _),st)=_;refine aB (if_pos rfl) ?_;rfl
theorem Ks.sw(K:Ks)(x y:Nat):(K.c x y==1)=K.lf x y/\(K.c x y==0)=K.lk x y:=by
 unfold Ks.lf Ks.lk;have:=K.anti x y;constructor
 ·rw[Bool.eq_iff_iff];simp;lia
 ·rw[Bool.eq_iff_iff];simp;lia
noncomputable def kj(K:Ks)(W:Wd)(st:List aA)(r h:Nat)(l:List Nat)(b c e a:V):List V:=[.d (.list (aJ l)),.d (cB K),.cmp K.one K.two,.ref r,wd W h,.ref st.length,.ref (st.length+1),b,c,e,a]
noncomputable def DR(K:Ks)(W:Wd)(st:List aA)(r h:Nat)(hs:List PyData)(a:List (Nat×Nat))(b c:List Nat):List aA:=df st r h hs (dp W K.lf K.lk a)++[.list (aJ b),.list (aJ c)]
theorem B1{st:List aA}{r h:Nat}{hs:List PyData}{ps:List (Str×PyData)}{tail:List aA}(l:List Nat)(z:Nat)(hl:l.length<=100):
  d7 (df st r h hs ps++.list (aJ l)::tail) .append (.ref st.length) [.d (.int z)]=some (.d .none,df st r h hs ps++.list (aJ l++[.int z])::tail):=by
 exact aB (oO _ bq (by simp;lia)) (aB pE rfl)
theorem B2{st:List aA}{r h:Nat}{hs:List PyData}{ps:List (Str×PyData)}{c:aA}{tail:List aA}(l:List Nat)(z:Nat)(hl:l.length<=100):
  d7 (df st r h hs ps++c::.list (aJ l)::tail) .append (.ref (st.length+1)) [.d (.int z)]=some (.d .none,df st r h hs ps++c::.list (aJ l++[.int z])::tail):=by
 exact aB (oO _ br (by simp;lia)) (aB pG rfl)
theorem v7(K:Ks)(W:Wd)(F:eh W.T)(st:List aA)(r h:Nat)(hs:List PyData)(a:List (Nat×Nat))(x y:Nat)(l i j:List Nat)(G H k:V)(w:r<st.length)(I:h<st.length)(o:r≠h)(z:x<6)(A:y<6)(J:bA (a++[(x,y)]))(N:i.length<=50)(O:j.length<=50){B:Nat}(L:B<=800)(M:mq B hs):
  ∃e p q,mq (B+2) e/\∀n,exs aH (n+100) (kj K W st r h (x::l) (.d (.int y)) G H k) tn (DR K W st r h hs a i j)
   =some (.nx,kj K W st r h (x::l) (.d (.int y)) p q k,DR K W st r h e (a++[(x,y)]) (i++if K.lf x y=true then[y]else[]) (j++if K.lf x y=true then[]else[y])):=by
 refine aG λs=>?_;obtain⟨e,t,f⟩:=uo st [.list (aJ i),.list (aJ j)] r h W F hs a x y K.lf K.lk w I o J (K.lflk x y) L M;refine s (vf e (.d (.str (sd (K.c x y==-1) (K.c x y==0)))) (.d (.str (sd (K.lf x y) (K.lk x y)))) ⟨t,λn=>?_⟩);have C:aI (df st r h hs (dp W K.lf K.lk a)++[.list (aJ i),.list (aJ j)]) r=some (dc (dp W K.lf K.lk a)):=kW w;have u:=wH (K.c x y) (K.c3 x y);have m:=λst=>yc st (K.c x y) (K.c3 x y);rw[(K.sw x y).1]at m;have v:∀b,sd b (K.c x y==0)=sd b (K.lk x y):=λb=>by rw[(K.sw x y).2]
 simp only[v]at u m⊢;have D:=B1 (st:=st) (r:=r) (h:=h) (hs:=e) (ps:=dp W K.lf K.lk (a++[(x,y)])) (tail:=[.list (aJ j)]) i y (by lia);have E:=B2 (st:=st) (r:=r) (h:=h) (hs:=e) (ps:=dp W K.lf K.lk (a++[(x,y)])) (c:=.list (aJ i)) (tail:=[]) j y (by lia);rw[show aJ i++[.int y]=aJ (i++[y]) by simp[aJ]]at D;rw[show aJ j++[.int y]=aJ (j++[y]) by simp[aJ]]at E;cases hl:K.lf x y<;>simp only[hl]at f m<;>simp only[Bool.false_eq_true,if_false,if_true,List.append_nil]
 ·exact go (1::zs 4 (1::zs 1 (1::zs 1 (1::zs 2 ([]))))) λg=>g _ (bt K _ x z) _ (bt K _ y A) _ _ (eO K _ _ x y) _ _ (u _) _ pT _ _ (m _) _ _ (bv C) _ _ (f _) _ _ (bx _ _ _) _ _ (aP br) _ (AK br) _ _ E rfl
 ·exact go (1::zs 4 (1::zs 1 (1::zs 1 (1::zs 2 ([]))))) λg=>g _ (bt K _ x z) _ (bt K _ y A) _ _ (eO K _ _ x y) _ _ (u _) _ pT _ _ (m _) _ _ (bv C) _ _ (f _) _ _ (bx _ _ _) _ _ (aP bq) _ (AK bq) _ _ D rfl
theorem v6(K:Ks)(W:Wd)(M:eh W.T)(st:List aA)(r h:Nat)(N:r<st.length)(O:h<st.length)(q:r≠h)(x:Nat)(P:x<6)(l:List Nat)(C:Nat)(Y:C<=700):∀(ys:List Nat)(hs:List PyData)(c:List (Nat×Nat))(f g:List Nat)(k i j e:V),
  (∀y∈ys,y<6)->bA (c++ys.map λy=>(x,y))->f.length+ys.length<=50->g.length+ys.length<=50->mq (C+2*c.length) hs->
  ∃m s t u,mq (C+2*(c++ys.map λy=>(x,y)).length) m/\∀n,cf aH (n+100) (.v 7) tn (aJ ys) (kj K W st r h (x::l) k i j e) (DR K W st r h hs c f g)
   =some (.nx,kj K W st r h (x::l) s t u e,DR K W st r h m (c++ys.map λy=>(x,y)) (f++ys.filter λy=>K.lf x y) (g++ys.filter λy=>!K.lf x y)):=by
 intro w;induction w with
 |nil=>exact λhs c f g k i j e _ _ _ _ A=>⟨hs,k,i,j,by simpa using A,λn=>by simp⟩
 |cons y ys B=>
  intro hs c f g k i j e J L Q R A;have o:bA ((c++[(x,y)])++ys.map λy=>(x,y)):=by simpa using L
  have:=L.len;simp at this Q R;refine aG λD=>cU (v7 K W M st r h hs c x y l f g i j e N O q P (J y (List.mem_cons_self ..)) o.pre (by lia) (by lia) (by lia:C+2*c.length<=800) A) λE a b S=>?_;obtain⟨F,p⟩:=S;obtain⟨G,T,U,c',H,ch⟩:=B E (c++[(x,y)]) (f++if K.lf x y=true then[y]else[]) (g++if K.lf x y=true then[]else[y]) (.d (.int y)) a b e
   (λz X=>J z (List.mem_cons_of_mem _ X)) o (by split<;>simp<;>lia) (by split<;>simp<;>lia) (by simp;rw[show C+2*(c.length+1)=C+2*c.length+2 by lia];exact F)
  refine D (vg G T U c' ⟨by simpa using H,λn=>?_⟩);have I:cd (.v 7) (.d (.int y)) (kj K W st r h (x::l) k i j e)=some (kj K W st r h (x::l) (.d (.int y)) i j e):=rfl;simp only[eW,eQ,I,cv,p,cv,t9,ch];cases hl:K.lf x y<;>simp[hl]
noncomputable def bY(b:Nat->Nat->Bool):Nat->List Nat->List (Nat×Nat)->List (Nat×Nat)
 |0,_,a=>a
 |_+1,[],a=>a
 |f+1,x::ys,a=>bY b f (ys.filter λy=>!b x y) (bY b f (ys.filter λy=>b x y) (a++ys.map λy=>(x,y)))
theorem ef(b:Nat->Nat->Bool):∀(f:Nat)(l:List Nat)(a:List (Nat×Nat)),∃t,bY b f l a=a++t
 |0,_,a=>⟨[],(List.append_nil _).symm⟩
 |_+1,[],a=>⟨[],(List.append_nil _).symm⟩
 |f+1,x::ys,a=>by obtain⟨t,e⟩:=ef b f (ys.filter λy=>b x y) (a++ys.map λy=>(x,y));obtain⟨c,d⟩:=ef b f (ys.filter λy=>!b x y) (bY b f (ys.filter λy=>b x y) (a++ys.map λy=>(x,y)));exact⟨(ys.map λy=>(x,y))++(t++c),by rw[<-List.append_assoc,<-List.append_assoc,<-e,<-d];rfl⟩
theorem v5(b:Nat->Nat->Bool)(f:Nat)(a:List (Nat×Nat)):bY b f [] a=a:=by induction f using Nat.casesOn<;>rfl
theorem yM{st:List aA}{r h:Nat}{hs:List PyData}{ps:List (Str×PyData)}{tail:List aA}(a:r<st.length)(b:h<st.length):df (st++tail) r h hs ps=df st r h hs ps++tail:=by unfold df;exact aB (iF _ _ b) (aB (iF _ _ (by simpa using a)) rfl)
theorem GD(x:PyData)(l:List PyData)(hl:l.length<=100):iq (.list (x::l)) (some 1) none=some (.list l):=by
 refine Eq.trans (if_pos (bb (by simp;lia))) ?_;unfold FQ;have:clipAt (x::l).length 1=1:=by have:=clipAt_nat (x::l).length 1;simp at this;simpa using this
 simp only[Option.elim,this,List.drop_succ_cons,List.drop_zero];exact aB (List.take_of_length_le (by simp)) rfl
theorem ye(st:List aA)(l:List Nat):dt st .NotEq (.d (.list (aJ l))) (.d (.list []))=some (!l.isEmpty,st):=by
 have c:d0 (.list (aJ l))=true:=by
  have:∀l:List Nat,PyData.canLayAll0 (aJ l)=true:=λl=>by
   induction l with
   |nil=>rfl
   |cons a r b=>simp[PyData.canLayAll0,PyData.canLay0,b]
  have d:∀l:List Nat,PyData.depthAll (aJ l)=0:=λl=>by
   induction l with
   |nil=>rfl
   |cons a r b=>simp[PyData.depthAll,PyData.depth,b]
  simp[d0,SeqAt.shaped,PyData.canLay0,PyData.depth,this,d]
 show(fz (.d (.list (aJ l))) st).bind (λr=>(fz (.d (.list [])) r.2).bind λq=>(fL r.1 q.1).bind λe=>some (!e,q.2))=_;simp only[ox,cv];unfold fL;refine aB c (aB ((by decide+kernel:d0 (.list [])=true)) ?_);induction l using List.casesOn<;>simp[PyData.eqv,PyData.eqvAll]
theorem A6(K:Ks)(W:Wd)(hT:eh W.T)(r h:Nat)(G:r≠h)(C:Nat)(hC:C<=700)(f:Nat):∀(l:List Nat)(st:List aA)(e:List (Nat×Nat))(hs:List PyData),r<st.length->h<st.length->
  l≠[]->l.length<=f->l.length<=6->(∀z∈l,z<6)->bA (bY K.lf f l e)->mq (C+2*e.length) hs->
  ∃i,mq (C+2*(bY K.lf f l e).length) i/\∀n,callf aH (n+110+20*f) 14 [.d (.list (aJ l)),.d (cB K),.cmp K.one K.two,.ref r,wd W h] (df st r h hs (dp W K.lf K.lk e))
   =some (.none,df st r h i (dp W K.lf K.lk (bY K.lf f l e))):=by
 induction f with
 |zero=>exact λl _ _ _ _ _ hl H _ _ _ _=>absurd (List.length_eq_zero_iff.mp (Nat.le_zero.mp H)) hl
 |succ f ih=>
  intro l st e hs I U hl H h6 u k F;induction l using List.casesOn with
  |nil=>exact absurd rfl hl
  |cons x ys=>
  clear hl;have aa:ys.length<=f:=by simpa using H
  have ab:ys.length<=5:=by simpa using h6
  rw[show bY K.lf (f+1) (x::ys) e=bY K.lf f (ys.filter λy=>!K.lf x y) (bY K.lf f (ys.filter λy=>K.lf x y) (e++ys.map λy=>(x,y))) from rfl]at k⊢;generalize p:ys.filter (λy=>K.lf x y)=lo at k⊢;generalize q:ys.filter (λy=>!K.lf x y)=hi at k⊢;have ac:lo.length<=ys.length:=by rw[<-p];exact List.length_filter_le ..
  have ae:hi.length<=ys.length:=by rw[<-q];exact List.length_filter_le ..
  have J:∀z∈lo,z<6:=λz j=>u z (List.mem_cons_of_mem _ (by rw[<-p]at j;exact(List.mem_filter.mp j).1));have L:∀z∈hi,z<6:=λz j=>u z (List.mem_cons_of_mem _ (by rw[<-q]at j;exact(List.mem_filter.mp j).1));refine(ef K.lf f hi (bY K.lf f lo (e++ys.map λy=>(x,y)))).elim λt2 e2=>?_;have s:bA (bY K.lf f lo (e++ys.map λy=>(x,y))):=by rw[e2]at k;exact k.pre
  refine(ef K.lf f lo (e++ys.map λy=>(x,y))).elim λt1 e1=>aG λM=>?_;have N:bA (e++ys.map λy=>(x,y)):=by rw[e1]at s;exact s.pre
  refine c8 (v6 K W hT st r h I U G x (u x (List.mem_cons_self ..)) ys C hC ys hs e [] [] .unb .unb .unb .unb (λz j=>u z (List.mem_cons_of_mem _ j)) N (by simp;lia) (by simp;lia) F) λt a b c h_=>?_;obtain⟨O,m⟩:=h_;simp only[List.nil_append,p,q]at m;have V:∀(hs:List PyData)(ps:List (Str×PyData))(P tb:PyData),df st r h hs ps++[.froz P,.froz tb]=df (st++[.froz P,.froz tb]) r h hs ps:=λhs ps P tb=>(yM I U).symm;have o:∀(l:List Nat)(e:List (Nat×Nat))(hs:List PyData),l.length<=f->l.length<=6->(∀z∈l,z<6)->bA (bY K.lf f l e)->mq (C+2*e.length) hs->
    ∃i,mq (C+2*(bY K.lf f l e).length) i/\∀n,exs aH (n+115+20*f) (kj K W st r h (x::ys) a b c (.d (.list (aJ l)))) ji (df st r h hs (dp W K.lf K.lk e)++[.froz (.list (aJ lo)),.froz (.list (aJ hi))])
     =some (.nx,kj K W st r h (x::ys) a b c (.d (.list (aJ l))),df st r h i (dp W K.lf K.lk (bY K.lf f l e))++[.froz (.list (aJ lo)),.froz (.list (aJ hi))]):=by
   intro l e hs hl Q u k F;have cr:aI (df st r h hs (dp W K.lf K.lk e)++[.froz (.list (aJ lo)),.froz (.list (aJ hi))]) r=some (dc (dp W K.lf K.lk e)):=kW I;have X:=λst=>ye st l;induction l using List.casesOn with
   |nil=>rw[v5];refine⟨hs,F,λn=>?_⟩;exact aB (show n+115+20*f=(n+20*f)+115 by lia) (go (zs 1 ([])) λg=>g _ _ (X _) rfl)
   |cons z r'=>refine(ih (z::r') (st++[.froz (.list (aJ lo)),.froz (.list (aJ hi))]) e hs (by simp;lia) (by simp;lia) (by simp) hl Q u k F).elim λi H'=>⟨i,H'.1,λn=>?_⟩;have ch:=H'.2 n;simp only[<-V,<-V,show n+110+20*f=(n+20*f)+110 by lia]at ch;exact aB (show n+115+20*f=(n+20*f)+115 by lia) (go (zs 1 (1::zs 1 ([]))) λg=>g _ _ (X _) _ _ (bv cr) _ _ ch rfl)
  obtain⟨R,S,w⟩:=o lo _ t (by lia) (by lia) J s O;obtain⟨D,T,E⟩:=o hi _ R (by lia) (by lia) L k S;refine M ⟨D,T,λn=>?_⟩;refine aB (show n+110+20*(f+1)=(n+20*f)+130 by lia) (aB mA ?_);have r1:=m (n+20*f+26);have Y:=w (n+10);have Z:=E (n+10);rw[show n+10+115+20*f=(n+20*f)+125 by lia]at Y Z;have f2:cf aH ((n+20*f)+125) (.v 10) ji [.list (aJ lo),.list (aJ hi)] (kj K W st r h (x::ys) a b c .unb) (df st r h t (dp W K.lf K.lk (e++ys.map λy=>(x,y)))++[.froz (.list (aJ lo)),.froz (.list (aJ hi))])=some (.nx,kj K W st r h (x::ys) a b c (.d (.list (aJ hi))),df st r h D (dp W K.lf K.lk (bY K.lf f hi (bY K.lf f lo (e++ys.map λy=>(x,y)))))++[.froz (.list (aJ lo)),.froz (.list (aJ hi))]):=by refine aB (eQ ..) ?_;show(exs aH _ _ ji _).bind _=_;refine aB Y ?_;show cf aH _ _ _ _ _ _=_;refine aB (eQ ..) ?_;show(exs aH _ _ ji _).bind _=_;refine aB Z ?_;rfl
  have ft:=Eu (st:=df st r h t (dp W K.lf K.lk (e++ys.map λy=>(x,y)))) (A:=aJ lo) (B:=aJ hi);rw[d9]at ft;have p1:exs aH ((n+20*f)+128+1) [.d (.list (aJ (x::ys))),.d (cB K),.cmp K.one K.two,.ref r,wd W h,.unb,.unb,.unb,.unb,.unb,.unb] em (df st r h hs (dp W K.lf K.lk e))=exs aH ((n+20*f)+128) (kj K W st r h (x::ys) .unb .unb .unb .unb) (em.drop 1) (DR K W st r h hs e [] []):=by exact wp 1 [] λg=>g (by simp[kj,DR,em])
  exact(congrArg (Option.bind · (fin _)) p1).trans (dR (zs 6 ([])) λg=>g _ (GD (.int x) (aJ ys) (by simp;lia)) _ _ _ r1 _ _ (aP bq) _ _ (aP br) _ _ ft _ _ _ f2 (congrArg (λl=>some (PyData.none,l)) (List.take_left' (by rw[d9,d9]))))
theorem sN{c:Type}(T:List FD)(n:Nat)(t:dJ)(a:Option X)(e:X)(env:List V)(st:List aA)(g:c->PyData)(p:c->Bool)(f:c->PyData):∀(ys:List c)(acc:List PyData),acc.length+ys.length<=100->
  (∀y∈ys,∃env',cd t (.d (g y)) env=some env'/\jw T n a env' st=some (p y,st)/\(p y=true->ev T n env' e st=some (.d (f y),st)))->
  iW T n t a e env (ys.map g) st acc=some (acc++(ys.filter p).map f,st):=by
 intro i;induction i with
 |nil=>exact λacc _ _=>by simp
 |cons y ys b=>
  intro acc hl h;refine aG λj=>?_;obtain⟨env',m,o,q⟩:=h y (List.mem_cons_self ..);refine j ?_;simp at hl;refine aB (List.map_cons) (Eq.trans (qv _ _ _ _ _ _ (by lia)) ?_);simp only[m,cv,o,cv];cases k:p y with
  |true=>simp only[k,C2,q k,cv,ox,List.filter_cons_of_pos];refine Eq.trans (b (acc++[f y]) (by simp;lia) (λz l=>h z (List.mem_cons_of_mem _ l))) ?_;simp
  |false=>rw[C1];exact Eq.trans (b acc (by lia) (λz l=>h z (List.mem_cons_of_mem _ l))) (aB (List.filter_cons_of_neg (by simp[k])) rfl)
theorem bW{a:Type}(T:List FD)(n:Nat)(t:dJ)(e:X)(env:List V)(st:List aA)(g f:a->PyData)(ys:List a)(hl:ys.length<=100)(h:∀y∈ys,∃env',cd t (.d (g y)) env=some env'/\ev T n env' e st=some (.d (f y),st)):
  iW T n t none e env (ys.map g) st []=some (ys.map f,st):=by
 have:=sN T n t none e env st g (λ_=>true) f ys [] (by simpa using hl) (λy b=>let⟨env',c,i⟩:=h y b;⟨env',c,rfl,λ_=>i⟩);rw[show ys.filter (λ_=>true)=ys from List.filter_eq_self.mpr (λ_ _=>rfl)]at this;simpa using this
theorem gC(T:List FD)(n:Nat)(a:X)(env:List V)(b:V)(st:List aA)(p:Nat->Bool)(ys:List Nat)(hl:ys.length<=100)(h:∀y∈ys,jw T (n+1) (some a) (.d (.int y)::env) st=some (p y,st)):
  iW T (n+1) (.v 0) (some a) (.v 0) (b::env) (aJ ys) st []=some (aJ (ys.filter p),st):=by
 have:=sN T (n+1) (.v 0) (some a) (.v 0) (b::env) st (λi:Nat=>PyData.int i) p (λi:Nat=>PyData.int i) ys [] (by simpa using hl) (λy c=>⟨.d (.int y)::env,rfl,h y c,λ_=>rfl⟩);simpa[aJ]using this
theorem zx(l:List Nat):d0 (.list (aJ l))=true:=by
 have h:∀l:List Nat,PyData.canLayAll0 (aJ l)=true:=λl=>by
  induction l with
  |nil=>rfl
  |cons a r b=>simp[PyData.canLayAll0,PyData.canLay0,b]
 have d:∀l:List Nat,PyData.depthAll (aJ l)=0:=λl=>by
  induction l with
  |nil=>rfl
  |cons a r b=>simp[PyData.depthAll,PyData.depth,b]
 simp[d0,SeqAt.shaped,PyData.canLay0,PyData.depth,h,d]
@[simp] theorem B8(i:Int):d0 (.int i)=true:=by simp[d0,SeqAt.shaped,PyData.canLay0,PyData.depth]
theorem wB(l:List Nat)(y:Nat):((aJ l).any λz=>PyData.eqv z (.int y))=decide (y∈l):=by
 induction l with
 |nil=>rfl
 |cons a r b=>rw[eW,List.any_cons,b,Bool.eq_iff_iff];simp[PyData.eqv];exact⟨λh=>h.elim (λe=>.inl (by lia)) .inr,λh=>h.elim (λe=>.inl (by lia)) .inr⟩
theorem Ai(st:List aA)(l:List Nat)(y:Nat):dt st .In (.d (.int y)) (.d (.list (aJ l)))=some (decide (y∈l),st):=by simp only[wQ,B8,zx,wB];rfl
theorem lQ(st:List aA)(xs:List PyData)(h:xs.length<=1000):fJ .len (.d (.list xs)) st=some (.d (.int xs.length),st):=by exact(if_pos (bb h))
theorem ql{c:Type}(f:c->Int):∀l:List c,eq (l.map λy=>.int (f y))=some (l.map f):=by
 intro a;induction a with
 |nil=>exact rfl
 |cons y l b=>exact by rw[List.map_cons,eq,b];rfl
theorem q9{a:Type}(st:List aA)(f:a->Int)(l:List a):fJ .sum (.d (.list (l.map λy=>.int (f y)))) st=some (.d (.int (l.map f).sum),st):=by show(eq (l.map λy=>.int (f y))).bind _=_;rw[ql];rfl
structure mQ(row:List Nat)(pos:Nat->Nat):Prop where
 len:row.length<=100
 at':∀i:Nat,i<6->(row.map λn:Nat=>(n:Int)).findIdx? (λy=>y==(i:Int))=some (pos i)
theorem ee{a:List Nat}{pos:Nat->Nat}(b:mQ a pos)(st:List aA)(i:Nat)(c:i<6):d7 st .index (.d (.list (aJ a))) [.d (.int i)]=some (.d (.int (pos i)),st):=by show(if(aJ a).length<=sizeLine then(eq (aJ a)).bind λis=>(is.findIdx? λy=>y==(i:Int)).bind λi:Nat=>some (V.d (.int (i:Int)),st)else none)=_;refine Eq.trans (if_pos (bb (by have:=b.len;simp;lia))) (aB (show eq (aJ a)=some _ from ql (λn:Nat=>(n:Int)) a) ?_);rw[cv];refine aB (b.at' i c) ?_;rfl
@[simp] theorem DO(st:List aA)(l:List PyData):oX st .index (.d (.list l))=true:=rfl
theorem zL(st:List aA)(a b c d:Int):dt st .Eq (.d (.tuple [.int a,.int b])) (.d (.tuple [.int c,.int d]))=some ((a==c)&&(b==d),st):=by
 show(fz (.d (.tuple [.int a,.int b])) st).bind (λr=>(fz (.d (.tuple [.int c,.int d])) r.2).bind λq=>(fL r.1 q.1).bind λe=>some (e,q.2))=_;simp only[ox,cv];have f:∀a b,d0 (.tuple [.int a,.int b])=true:=λa b=>by simp[d0,SeqAt.shaped,PyData.canLay0,PyData.canLayAll0,PyData.depth,PyData.depthAll]
 unfold fL;simp only[f,f];simp[PyData.eqv,PyData.eqvAll]
theorem Ks.eq0(K:Ks)(x y:Nat):((K.p y==K.p x)&&(K.q y==K.q x))=K.lk x y:=by
 have:=K.h1;have:=K.h2;unfold Ks.lk Ks.c uY;rw[Bool.eq_iff_iff];simp;constructor
 ·rintro⟨a,b⟩;simp[a,b]
 ·repeat' split
  all_goals lia
theorem zy(n:Nat)(W:Wd)(c:Nat->Bool)(st:List aA):∀(ys a:List Nat),((a++ys).map W.T).Nodup->a.length+ys.length<=100->
  u1 aH (n+5) (.tup [0,1,2]) (.v 0) (.ite (.v 3) (.tup [(.v 1),(.v 2)]) (.v 1)) [.unb,.unb,.unb,.d (.bool W.both)] (ys.map λy=>.tuple [.str (W.T y),.int (if c y then W.w0 else W.w1),.int (W.cost y)]) st
   (aO (eC W.T W.both (λy=>if c y then W.w0 else W.w1) W.cost a)) (bH (eC W.T W.both (λy=>if c y then W.w0 else W.w1) W.cost a))
   =some (aO (eC W.T W.both (λy=>if c y then W.w0 else W.w1) W.cost (a++ys)),bH (eC W.T W.both (λy=>if c y then W.w0 else W.w1) W.cost (a++ys)),st):=by
 intro e;induction e with
 |nil=>exact λa _ _=>by simp
 |cons y ys f=>
  intro a g hl;have b:W.T y∉aO (eC W.T W.both (λy=>if c y then W.w0 else W.w1) W.cost a):=by intro b;rw[rV]at b;simp only[List.map_append,List.map_cons,List.nodup_append]at g;exact g.2.2 _ b _ (by simp) rfl
  have h:=f (a++[y]) (by simpa using g) (by simp at hl⊢;lia);simp only[List.map_cons,lm];cases i:W.both<;>simp only[i]at h b
  ·change j6 _ _ aH (n+5) _ _ _ _ _ (.d (.str (W.T y))) (.int _,st)=_;refine aB (gx _ _ _ _ _ _ _ _ (by simp at hl⊢;lia)) (aB (eV b) ?_);refine aB (eP _ b) ?_;simpa using h
  ·change j6 _ _ aH (n+5) _ _ _ _ _ (.d (.str (W.T y))) (.tuple [.int _,.int _],st)=_;refine aB (gx _ _ _ _ _ _ _ _ (by simp at hl⊢;lia)) (aB (eV b) ?_);refine aB (eP _ b) ?_;simpa using h
noncomputable def dY(U:Nat->List Nat):PyData:=.list (L6 λx=>.list (aJ (U x)))
theorem dz(U:Nat->List Nat)(st:List aA)(y:Nat)(h:y<6):cW st (.d (dY U)) (.d (.int y))=some (.d (.list (aJ (U y)))):=by show(bV (L6 λi=>PyData.list (aJ (U i))) (y:Int)).map V.d=_;refine aB (kx _ y h) ?_;rfl
theorem Hm(env:List V):dM env Hs.caps=[.unb,iY env 1,iY env 10]:=rfl
theorem Hn(env:List V):dM env Ht.caps=[.unb,iY env 2,iY env 10]:=rfl
theorem Ho(env:List V):dM env Hu.caps=[.unb,iY env 5,iY env 11,iY env 4,iY env 6]:=rfl
theorem Hp(env:List V):dM env Hw.caps=[.unb,iY env 5]:=rfl
theorem Hq(env:List V):dM env Hy.caps=[.unb,.unb,.unb,iY env 7]:=rfl
structure FO(U:Nat->List Nat):Prop where
 nd:∀x,x<6->(U x).Nodup
 lt:∀x,x<6->∀y∈U x,y<6
theorem jM{l:List Nat}(b:l.Nodup)(hl:∀y∈l,y<6):l.length<=6:=by refine aG λa=>?_;have:=List.Nodup.length_le_of_subset b (l₂:=List.range 6) (λy c=>by simpa using hl y c);refine a ?_;simpa using this
theorem lh(p:Nat->Bool):∀l:List Nat,((l.filter p).length:Int)=rA p l:=by
 intro a;induction a with
 |nil=>exact rfl
 |cons y l b=>have c:=b;unfold rA at c⊢;cases h:p y<;>simp[h,<-c];lia
noncomputable def u9(K:Ks)(W:Wd)(st:List aA)(h:Nat)(U:Nat->List Nat)(a:List Nat)(b c e f:V):List V:=[.d (dY U),.d (.list (aJ a)),.d (cB K),wd W h,.d (bP W.T),.d (bs W.cost),.d (.tuple [.int W.w0,.int W.w1]),.d (.bool W.both),.ref h,.ref st.length,b,c,e,f]
theorem GZ(a b c d:Int)(x:PyData):lX [.d (.int a),.d (.int b),.d (.int c),.d (.int d),.d x]=.d (cZ a b c d x):=rfl
theorem CT(st:List aA)(T:Nat->Str)(w c:Nat->Int)(ys:List Nat)(f:∀y∈ys,PyData.strOk (T y)=true):
  dt st .NotEq (.d (.list (ys.map λy=>.tuple [.str (T y),.int (w y),.int (c y)]))) (.d (.list []))=some (!ys.isEmpty,st):=by
 have g:d0 (.list (ys.map λy=>.tuple [.str (T y),.int (w y),.int (c y)]))=true:=by
  have h:∀ys:List Nat,(∀y∈ys,PyData.strOk (T y)=true)->PyData.canLayAll0 (ys.map λy=>.tuple [.str (T y),.int (w y),.int (c y)])=true:=λl hl=>by
   induction l with
   |nil=>rfl
   |cons a r b=>simp[PyData.canLayAll0,PyData.canLay0,b (λy i=>hl y (List.mem_cons_of_mem _ i)),hl a (List.mem_cons_self ..)]
  have d:∀l:List Nat,PyData.depthAll (l.map λy=>.tuple [.str (T y),.int (w y),.int (c y)])<=1:=λl=>by
   induction l with
   |nil=>exact Nat.zero_le _
   |cons a r b=>simp[PyData.depthAll,PyData.depth];lia
  have:=d ys;simp[d0,SeqAt.shaped,PyData.canLay0,PyData.depth,h ys f];lia
 have j:d0 (.list [])=true:=by decide+kernel
 show(fz (.d _) st).bind (λr=>(fz (.d (.list [])) r.2).bind λq=>(fL r.1 q.1).bind λe=>some (!e,q.2))=_;simp only[ox,cv];unfold fL;refine aB g (aB j ?_);induction ys using List.casesOn<;>simp[PyData.eqv,PyData.eqvAll]
theorem w7(K:Ks)(W:Wd)(G:eh W.T)(H:∀i,i<6->PyData.strOk (W.T i)=true)(st:List aA)(h:Nat)(U:Nat->List Nat)(m:FO U)(j:List Nat)(pos:Nat->Nat)(D:mQ j pos)(hl:∀x y,x<6->y∈U x->decide (pos y<pos x)=K.lf x y)(x:Nat)(a:x<6)(A B C:V)(ps:List (Str×PyData))(I:ps.length<=50)(J:W.T x∉aO ps):
  ∃s u w,∀n,exs aH (n+50) (u9 K W st h U j (.d (.int x)) A B C) w4 (st++[dc ps])
   =some (.nx,u9 K W st h U j (.d (.int x)) s u w,st++[dc (ps++if(U x).isEmpty then[]else[(W.T x,bR W (K.lf x) (K.lk x) (U x))])]):=by
 have E:=jM (m.nd x a) (m.lt x a);refine vf (.d (.list (aJ ((U x).filter (K.lf x))))) (.d (.list (aJ ((U x).filter (K.lk x))))) (.d (.list ((U x).map λy=>.tuple [.str (W.T y),.int (if K.lf x y then W.w0 else W.w1),.int (W.cost y)]))) (λn=>?_);have left:∀n st,iW aH (n+20) (.v 0) (some (.cmp .Lt (.meth .index (.v 1) [(.v 0)]) (.meth .index (.v 1) [(.v 2)]))) (.v 0) [.unb,.d (.list (aJ j)),.d (.int x)] (aJ (U x)) st []=some (aJ ((U x).filter (K.lf x)),st):=λn st=>
  gC aH (n+19) _ _ _ st _ _ (by lia) λy f=>by
   have e:ev aH (n+20) [.d (.int y),.d (.list (aJ j)),.d (.int x)] (.cmp .Lt (.meth .index (.v 1) [(.v 0)]) (.meth .index (.v 1) [(.v 2)])) st=some (.d (.bool (decide ((pos y:Int)<pos x))),st):=by exact pm (1::1::[]) λg=>g _ _ (ee D _ _ (m.lt x a y f)) _ _ (ee D _ _ a) rfl
   exact Eq.trans (congrArg (Option.bind · _) e) (congrArg (λb=>some (b,st)) ((decide_eq_decide.mpr Int.ofNat_lt).trans (hl x y a f)))
 have o:∀n st,iW aH (n+20) (.v 0) (some (.cmp .Eq (.idx (.v 1) (.v 0)) (.idx (.v 1) (.v 2)))) (.v 0) [.unb,.d (cB K),.d (.int x)] (aJ (U x)) st []=some (aJ ((U x).filter (K.lk x)),st):=λn st=>
  gC aH (n+19) _ _ _ st _ _ (by lia) λy f=>by
   have e:ev aH (n+20) [.d (.int y),.d (cB K),.d (.int x)] (.cmp .Eq (.idx (.v 1) (.v 0)) (.idx (.v 1) (.v 2))) st=some (.d (.bool ((K.p y==K.p x)&&(K.q y==K.q x))),st):=by exact pm (zs 3 ([])) λg=>g _ (bt K _ _ (m.lt x a y f)) _ (bt K _ _ a) _ _ (zL st _ _ _ _) rfl
   exact Eq.trans (congrArg (Option.bind · _) e) (congrArg (λb=>some (b,st)) (K.eq0 x y))
 have l:∀n st,iW aH (n+20) (.v 0) none (.tup [(.idx (.v 3) (.v 0)),(.ite (.cmp .In (.v 0) (.v 2)) (.idx (.v 4) (.k (.int 0))) (.idx (.v 4) (.k (.int 1)))),(.idx (.v 1) (.v 0))]) [.unb,.d (bs W.cost),.d (.list (aJ ((U x).filter (K.lf x)))),.d (bP W.T),.d (.tuple [.int W.w0,.int W.w1])] (aJ (U x)) st []
   =some ((U x).map λy=>.tuple [.str (W.T y),.int (if K.lf x y then W.w0 else W.w1),.int (W.cost y)],st):=λn st=>
  bW aH (n+20) _ _ _ st _ _ _ (by lia) λy f=>⟨[.d (.int y),.d (bs W.cost),.d (.list (aJ ((U x).filter (K.lf x)))),.d (bP W.T),.d (.tuple [.int W.w0,.int W.w1])],rfl,by
   have q:=Ai st ((U x).filter (K.lf x)) y;have t:=dy W.T st y (m.lt x a y f);have c:=cM W.cost st y (m.lt x a y f);cases hc:K.lf x y with
   |true=>replace q:=q.trans (congrArg (λb=>some (b,st)) (decide_eq_true (List.mem_filter.mpr ⟨f,hc⟩)));exact pm (zs 2 (2::[])) λg=>g _ t _ _ q _ c rfl
   |false=>
    replace q:=q.trans (congrArg (λb=>some (b,st)) (decide_eq_false λh=>Bool.false_ne_true (hc▸(List.mem_filter.mp h).2)));exact pm (zs 2 (2::[])) λg=>g _ t _ _ q _ c rfl⟩
 have p:∀n st,iW aH (n+20) (.v 0) none (.idx (.v 1) (.v 0)) [.unb,.d (bs W.cost)] (aJ (U x)) st []=some ((U x).map λy=>.int (W.cost y),st):=λn st=>
  bW aH (n+20) _ _ _ st _ _ _ (by lia) λy f=>⟨[.d (.int y),.d (bs W.cost)],rfl,congrArg (Option.map λv=>(v,st)) (cM W.cost st y (m.lt x a y f))⟩
 have wW:∀n st,u1 aH (n+5) (.tup [0,1,2]) (.v 0) (.ite (.v 3) (.tup [(.v 1),(.v 2)]) (.v 1)) [.unb,.unb,.unb,.d (.bool W.both)] ((U x).map λy=>.tuple [.str (W.T y),.int (if K.lf x y then W.w0 else W.w1),.int (W.cost y)]) st [] []
   =some (aO (eC W.T W.both (λy=>if K.lf x y then W.w0 else W.w1) W.cost (U x)),bH (eC W.T W.both (λy=>if K.lf x y then W.w0 else W.w1) W.cost (U x)),st):=λn st=>
  zy n W (K.lf x) st (U x) [] (by simpa using cN G (m.nd x a) (m.lt x a)) (by simp;lia)
 have z:∀st,dt st .NotEq (.d (.list ((U x).map λy=>.tuple [.str (W.T y),.int (if K.lf x y then W.w0 else W.w1),.int (W.cost y)]))) (.d (.list []))=some (!(U x).isEmpty,st):=λst=>CT st W.T _ _ (U x) (λy f=>H y (m.lt x a y f));have L:=List.length_filter_le (K.lf x) (U x);have M:=List.length_filter_le (K.lk x) (U x);have CN:∀st,fJ .len (.d (.list (aJ ((U x).filter (K.lf x))))) st=some (.d (.int (rA (K.lf x) (U x))),st):=λst=>by rw[lQ _ _ (by simp;lia),<-lh];simp
 have x2:∀st,fJ .len (.d (.list (aJ ((U x).filter (K.lk x))))) st=some (.d (.int (rA (K.lk x) (U x))),st):=λst=>by rw[lQ _ _ (by simp;lia),<-lh];simp
 simp only[bR,<-j0];cases F:(U x).isEmpty with
 |true=>simp only[F]at z;refine aB (if_pos rfl) ?_;rw[List.append_nil];exact go (zs 7 ([])) λg=>g _ (dz _ _ _ a) _ _ (left _ _) _ (dz _ _ _ a) _ _ (o _ _) _ (dz _ _ _ a) _ _ (l _ _) _ _ (z _) rfl
 |false=>simp only[F]at z;exact go (zs 7 (1::zs 9 ([]))) λg=>g _ (dz _ _ _ a) _ _ (left _ _) _ (dz _ _ _ a) _ _ (o _ _) _ (dz _ _ _ a) _ _ (l _ _) _ _ (z _) _ _ (CN _) _ _ (((λst=>by rw[lQ _ _ (by simp;lia)];simp:∀st,fJ .len (.d (.list ((U x).map λy=>.tuple [.str (W.T y),.int (if K.lf x y then W.w0 else W.w1),.int (W.cost y)]))) st=some (.d (.int (U x).length),st))) _) _ _ (x2 _) _ (dz _ _ _ a) _ _ (p _ _) _ _ (q9 _ W.cost (U x)) _ _ _ (wW _ _) _ _ (bv (aR ..)) _ (dy _ _ _ a) _ ((λv=>(md (st:=st++[dc ps]) (r:=st.length) v (by simp) J (by lia)).trans (congrArg some (cz ..))) _) rfl
noncomputable def gU(U:Nat->List Nat)(xs:List Nat):List (Nat×List Nat):=(xs.filter λx=>!(U x).isEmpty).map λx=>(x,U x)
theorem w6(K:Ks)(W:Wd)(L:eh W.T)(M:∀i,i<6->PyData.strOk (W.T i)=true)(st:List aA)(h:Nat)(U:Nat->List Nat)(N:FO U)(k:List Nat)(pos:Nat->Nat)(O:mQ k pos)(hl:∀x y,x<6->y∈U x->decide (pos y<pos x)=K.lf x y):∀(xs:List Nat)(ps:List (Str×PyData))(l f g j:V),(∀x∈xs,x<6)->(aO ps++xs.map W.T).Nodup->ps.length+xs.length<=50->
  ∃p q r u,∀n,cf aH (n+50) (.v 10) w4 (aJ xs) (u9 K W st h U k l f g j) (st++[dc ps])
   =some (.nx,u9 K W st h U k p q r u,st++[dc (ps++eu W K.lf K.lk (gU U xs))]):=by
 intro B;induction B with
 |nil=>exact λps l f g j _ _ _=>⟨l,f,g,j,λn=>by simp[gU,eu]⟩
 |cons x xs C=>
  intro ps l f g j G H D;simp only[List.map_cons,List.nodup_append,List.nodup_cons]at H;refine aG λm=>eY H λI J E=>m ?_;simp only[List.length_cons]at D;have A:W.T x∉aO ps:=λA=>E _ A _ (List.mem_cons_self ..) rfl;refine aG λm=>cU (w7 K W L M st h U N k pos O hl x (G x (List.mem_cons_self ..)) f g j ps (by lia) A) λa b c w=>?_;obtain⟨P,Q,c',R,ch⟩:=C (ps++if(U x).isEmpty then[]else[(W.T x,bR W (K.lf x) (K.lk x) (U x))]) (.d (.int x)) a b c (λz S=>G z (List.mem_cons_of_mem _ S)) (by
    rw[List.nodup_append];refine⟨?_,J.2,?_⟩
    ·split
     ·simpa using I
     ·simp only[er,List.nodup_append];exact⟨I,by simp,λs hs t o e=>A (by simp at o;rw[<-o,<-e];exact hs)⟩
    ·intro s hs t o e;split at hs
     ·simp only[List.append_nil]at hs;exact E s hs t (List.mem_cons_of_mem _ o) e
     ·rw[er,List.mem_append]at hs;rcases hs with hs|hs
      ·exact E s hs t (List.mem_cons_of_mem _ o) e
      ·simp at hs;rw[hs]at e;exact J.1 (e▸o)) (by split<;>simp<;>lia)
  refine m (vg P Q c' R (λn=>?_));have F:cd (.v 10) (.d (.int x)) (u9 K W st h U k l f g j)=some (u9 K W st h U k (.d (.int x)) f g j):=rfl;simp only[eW,eQ,F,cv,w,cv,t9,ch];cases T:(U x).isEmpty<;>simp[gU,T,eu]
theorem Ce(K:Ks)(W:Wd)(j:eh W.T)(k:∀i,i<6->PyData.strOk (W.T i)=true)(st:List aA)(h:Nat)(hs:List PyData)(p:aI st h=some (.list hs))(U:Nat->List Nat)(l:FO U)(e:List Nat)(pos:Nat->Nat)(m:mQ e pos)(hl:∀x y,x<6->y∈U x->decide (pos y<pos x)=K.lf x y)(n:Nat):
  callf aH (n+60) 18 [.d (dY U),.d (.list (aJ e)),.d (cB K),wd W h] st=some (bg (eu W K.lf K.lk (gU U [0,1,2,3,4,5])),st):=by
 refine aG λf=>?_;obtain⟨a,b,c,d,ch⟩:=w6 K W j k st h U l e pos m hl [0,1,2,3,4,5] [] .unb .unb .unb .unb (by decide) (by
  simpa using cN j (ys:=[0,1,2,3,4,5]) (by decide) (by decide)) (by simp)
 have o:=ch (n+5);refine f (Eq.trans nX ?_);exact dR (2::zs 1 ([])) λg=>g _ _ _ o _ _ (bv (aR _ _ _)) Cp
noncomputable def tx(l:List Nat):Str:=⟨l.toArray⟩
@[simp] theorem dA(l:List Nat):(tx l).length=l.length:=by simp[tx,Str.length]
theorem jS(a b:List Nat):tx a++tx b=tx (a++b):=Str.ext' (by show(tx a).cps++(tx b).cps=_;simp[tx])
@[simp] theorem gG(a:List Nat):(tx a).cps.toList=a:=by simp[tx]
theorem y8{a b:List Nat}(h:tx a=tx b):a=b:=by have:=congrArg (λs:Str=>s.cps.toList) h;simpa using this
theorem gp(a b:List Nat):(tx a==tx b)=(a==b):=by rw[Bool.eq_iff_iff];simp;exact⟨y8,λh=>by rw[h]⟩
noncomputable def jW(x y:List Nat)(i:Nat):Prop:=(x.drop i).take y.length=y
theorem mi(x y:List Nat)(i:Nat):subAt (tx x) (tx y) i=true↔jW x y i:=by rw[StrLaws.subAt_eq];simp[jW]
theorem mS(x y:List Nat)(a i:Nat):StrLaws.At (tx x) (tx y) a i↔i+y.length<=a/\jW x y i:=by unfold StrLaws.At;rw[mi];trivial
theorem ja(a y b:List Nat):jW (a++y++b) y a.length:=by simp[jW]
theorem jW.get{x y:List Nat}{i:Nat}(h:jW x y i){m c:Nat}(b:y[m]?=some c):x[i+m]?=some c:=by
 have a:m<y.length:=(List.getElem?_eq_some_iff.mp b).1;have:((x.drop i).take y.length)[m]?=some c:=by rw[h];exact b
 rw[List.getElem?_take_of_lt a,List.getElem?_drop]at this;exact this
noncomputable def BR(c k:Nat)(x:List Nat):Prop:=∀j,x[j]?=some c->j=k
theorem rp{c:Nat}{u v:List Nat}(b:c∉u)(d:c∉v):BR c u.length (u++c::v):=by
 intro j a;rcases Nat.lt_trichotomy j u.length with h|h|h
 ·rw[List.getElem?_append_left h]at a;exact absurd (List.mem_of_getElem? a) b
 ·exact h
 ·rw[List.getElem?_append_right (by lia)]at a;obtain⟨m,e⟩:∃m,j -u.length=m+1:=⟨j -u.length -1,by lia⟩;simp only[e,List.getElem?_cons_succ]at a;exact absurd (List.mem_of_getElem? a) d
theorem jW.uniq{x y:List Nat}{i c k m:Nat}(h:jW x y i)(a:BR c k x)(b:y[m]?=some c):i+m=k:=a _ (h.get b)
theorem gy(x y:List Nat)(c d:Nat):(occurrences (tx x) (tx y) c d 1=[]/\∀i,c<=i->¬(i+y.length<=d/\jW x y i))\/
  ∃i r,occurrences (tx x) (tx y) c d 1=i::r/\c<=i/\(i+y.length<=d/\jW x y i)/\∀k,c<=k->k<i->¬(k+y.length<=d/\jW x y k):=by
 rw[StrLaws.occ_eq];rcases StrLaws.occ_first (tx x) (tx y) d 1 (Nat.le_refl _) (List.range' c (d+1 -c)) c (λi g=>by rw[List.mem_range'_1]at g;lia)with⟨h0,hn⟩|⟨pre,a,post,e,h0,ha,hn⟩
 ·refine .inl ⟨by rw[h0],λi g hc=>?_⟩;exact hn i (by have:=hc.1;rw[List.mem_range'_1];lia) ((mS ..).mpr hc)
 ·have hl:=StrLaws.range'_split_from e;refine .inr ⟨a,((forIn (List.range' c (d+1 -c)) ((#[]:Array Nat),c) (StrLaws.occBody (tx x) (tx y) d 1)).run.fst.toList).tail,?_,hl.1,(mS ..).mp ha,λk f j hc=>hn k (hl.2 k f j) ((mS ..).mpr hc)⟩;generalize(forIn (List.range' c (d+1 -c)) ((#[]:Array Nat),c) (StrLaws.occBody (tx x) (tx y) d 1)).run.fst=arr at h0;have f:arr.toList[0]?=some a:=by simpa using h0
  cases h:arr.toList with
  |nil=>rw[h]at f;cases f
  |cons b t=>rw[h]at f;simp at f;rw[f];rfl
noncomputable def jn(x y:List Nat)(a b:Nat):Option Nat:=(occurrences (tx x) (tx y) a b 1).head?
theorem lK{x y:List Nat}{b c i:Nat}(d:b<=i)(f:i+y.length<=c)(g:jW x y i)(l:∀k,b<=k->k<i->¬jW x y k):jn x y b c=some i:=by
 unfold jn;refine aG λa=>?_;rcases gy x y b c with⟨_,h⟩|⟨j,r,e,m,n,o⟩
 ·exact a (absurd ⟨f,g⟩ (h i d))
 ·refine a (aB e ?_);rcases Nat.lt_trichotomy i j with h|h|h
  ·exact absurd ⟨f,g⟩ (o i d h)
  ·refine aB h ?_;rfl
  ·exact absurd n.2 (l j m h)
theorem ow{x y:List Nat}{b c:Nat}(f:∀k,b<=k->k+y.length<=c->¬jW x y k):jn x y b c=none:=by
 unfold jn;refine aG λa=>?_;rcases gy x y b c with⟨h,_⟩|⟨j,r,e,g,d,i⟩
 ·refine a (aB h ?_);rfl
 ·exact a (absurd d.2 (f j g d.1))
theorem t8(x:List Nat){a b:Nat}(h:a<=b):jn x [] a b=some a:=lK (Nat.le_refl _) (by simpa using h) (by simp[jW]) (λk c d=>by lia)
theorem xo{x y:List Nat}{b c i:Nat}(h:jn x y b c=some i):b<=i/\i+y.length<=c:=by
 unfold jn at h;refine aG λa=>?_;rcases gy x y b c with⟨e,_⟩|⟨j,r,e,d,f,_⟩
 ·refine a ?_;replace h:=e▸h;exact aN h
 ·refine a ?_;replace h:=e▸h;cases h;exact⟨d,f.1⟩
theorem xj(x y:List Nat)(b a:Nat)(d:b<=a)(e:a<=x.length)(c:x.length<=1000):ig (tx x) (tx y) b a=some (match jn x y b a with|some i=>(i:Int)|none=>-1):=by refine Eq.trans (if_pos ⟨by lia,by lia,by simp;lia,bb (by simpa using c)⟩) ?_;unfold jn;refine aB (show((b:Int).toNat)=b by lia) (aB (show((a:Int).toNat)=a by lia) ?_);cases occurrences (tx x) (tx y) b a 1<;>rfl
theorem wa(x y:List Nat):Txt.startswith (tx x) (tx y)=y.isPrefixOf x:=by
 unfold Txt.startswith;rw[Bool.eq_iff_iff];simp[mi,jW];constructor
 ·rintro⟨_,h⟩;exact⟨x.drop y.length,by conv=>rhs;rw[<-List.take_append_drop y.length x,h]⟩
 ·rintro⟨t,rfl⟩;simp
theorem zJ(x y:List Nat):Txt.endswith (tx x) (tx y)=y.isSuffixOf x:=by
 unfold Txt.endswith;rw[Bool.eq_iff_iff];simp[mi,jW];constructor
 ·rintro⟨a,h⟩;rw[List.take_of_length_le (by simp;lia)]at h;exact⟨x.take (x.length -y.length),by conv=>rhs;rw[<-List.take_append_drop (x.length -y.length) x,h]⟩
 ·rintro⟨t,rfl⟩;simp
theorem jg(x:List Nat){a b:Nat}(c:a<=b)(d:b<=x.length):Txt.slice (tx x) (some (a:Int)) (some (b:Int))=tx ((x.drop a).take (b -a)):=by have:=StrLaws.sliceText_nat (tx x) c (by simpa using d);rw[gG]at this;exact this
theorem qg(x y:List Nat):hS (tx x) (tx y)=(jn x y 0 x.length).isSome:=by unfold hS jn;rw[dA];cases occurrences (tx x) (tx y) 0 x.length 1<;>rfl
end Mine
end
noncomputable section
open PySem PySem.Calls PySem.Spec PySem.W PyProof.Rows Builtin.Str
set_option backward.match.sparseCases false
namespace Mine
@[simp] theorem E3(st:List aA)(x:Str):oX st .find (.d (.str x))=true:=rfl
@[simp] theorem DP(st:List aA)(x:Str):oX st .rfind (.d (.str x))=true:=rfl
@[simp] theorem CY(st:List aA)(x:Str):oX st .startswith (.d (.str x))=true:=rfl
@[simp] theorem E2(st:List aA)(x:Str):oX st .endswith (.d (.str x))=true:=rfl
@[simp] theorem E4(st:List aA)(x:Str):oX st .join (.d (.str x))=true:=rfl
@[simp] theorem CX(st:List aA)(x:Str):oX st .index (.d (.str x))=true:=rfl
noncomputable def dots:List Nat:=[46,46,46]
theorem dG:Str.ofString "..."=tx dots:=by decide+kernel
noncomputable def cV:List (List Nat)->List Nat
 |[]=>[]
 |[p]=>p
 |p::q::r=>p++(dots++cV (q::r))
theorem dd(p q:List Nat)(r:List (List Nat)):cV (p::q::r)=p++(dots++cV (q::r)):=rfl
theorem ij(p:List Nat):cV [p]=p:=rfl
theorem oU{x:List Nat}{k:Nat}(h:jW x dots k):x[k]?=some 46:=h.get (m:=0) rfl
theorem uE(pre p a:List Nat):strSub (tx (pre++(p++a))) pre.length (pre.length+p.length)=tx p:=by apply Str.ext';apply Array.ext';rw[StrLaws.strSub_toList];simp[tx]
theorem s6(x:List Nat):∀(ps:List (List Nat))(pre:List Nat)(a:List Nat)(f:Nat),ps≠[]->(∀p∈ps,46∉p)->x=pre++cV ps->
  StrLaws.ChainG (tx x) (tx dots) (tx x).length pre.length a f->(∀k,f<=k->¬StrLaws.At (tx x) (tx dots) (tx x).length k)->StrLaws.partsFrom (tx x) 3 pre.length a=ps.map tx:=by
 intro ps;induction ps with
 |nil=>exact λ_ _ _ h _ _ _ _=>absurd rfl h
 |cons p ps g=>
  intro pre a f _ i j hc o;induction ps using List.casesOn with
  |nil=>
   have l:∀k,pre.length<=k->¬StrLaws.At (tx x) (tx dots) (tx x).length k:=by intro k v m;have:=oU ((mS ..).mp m).2;rw[j,show cV [p]=p from rfl,List.getElem?_append_right v]at this;exact i p (List.mem_cons_self ..) (List.mem_of_getElem? this)
   induction a using List.casesOn with
   |nil=>have:=uE pre p [];rw[List.append_nil]at this;show[strSub (tx x) pre.length (tx x).length]=[tx p];simp only[j,show cV [p]=p from rfl,dA,List.length_append,this]
   |cons c r=>exact absurd hc.2.1 (l c hc.1)
  |cons q r=>
   have b:x=pre++(p++(dots++cV (q::r))):=j;have d:StrLaws.At (tx x) (tx dots) (tx x).length (pre.length+p.length):=by rw[mS];refine⟨by rw[dA,b];simp;lia,?_⟩;have:=ja (pre++p) dots (cV (q::r));refine aB b ?_;simpa using this
   have l:∀k,pre.length<=k->k<pre.length+p.length->¬StrLaws.At (tx x) (tx dots) (tx x).length k:=by intro k n s m;have:=oU ((mS ..).mp m).2;rw[b,List.getElem?_append_right n,List.getElem?_append_left (by lia)]at this;exact i p (List.mem_cons_self ..) (List.mem_of_getElem? this)
   induction a using List.casesOn with
   |nil=>have e:f=pre.length:=hc;exact absurd d (o _ (by lia))
   |cons c t=>
    refine ko hc λn s w y=>?_;have A:c=pre.length+p.length:=by
     rcases Nat.lt_trichotomy c (pre.length+p.length)with h|h|h
     ·exact absurd s (l c n h)
     ·exact h
     ·exact((w _ (by lia) h) d).elim
    subst A;show strSub (tx x) pre.length (pre.length+p.length)::StrLaws.partsFrom (tx x) 3 (pre.length+p.length+3) t=tx p::(q::r).map tx;have u:=g (pre++(p++dots)) t f (by simp) (λz B=>i z (List.mem_cons_of_mem _ B)) (by rw[b];simp) (by
     have:(pre++(p++dots)).length=pre.length+p.length+(tx dots).length:=by simp;lia
     rw[this];exact y) o
    rw[show(pre++(p++dots)).length=pre.length+p.length+3 by simp[dots];lia]at u;refine aB u (aB b ?_);rw[uE]
theorem q8(x:Str):1<=Builtin.Str.strKind x:=by
 unfold Builtin.Str.strKind;split
 ·lia
 ·split<;>lia
theorem vu(p q:List Nat)(r:List (List Nat)):3<=(cV (p::q::r)).length:=by rw[dd];simp[dots];lia
theorem tq(p q:List Nat)(r:List (List Nat))(b:∀z∈p::q::r,46∉z):Txt.split (tx (cV (p::q::r))) (tx dots)=(p::q::r).map tx:=by
 refine aK (StrLaws.occ_tight (tx (cV (p::q::r))) (tx dots) (by simp[dots])) λf c=>cx c λhc d=>?_;have key:=s6 (cV (p::q::r)) (p::q::r) [] _ f (by simp) b rfl hc d;have g:=vu p q r;unfold Txt.split;rw[if_neg,if_neg,StrLaws.partsBetween_eq]
 ·exact aB (dA dots) key
 ·intro a;rw[List.isEmpty_iff]at a;rw[a]at key;simp[StrLaws.partsFrom]at key
 ·have e:Builtin.Str.strKind (tx dots)=1:=by decide+kernel
  have:=q8 (tx (cV (p::q::r)));simp[e];constructor
  ·simp[dots];omega
  ·lia
theorem yp(p q:List Nat)(r:List (List Nat)):jW (cV (p::q::r)) dots p.length:=by have:=ja p dots (cV (q::r));rw[dd];simpa using this
theorem sv{x y:List Nat}{a b i:Nat}(c:a<=i)(d:i+y.length<=b)(f:jW x y i):(jn x y a b).isSome=true:=by
 unfold jn;rcases gy x y a b with⟨_,h⟩|⟨j,r,e,_⟩
 ·exact absurd ⟨d,f⟩ (h i c)
 ·refine aB e ?_;rfl
theorem qh(p q:List Nat)(r:List (List Nat)):hS (tx (cV (p::q::r))) (tx dots)=true:=by rw[qg];refine sv (Nat.zero_le _) ?_ (yp p q r);rw[dd];simp
theorem Ad{p:List Nat}(h:46∉p):hS (tx p) (tx dots)=false:=by
 rw[qg,ow]
 ·rfl
 ·intro k _ _ a;exact h (List.mem_of_getElem? (oU a))
noncomputable def od(bc:List Nat)(ep:Nat):List (List Nat)->Nat->Bool
 |[],_=>true
 |w::r,s=>match jn bc w s ep with
  |some i=>od bc ep r (i+w.length)
  |none=>false
theorem FT(bc:List Nat)(ep:Nat)(r:List (List Nat))(s:Nat)(h:s<=ep):od bc ep ([]::r) s=od bc ep r s:=by change(match jn bc [] s ep with|some i=>od bc ep r (i+([]:List Nat).length)|none=>false)=_;rw[t8 bc h];rfl
theorem tT(bc w:List Nat)(ep s:Nat)(r:List (List Nat)):od bc ep (w::r) s=match jn bc w s ep with
  |some i=>od bc ep r (i+w.length)
  |none=>false:=rfl
noncomputable def wo(h:List Nat)(mid:List (List Nat))(l bc:List Nat):Bool:=
 (h.isEmpty||h.isPrefixOf bc)&&(l.isEmpty||l.isSuffixOf bc)&&decide (h.length+l.length<=bc.length)&&od bc (bc.length -l.length) ((if h.isEmpty then[[]]else[])++mid++(if l.isEmpty then[[]]else[])) h.length
noncomputable def pl(ps:List (List Nat)):List PyData:=ps.map λp=>.str (tx p)
theorem vN(st:List aA)(x y:List Nat)(b a:Nat)(c:b<=a)(e:a<=x.length)(f:x.length<=1000):d7 st .find (.d (.str (tx x))) [.d (.str (tx y)),.d (.int b),.d (.int a)]=some (.d (.int (match jn x y b a with|some i=>(i:Int)|none=>-1)),st):=by show(ig (tx x) (tx y) b a).bind (λi=>some (V.d (.int i),st))=_;rw[xj x y b a c e f];rfl
theorem f6(st:List aA)(x:List Nat)(h:x.length<=1000):fJ .len (.d (.str (tx x))) st=some (.d (.int x.length),st):=by show(if(tx x).length<=sizeLine then some (V.d (.int (tx x).length),st)else none)=_;rw[dA,if_pos (bb h)]
theorem zH(n:Nat)(st:List aA)(k l:V)(bc:List Nat)(o:bc.length<=1000)(ep:Nat)(c:ep<=bc.length):∀(m:List (List Nat))(s:Nat)(e:V),s<=ep->
  ∃env',cf aH (n+20) (.v 5) Ek (pl m) [k,.d (.str (tx bc)),l,.d (.int s),.d (.int ep),e] st=some (if od bc ep m s then .nx else .ret (.d (.bool false)),env',st):=by
 intro f;induction f with
 |nil=>exact λs e _=>⟨_,rfl⟩
 |cons w r j=>
  intro s e hs;have b:=vN st bc w s ep hs c o;cases h:jn bc w s ep with
  |none=>refine aG λa=>?_;rw[h]at b;refine a ⟨[k,.d (.str (tx bc)),l,.d (.int (-1)),.d (.int ep),.d (.str (tx w))],?_⟩;rw[tT,h];exact oJ (1::[]) λg=>g _ _ b rfl
  |some i=>
   rw[h]at b;have p:=xo h;refine aG λa=>?_;obtain⟨env',q⟩:=j (i+w.length) (.d (.str (tx w))) p.2;refine a ⟨env',?_⟩;have t:¬((i:Int)<0):=by lia
   rw[tT,h];exact oJ (1::2::[]) λg=>g _ _ b _ _ (f6 st w (by lia)) q
theorem fy(st:List aA)(x y:List Nat):d7 st .startswith (.d (.str (tx x))) [.d (.str (tx y))]=some (.d (.bool (y.isPrefixOf x)),st):=by show some (V.d (.bool (Txt.startswith (tx x) (tx y))),st)=_;rw[wa]
theorem iK(st:List aA)(x y:List Nat):d7 st .endswith (.d (.str (tx x))) [.d (.str (tx y))]=some (.d (.bool (y.isSuffixOf x)),st):=by show some (V.d (.bool (Txt.endswith (tx x) (tx y))),st)=_;rw[zJ]
theorem rl(x:List Nat)(h:x.length<=1000):aZ (.d (.str (tx x)))=some (!x.isEmpty):=by show(if(tx x).length<=sizeLine then some (((tx x).length:Int)!=0)else none)=_;rw[dA];refine Eq.trans (if_pos (bb h)) ?_;induction x using List.casesOn<;>simp<;>lia
theorem Ey{st:List aA}{r:Nat}{x:PyData}{xs:List PyData}(h:aI st r=some (.list (x::xs))):cW st (.ref r) (.d (.int 0))=some (.d x):=by refine Eq.trans (dE h) ?_;rw[CJ];rfl
theorem vD{a:Type}(xs:List a)(x:a)(hl:xs.length<=1000):bV (xs++[x]) (-1)=some x:=by show(xs++[x])[(xs++[x]).length -1]?=_;simp
theorem CE{st:List aA}{r:Nat}{x:PyData}{xs:List PyData}(h:aI st r=some (.list (xs++[x])))(hl:xs.length<=1000):cW st (.ref r) (.d (.int (-1)))=some (.d x):=by refine aB (dE h) (aB (vD _ _ hl) ?_);rfl
theorem Ei{st:List aA}{s2:List aA}{r:Nat}{env:List V}{x:PyData}{xs:List PyData}(h:aI st r=some (.list (x::xs)))(hl:xs.length<=900):Cc env (.ref r,s2) (.d (.int 0),st)=some (.nx,env,aT st r (.list xs)):=by show(match aI st r with|some (.list xs)=>if-1<=(0:Int)/\(0:Int)<=0/\xs.length<=sizeLine then(seqIndex? 0 xs.length).bind λj=>some (Fl.nx,env,aT st r (.list (xs.eraseIdx j)))else none|_=>none)=_;refine aB h ?_;show(if-1<=(0:Int)/\(0:Int)<=0/\(x::xs).length<=sizeLine then(seqIndex? 0 (x::xs).length).bind λj=>some (Fl.nx,env,aT st r (.list ((x::xs).eraseIdx j)))else none)=_;refine aB (if_pos ⟨by lia,by lia,bb (by simp;lia)⟩) (aB (StrLaws.seqIndex_nonneg (by lia) (by simp only[List.length_cons];lia)) ?_);rfl
theorem Cb{st:List aA}{s2:List aA}{r:Nat}{env:List V}{x:PyData}{xs:List PyData}(h:aI st r=some (.list (xs++[x])))(hl:xs.length<=900):Cc env (.ref r,s2) (.d (.int (-1)),st)=some (.nx,env,aT st r (.list xs)):=by show(match aI st r with|some (.list xs)=>if-1<=(-1:Int)/\(-1:Int)<=0/\xs.length<=sizeLine then(seqIndex? (-1) xs.length).bind λj=>some (Fl.nx,env,aT st r (.list (xs.eraseIdx j)))else none|_=>none)=_;refine aB h ?_;show(if-1<=(-1:Int)/\(-1:Int)<=0/\(xs++[x]).length<=sizeLine then(seqIndex? (-1) (xs++[x]).length).bind λj=>some (Fl.nx,env,aT st r (.list ((xs++[x]).eraseIdx j)))else none)=_;refine aB (if_pos ⟨by lia,by lia,bb (by simp;lia)⟩) (aB (StrLaws.seqIndex_neg (by lia) (by simp;lia)) ?_);refine aB (show((-1:Int)+((xs++[x]).length:Nat)).toNat=xs.length by simp;lia) ?_;show some (Fl.nx,env,aT st r (.list ((xs++[x]).eraseIdx xs.length)))=_;rw[List.eraseIdx_append_of_length_le (Nat.le_refl _)];simp
theorem s9(a b:List (List Nat)):pl (a++b)=pl a++pl b:=List.map_append ..
theorem yJ(s2 st:List aA)(h:List Nat)(mid:List (List Nat))(l:List Nat)(b:∀z∈h::(mid++[l]),46∉z)(hl:(cV (h::(mid++[l]))).length<=1000)(c:mid.length<=100):
  Fu (.d (.str (tx (cV (h::(mid++[l]))))),s2) (.d (.str (tx dots)),st)=some (.ref st.length,st++[.list (pl (h::(mid++[l])))]):=by
 have e:∃q r,mid++[l]=q::r:=by induction mid using List.casesOn<;>exact⟨_,_,rfl⟩
 refine bd e λq r e=>?_;rw[e]at b hl⊢;have a:(h::q::r).length<=200:=by rw[<-e];simp;lia
 show(if((tx dots).length==0)=false/\(tx (cV (h::q::r))).length<=1000000/\(Txt.split (tx (cV (h::q::r))) (tx dots)).length<=sizeLine then some (V.ref st.length,st++[aA.list ((Txt.split (tx (cV (h::q::r))) (tx dots)).map .str)])else none)=_;refine aB (tq h q r b) (aB (if_pos ⟨by simp[dots],by simp;lia,bb (by simp at a⊢;lia)⟩) ?_);simp[pl];rfl
theorem jH{z:List Nat}:∀{ps:List (List Nat)},z∈ps->z.length<=(cV ps).length
 |[p],h=>by rw[List.mem_singleton.mp h];exact Nat.le_refl _
 |p::q::r,h=>by
  rw[dd];rcases List.mem_cons.mp h with rfl|h
  ·simp
  ·have:=jH h;simp;lia
theorem tU(n:Nat)(st:List aA)(e f:V)(bc:List Nat)(i:bc.length<=1000)(b:List (List Nat))(a l:Nat)(hl:l<=bc.length):
  (exs aH (n+30) [e,.d (.str (tx bc)),.ref st.length,.d (.int a),.d (.int ((bc.length:Int) -l)),f] lC (st++[aA.list (pl b)])).bind (fin st.length)=some (.bool (decide (a+l<=bc.length)&&od bc (bc.length -l) b a),st):=by
 refine aB (show((bc.length:Int) -l)=((bc.length -l:Nat):Int) by lia) ?_;unfold lC;by_cases h:a+l<=bc.length
 ·obtain⟨env',lp⟩:=zH (n+7) (st++[aA.froz (.list (pl b))]) e (.ref st.length) bc i (bc.length -l) (Nat.sub_le _ _) b a f (by lia);have c:¬((a:Int)>((bc.length -l:Nat):Int)):=by lia
  rw[decide_eq_true h];cases j:od bc (bc.length -l) b a<;>rw[j]at lp
  ·exact dR (1::zs 3 ([])) λg=>g _ (tb (decide_eq_false c)) _ _ (aP (aR _ _ _)) _ _ (jG _ _ _) _ _ _ lp lI
  ·exact dR (1::zs 3 ([])) λg=>g _ (tb (decide_eq_false c)) _ _ (aP (aR _ _ _)) _ _ (jG _ _ _) _ _ _ lp lI
 ·have c:(a:Int)>((bc.length -l:Nat):Int):=by lia
  rw[decide_eq_false h];exact dR (1::[]) λg=>g _ (tb (decide_eq_true c)) lI
theorem t0{T:List FD}{n:Nat}{env:List V}{st:List aA}{b i:X}{r q:V×List aA}{o:Fl×List V×List aA}(a:ev T n env b st=some r)(c:ev T n env i r.2=some q)(d:Cc env r q=some o):(ch T n).ex1 env (.del b i) st=some o:=by show(ev T n env b st).bind _=_;refine aB a ?_;show(ev T n env i r.2).bind _=_;exact aB c d
noncomputable def FS:List S:=bp.drop 4
noncomputable def DH:List S:=bp.drop 6
theorem w8(n:Nat)(st:List aA)(c r:V)(a:List (List Nat))(l bc:List Nat)(b:Nat)(hw:a.length<=200)(o:l.length<=1000)(p:bc.length<=1000):
  (exs aH (n+42) [c,.d (.str (tx bc)),.ref st.length,.d (.int b),.d (.int bc.length),r] DH (st++[aA.list (pl (a++[l]))])).bind (fin st.length)=some (.bool ((l.isEmpty||l.isSuffixOf bc)&&(decide (b+l.length<=bc.length)&&od bc (bc.length -l.length) (a++(if l.isEmpty then[[]]else[])) b)),st):=by
 have lp:(pl a).length<=200:=by simpa[pl]using hw
 have hc:aI (st++[aA.list (pl a++[PyData.str (tx l)])]) st.length=some (.list (pl a++[PyData.str (tx l)])):=aR ..;have h:=CE hc (by lia);have q:=λs2 env=>Cb (s2:=s2) (env:=env) hc (by lia);rw[cz]at q;have f:=rl l o;rw[s9];show(exs aH (n+42) _ DH (st++[aA.list (pl a++[PyData.str (tx l)])])).bind _=_;cases i:l.isEmpty with
 |true=>
  rw[i]at f;have e:l=[]:=by simpa using i
  refine(congrArg (Option.bind · (fin st.length)) (?_:exs aH (n+42) _ DH _=exs aH (n+40) [c,.d (.str (tx bc)),.ref st.length,.d (.int b),.d (.int bc.length),.d (.str (tx l))] lC (st++[aA.list (pl a++[PyData.str (tx l)])]))).trans ?_
  ·exact wp 2 (zs 3 ([])) λg=>g _ _ (aP hc) _ h _ f rfl
  ·have t:=tU (n+10) st c (.d (.str (tx l))) bc p (a++[[]]) b 0 (Nat.zero_le _);subst e;rw[s9]at t;exact t
 |false=>
  rw[i]at f;cases j:l.isSuffixOf bc with
  |true=>
   refine(congrArg (Option.bind · (fin st.length)) (?_:exs aH (n+42) _ DH _=exs aH (n+40) [c,.d (.str (tx bc)),.ref st.length,.d (.int b),.d (.int ((bc.length:Int) -l.length)),.d (.str (tx l))] lC (st++[aA.list (pl a)]))).trans ?_
   ·have k:=(iK (st++[aA.list (pl a++[PyData.str (tx l)])]) bc l).trans (by rw[j]);have s:=f6 (st++[aA.list (pl a++[PyData.str (tx l)])]) l o;exact wp 2 (zs 3 (1::1::zs 1 ([]))) λg=>g _ _ (aP hc) _ h _ f _ _ k _ _ s _ _ _ (t0 (aP hc) rfl (q _ _)) rfl
   ·have t:=tU (n+10) st c (.d (.str (tx l))) bc p a b l.length (((by simpa using j:l<:+bc).length_le:l.length<=bc.length));refine aB (if_neg Bool.false_ne_true) ?_;rw[List.append_nil];exact t
  |false=>refine aG λm=>?_;have k:=(iK (st++[aA.list (pl a++[PyData.str (tx l)])]) bc l).trans (by rw[j]);exact m (dR (zs 3 (1::[])) λg=>g _ _ (aP hc) _ h _ f _ _ k lI)
theorem xa(n:Nat)(st:List aA)(b p:V)(h:List Nat)(mid:List (List Nat))(l bc:List Nat)(q:mid.length<=100)(j:h.length<=1000)(k:l.length<=1000)(m:bc.length<=1000):
  (exs aH (n+44) [b,.d (.str (tx bc)),.ref st.length,.d (.int 0),.d (.int bc.length),p] FS (st++[aA.list (pl (h::(mid++[l])))])).bind (fin st.length)=some (.bool (wo h mid l bc),st):=by
 have hc:aI (st++[aA.list (pl (h::(mid++[l])))]) st.length=some (.list (PyData.str (tx h)::pl (mid++[l]))):=aR ..;have lp:(pl (mid++[l])).length<=200:=by simp[pl];lia
 have c:=Ey hc;have d0:=λs2 env=>Ei (s2:=s2) (env:=env) hc (by lia);rw[cz]at d0;have a:=rl h j;unfold wo;cases f:h.isEmpty with
 |true=>
  rw[f]at a;have e:h=[]:=by simpa using f
  refine(congrArg (Option.bind · (fin st.length)) (?_:exs aH (n+44) _ FS _=exs aH (n+42) [b,.d (.str (tx bc)),.ref st.length,.d (.int 0),.d (.int bc.length),.d (.str (tx h))] DH (st++[aA.list (pl (h::(mid++[l])))]))).trans ?_
  ·exact wp 2 (zs 3 ([])) λg=>g _ _ (aP hc) _ c _ a rfl
  ·have t:=w8 n st b (.d (.str (tx h))) (h::mid) l bc 0 (by simp;lia) k m;subst e;rw[Bool.and_assoc];exact t
 |false=>
  replace a:=f▸a;cases o:h.isPrefixOf bc with
  |true=>
   refine(congrArg (Option.bind · (fin st.length)) (?_:exs aH (n+44) _ FS _=exs aH (n+42) [b,.d (.str (tx bc)),.ref st.length,.d (.int h.length),.d (.int bc.length),.d (.str (tx h))] DH (st++[aA.list (pl (mid++[l]))]))).trans ?_
   ·have i:=(fy (st++[aA.list (pl (h::(mid++[l])))]) bc h).trans (by rw[o]);exact wp 2 (zs 3 (1::1::zs 1 ([]))) λg=>g _ _ (aP hc) _ c _ a _ _ i _ _ (f6 (st++[aA.list (pl (h::(mid++[l])))]) h j) _ _ _ (t0 (aP hc) rfl (d0 _ _)) rfl
   ·have t:=w8 n st b (.d (.str (tx h))) mid l bc h.length (by lia) k m;rw[Bool.and_assoc];exact t
  |false=>have i:=(fy (st++[aA.list (pl (h::(mid++[l])))]) bc h).trans (by rw[o]);exact dR (zs 3 (1::[])) λg=>g _ _ (aP hc) _ c _ a _ _ i lI
theorem El(n:Nat)(st:List aA)(h:List Nat)(mid:List (List Nat))(l bc:List Nat)(j:∀z∈h::(mid++[l]),46∉z)(hw:(cV (h::(mid++[l]))).length<=1000)(f:mid.length<=100)(i:bc.length<=1000):
  callf aH (n+60) 3 [.d (PyData.str (tx (cV (h::(mid++[l]))))),.d (PyData.str (tx bc))] st=some (.bool (wo h mid l bc),st):=by
 have k:h.length<=1000:=Nat.le_trans (jH (List.mem_cons_self ..)) hw;have a:hS (tx (cV (h::(mid++[l])))) (tx dots)=true:=by
  induction mid using List.casesOn with
  |nil=>exact qh h l []
  |cons q r=>exact qh h q (r++[l])
 have b:=λs2=>yJ s2 st h mid l j hw f;generalize tx (cV (h::(mid++[l])))=w at a b;have c:fJ .len (.ref st.length) (st++[aA.list (pl (h::(mid++[l])))])=some (.d (.int ((pl (h::(mid++[l]))).length:Nat)),st++[aA.list (pl (h::(mid++[l])))]):=by show(match aI (st++[aA.list (pl (h::(mid++[l])))]) st.length with|some (.list xs)=>if xs.length<=sizeLine then some (V.d (.int xs.length),(st++[aA.list (pl (h::(mid++[l])))]))else none|_=>none)=_;rw[aR];exact if_pos (bb (by simp[pl];lia))
 have e:decide ((pl (h::(mid++[l]))).length>=(2:Int))=true:=decide_eq_true (by simp[pl];lia);have hc:aI (st++[aA.list (pl (h::(mid++[l])))]) st.length=some (.list (pl (h::(mid++[l])))):=aR ..;refine Eq.trans d3 ((congrArg (Option.bind · (fin st.length)) (?_:exs aH (n+59) _ bp _=exs aH (n+55) [.d (.str w),.d (.str (tx bc)),.ref st.length,.d (.int 0),.d (.int bc.length),.unb] FS (st++[aA.list (pl (h::(mid++[l])))]))).trans (xa (n+11) st (.d (.str w)) .unb h mid l bc f k ((Nat.le_trans (jH (ps:=h::(mid++[l])) (by simp)) hw:l.length<=1000)) i));exact aB dG (wp 4 (1::zs 3 (1::zs 1 ([]))) λg=>g _ (tb (congrArg not a)) _ _ (b _) _ _ (aP hc) _ _ c _ (tb e) _ _ (f6 (st++[aA.list (pl (h::(mid++[l])))]) bc i) rfl)
end Mine
end
noncomputable section
open PySem PySem.Calls PySem.Spec PySem.W PyProof.Rows Builtin.Str
namespace Mine
theorem w9(n:Nat)(st:List aA)(w bc:List Nat)(a:46∉w):callf aH (n+60) 3 [.d (.str (tx w)),.d (.str (tx bc))] st=some (.bool (w==bc),st):=by refine Eq.trans d3 ?_;unfold bp;refine aB dG ?_;rw[<-gp];exact dR (1::[]) λg=>g _ (tb (congrArg (!·) (Ad a))) bF
structure iw(L:Nat->List Nat):Prop where
 dot:∀k,k<6->46∉L k
 own:∀k,k<6->∃u v,L k=u++(97+k)::v/\(97+k)∉u/\(97+k)∉v
 other:∀k,k<6->∀j,j<6->j≠k->(97+k)∉L j
 len:∀k,k<6->(L k).length<=20
noncomputable def fK(L:Nat->List Nat):Nat->List Nat
 |0=>[]
 |k+1=>fK L k++L k
noncomputable def kn(L:Nat->List Nat)(k:Nat):Nat:=(fK L k).length
theorem cm(L:Nat->List Nat)(k:Nat):kn L (k+1)=kn L k+(L k).length:=List.length_append
theorem iw.off_le{L:Nat->List Nat}(a:iw L){k:Nat}(h:k<=6):kn L k<=20*k:=by
 induction k with
 |zero=>exact Nat.le_refl 0
 |succ k b=>rw[cm];exact Nat.add_le_add (b (Nat.le_of_succ_le h)) (a.len k h)
theorem et(L:Nat->List Nat){a b:Nat}(h:a<=b):kn L a<=kn L b:=by
 induction b with
 |zero=>rw[Nat.le_zero.mp h];exact Nat.le_refl _
 |succ b c=>
  rcases Nat.lt_or_ge a (b+1)with h'|h'
  ·have:=c (by lia);rw[cm];lia
  ·exact aB (show a=b+1 by lia) (Nat.le_refl _)
noncomputable def pC(L:Nat->List Nat)(a:Nat):Nat->List Nat
 |0=>[]
 |m+1=>L a++pC L (a+1) m
theorem Bq(L:Nat->List Nat)(k:Nat):fK L (k+1)=fK L k++L k:=rfl
theorem wK(L:Nat->List Nat)(a m:Nat):pC L a (m+1)=L a++pC L (a+1) m:=rfl
theorem uX(L:Nat->List Nat):∀(m a:Nat),fK L (a+m)=fK L a++pC L a m:=by
 intro b;induction b with
 |zero=>exact λa=>(List.append_nil _).symm
 |succ m c=>intro a;refine aB (show a+(m+1)=(a+1)+m by lia) (aB (c (a+1)) ?_);rw[Bq,wK,List.append_assoc]
theorem AE{L:Nat->List Nat}{c:Nat}:∀{k:Nat},c∈fK L k->∃j,j<k/\c∈L j:=by
 intro a;induction a with
 |zero=>exact@λh=>nomatch h
 |succ k b=>
  intro h;rw[Bq,List.mem_append]at h;rcases h with h|h
  ·exact aK (b h) λj d=>⟨j,by lia,(d.2)⟩
  ·exact⟨k,by lia,h⟩
theorem yb{L:Nat->List Nat}{c:Nat}:∀{m a:Nat},c∈pC L a m->∃j,a<=j/\j<a+m/\c∈L j:=by
 intro b;induction b with
 |zero=>exact@λ_ h=>nomatch h
 |succ m d=>
  intro a h;simp only[wK,List.mem_append]at h;rcases h with h|h
  ·exact⟨a,by lia,by lia,h⟩
  ·refine aG λe=>?_;obtain⟨j,g,i,f⟩:=d h;exact e ⟨j,by lia,by lia,f⟩
theorem o0(L:Nat->List Nat)(k:Nat)(a:k<6):fK L 6=fK L k++(L k++pC L (k+1) (5 -k)):=by simp only[show(6:Nat)=k+(5 -k+1) by lia,uX];trivial
theorem iw.uniq{L:Nat->List Nat}(b:iw L)(k:Nat)(a:k<6):∃m,(L k)[m]?=some (97+k)/\BR (97+k) (kn L k+m) (fK L 6):=by
 refine bd (b.own k a) λu v f=>eY f λe g i=>⟨u.length,by rw[e];simp,?_⟩;have:=rp (c:=97+k) (u:=fK L k++u) (v:=v++pC L (k+1) (5 -k)) (by
   rw[List.mem_append];rintro(h|h)
   ·obtain⟨j,l,d⟩:=AE h;exact b.other k a j (by lia) (by lia) d
   ·exact g h) (by
   rw[List.mem_append];rintro(h|h)
   ·exact i h
   ·obtain⟨j,l,d,n⟩:=yb h;exact b.other k a j (by lia) (by lia) n)
 refine aB (o0 L k a) (aB e ?_);simpa[kn]using this
theorem iw.occ{L:Nat->List Nat}(b:iw L){k i:Nat}(c:k<6)(h:jW (fK L 6) (L k) i):i=kn L k:=by refine aG λa=>aK (b.uniq k c) λm d=>cx d λe f=>a ?_;have:=h.uniq f e;lia
theorem yq(L:Nat->List Nat){k:Nat}(a:k<6):jW (fK L 6) (L k) (kn L k):=by refine aB (o0 L k a) ?_;rw[<-List.append_assoc];exact ja _ _ _
theorem iw.find{L:Nat->List Nat}(e:iw L){k a b:Nat}(c:k<6)(f:a<=kn L k)(d:kn L (k+1)<=b):jn (fK L 6) (L k) a b=some (kn L k):=by
 rw[cm]at d;exact lK f d (yq L c) λj _ h g=>by have:=e.occ c g;lia
theorem iw.findNo{L:Nat->List Nat}(b:iw L){k a c:Nat}(d:k<6)(f:kn L k<a):jn (fK L 6) (L k) a c=none:=
 ow λj g _ e=>by have:=b.occ d e;lia
theorem iw.ne{L:Nat->List Nat}(a:iw L){k:Nat}(b:k<6):(L k).isEmpty=false:=by refine bd (a.own k b) λu v c=>?_;obtain⟨e,_⟩:=c;refine aB e ?_;induction u using List.casesOn<;>rfl
theorem iw.pos{L:Nat->List Nat}(a:iw L){k:Nat}(b:k<6):1<=(L k).length:=by refine bd (a.own k b) λu v c=>cx c λe _=>aB e ?_;simp;lia
theorem bZ:Str.ofString ""=tx []:=by decide+kernel
theorem hY(a b:List Nat)(h:a.length+b.length<=1000):eI .Add (.d (.str (tx a))) (.d (.str (tx b)))=some (.d (.str (tx (a++b)))):=by show(if(tx a).length+(tx b).length<=sizeLine then some (V.d (.str (tx a++tx b)))else none)=_;rw[jS,if_pos (bb (by simpa using h))]
theorem b6{x y:List Nat}{p q:Nat}(a:x.length<=p)(b:y.length<=q)(h:Nat.ble (p+q) 1000=true):eI .Add (.d (.str (tx x))) (.d (.str (tx y)))=some (.d (.str (tx (x++y)))):=hY _ _ (Nat.le_trans (Nat.add_le_add a b) (Nat.le_of_ble_eq_true h))
theorem bz{x y:List Nat}{p q:Nat}(a:x.length<=p)(b:y.length<=q):(x++y).length<=p+q:=by rw[List.length_append];exact Nat.add_le_add a b
theorem D:dots.length<=3:=Nat.le_refl 3
theorem mR{x:List Nat}{p:Nat}(a:x.length<=p)(h:Nat.ble (p+3) 1000=true):eI .Add (.d (.str (tx x))) (.d (.str "..."))=some (.d (.str (tx (x++dots)))):=by rw[dG];exact b6 a D h
theorem Bo{x:List Nat}{p:Nat}(a:x.length<=p)(h:Nat.ble (3+p) 1000=true):eI .Add (.d (.str "...")) (.d (.str (tx x)))=some (.d (.str (tx (dots++x)))):=by rw[dG];exact b6 D a h
theorem aX{b:Type}{p:b->Prop}{a:b}{l:List b}(h:p a)(t:∀x∈l,p x):∀x∈a::l,p x:=List.forall_mem_cons.mpr ⟨h,t⟩
theorem iQ{a:Type}{p:a->Prop}:∀x∈([]:List a),p x:=λ_ h=>(List.not_mem_nil h).elim
section
variable{bc w x l:List Nat}{mid r p q:List (List Nat)}{ep s i:Nat}{v:Bool}
theorem Cf(a:jn bc w s ep=some i)(b:od bc ep r (i+w.length)=v):od bc ep (w::r) s=v:=by simp only[tT,a];exact b
theorem Cg(a:jn bc w s ep=none):od bc ep (w::r) s=false:=by simp only[tT,a]
theorem Bt(a:s<=ep)(b:od bc ep r s=v):od bc ep ([]::r) s=v:=Cf (t8 bc a) b
theorem fi(g:x=[]/\p=[[]]\/x.isEmpty=false/\x.isPrefixOf bc=true/\p=[])(hl:l=[]/\q=[[]]\/l.isEmpty=false/\l.isSuffixOf bc=true/\q=[])(hc:x.length+l.length<=bc.length)(b:od bc (bc.length -l.length) (p++mid++q) x.length=v):wo x mid l bc=v:=by
 unfold wo;refine aB (decide_eq_true hc) (aG λa=>?_);rcases g with⟨rfl,rfl⟩|⟨c,d,rfl⟩<;>rcases hl with⟨rfl,rfl⟩|⟨e,f,rfl⟩
 ·exact a b
 ·refine a (aB e ?_);exact aB f b
 ·refine a (aB c ?_);exact aB d b
 ·refine a (aB c ?_);refine aB d (aB e ?_);exact aB f b
theorem zE(h:bc.length<x.length+l.length):wo x mid l bc=false:=by unfold wo;simp only[decide_eq_false (Nat.not_le.mpr h),Bool.and_false];rfl
theorem zF(a:x.isEmpty=false)(b:x.isPrefixOf bc=false):wo x mid l bc=false:=by unfold wo;refine aB a (aB b ?_);rfl
theorem zG(a:l.isEmpty=false)(b:l.isSuffixOf bc=false):wo x mid l bc=false:=by unfold wo;simp only[a,b,Bool.or_false,Bool.and_false];rfl
noncomputable def Nd(z:List Nat):Prop:=46∉z/\z.length<=150
theorem xC(ps:List (List Nat))(h:∀z∈ps,Nd z):(cV ps).length<=153*ps.length:=by
 induction ps with
 |nil=>exact Nat.zero_le _
 |cons x ps a=>
  have b:=(h x (List.mem_cons_self ..)).2;have d:=a λz c=>h z (List.mem_cons_of_mem _ c);induction ps using List.casesOn with
  |nil=>exact Nat.le_trans b (by decide:150<=153*1)
  |cons y ps=>show(x++(dots++cV (y::ps))).length<=_;refine aB (List.length_append) (aB (List.length_append) ?_);rw[List.length_cons];have:dots.length=3:=rfl;lia
theorem wn(hw:cV (x::(mid++[l]))=w)(hs:∀z∈x::(mid++[l]),Nd z)(f:mid.length<=2)(a:bc.length<=1000)(b:wo x mid l bc=v)(n:Nat)(st:List aA):callf aH (n+60) 3 [.d (.str (tx w)),.d (.str (tx bc))] st=some (.bool v,st):=by have e:=xC _ hs;rw[List.length_cons,List.length_append]at e;have g:[l].length=1:=rfl;refine aB (Eq.symm (hw)) (aB (Eq.symm (b)) ?_);exact El n st x mid l bc (λz c=>(hs z c).1) (by lia) (by lia) a
end
noncomputable def pL(b:Bool)(x:List Nat):List Nat:=match b with
 |true=>x
 |false=>dots++x
noncomputable def pR(b:Bool)(x:List Nat):List Nat:=match b with
 |true=>x
 |false=>x++dots
theorem iw.pre{L:Nat->List Nat}:(L 0).isPrefixOf (fK L 6)=true:=List.isPrefixOf_iff_prefix.mpr ⟨pC L 1 5,(o0 L 0 (by decide)).symm⟩
theorem iw.suf{L:Nat->List Nat}:(L 5).isSuffixOf (fK L 6)=true:=List.isSuffixOf_iff_suffix.mpr ⟨fK L 5,rfl⟩
theorem iw.nd{L:Nat->List Nat}(a:iw L){k:Nat}(b:k<6):Nd (L k):=⟨a.dot k b,Nat.le_trans (a.len k b) (by decide)⟩
theorem F3:Nd []:=⟨List.not_mem_nil,Nat.zero_le _⟩
theorem iw.ask{L:Nat->List Nat}(a:iw L)(s:kn L 6<=200){x z:Nat}{i f j:Bool}(b:x<6)(c:z<6)(e:z≠x)(t:i=true↔x=0)(k:f=true↔z=5)(hl:j=decide (x<z))(n:Nat)(st:List aA):
  callf aH (n+60) 3 [.d (.str (tx (pR f (pL i (L x)++dots++L z)))),.d (.str (tx (fK L 6)))] st=some (.bool j,st):=by
 have g:(fK L 6).length<=1000:=Nat.le_trans s (by decide);have m:kn L (z+1)<=(fK L 6).length:=et L c;have ex:kn L (x+1)<=(fK L 6).length:=et L b;have o:=cm L z;have fz:∀{p:Nat},p<=kn L z->od (fK L 6) (fK L 6).length [L z,[]] p=true:=λh=>Cf (a.find c h m) (Bt (o▸m) rfl);subst hl;induction i using Bool.casesOn with
 |true=>
  obtain rfl:=t.mp rfl;refine aB (((decide_eq_true (Nat.pos_of_ne_zero e):decide (0<z)=true))) ?_;induction f using Bool.casesOn with
  |true=>
   obtain rfl:=k.mp rfl;exact wn (mid:=[]) (List.append_assoc ..).symm (aX (a.nd b) (aX (a.nd c) iQ)) (Nat.zero_le _) g (fi (.inr ⟨a.ne b,iw.pre,rfl⟩) (.inr ⟨a.ne c,iw.suf,rfl⟩) (by
    have:=et L (show 1<=5 by decide);show _<=kn L 6;rw[(cm L 5),<-(((cm L 0).trans (Nat.zero_add _):kn L 1=(L 0).length))];exact Nat.add_le_add_right this _) rfl) n st
  |false=>exact wn (mid:=[L z]) (l:=[]) (by simp[dd,ij,pL,pR]) (aX (a.nd b) (aX (a.nd c) (aX F3 iQ))) (Nat.le_succ 1) g (fi (.inr ⟨a.ne b,iw.pre,rfl⟩) (.inl ⟨rfl,rfl⟩) (Nat.le_trans (Nat.le_of_eq ((cm L 0).trans (Nat.zero_add _)).symm) ex) (fz (Nat.le_trans (Nat.le_of_eq ((cm L 0).trans (Nat.zero_add _)).symm) (et L (Nat.pos_of_ne_zero e))))) n st
 |false=>
  induction f using Bool.casesOn with
  |true=>obtain rfl:=k.mp rfl;have q:x<5:=Nat.lt_of_le_of_ne (Nat.le_of_lt_succ b) (Ne.symm e);exact aB (decide_eq_true q) (wn (x:=[]) (mid:=[L x]) (by simp[dd,ij,pL,pR]) (aX F3 (aX (a.nd b) (aX (a.nd c) iQ))) (Nat.le_succ 1) g (fi (.inl ⟨rfl,rfl⟩) (.inr ⟨a.ne c,iw.suf,rfl⟩) (Nat.le_trans (Nat.le_of_eq (Nat.zero_add _)) (Nat.le_trans (Nat.le_add_left ..) (Nat.le_of_eq (cm L 5).symm))) ((((congrArg (· -_) (cm L 5)).trans (Nat.add_sub_cancel ..):(fK L 6).length -(L 5).length=kn L 5))▸Bt (Nat.zero_le _) (Cf (a.find b (Nat.zero_le _) (et L q)) rfl))) n st)
  |false=>
   have r:=cm L x;refine wn (x:=[]) (mid:=[L x,L z]) (l:=[]) (by simp[dd,ij,pL,pR]) (aX F3 (aX (a.nd b) (aX (a.nd c) (aX F3 iQ)))) (Nat.le_refl 2) g (fi (.inl ⟨rfl,rfl⟩) (.inl ⟨rfl,rfl⟩) (Nat.zero_le _) (Bt (Nat.zero_le _) (Cf (a.find b (Nat.zero_le _) ex) (?_:od (fK L 6) (fK L 6).length [L z,[]] (kn L x+(L x).length)=_)))) n st;refine aB (Eq.symm (r)) (Or.elim (Nat.lt_or_gt_of_ne e) (λh=>?_) λh=>?_)
   ·exact aB (decide_eq_false (Nat.lt_asymm h)) (Cg (a.findNo c (Nat.lt_of_lt_of_le (Nat.lt_of_lt_of_le (Nat.lt_add_of_pos_right (a.pos c)) (Nat.le_of_eq o.symm)) (Nat.le_trans (et L h) (r▸Nat.le_add_right ..)))))
   ·exact aB (decide_eq_true h) (fz (et L h))
theorem dH(x:List Nat){p:Nat}(a:x.length<=p)(h:Nat.ble p 1000=true):eI .Add (.d (.str (tx x))) (.d (.str ""))=some (.d (.str (tx x))):=by refine aB bZ (Eq.trans (hY x [] (Nat.le_trans a (Nat.le_of_ble_eq_true h))) ?_);rw[List.append_nil]
theorem AI{x:List Nat}{p:Nat}(a:x.length<=p)(h:Nat.ble p 1000=true):eI .Add (.d (.str "")) (.d (.str (tx x)))=some (.d (.str (tx x))):=by exact aB bZ (hY [] x (Nat.le_trans (Nat.le_of_eq (Nat.zero_add _)) (Nat.le_trans a (Nat.le_of_ble_eq_true h))))
theorem B4{L:Nat->List Nat}{g:List Nat}{x z:Nat}{p q r:Bool}{y o i j:V}(s:x<6)(t:z<6)(b:((z:Int)!=(x:Int))=true)(e:((x:Int)==0)=p)(f:((z:Int)==5)=q)(a:(L x).length<=20)(c:(L z).length<=20)(h:∀n st,callf aH (n+60) 3 [.d (.str (tx (pR q (pL p (L x)++dots++L z)))),.d (.str (tx g))] st=some (.bool r,st))(n:Nat)(st:List aA):
  exs aH (n+80) [.d (.int x),y,o,.d (bP λk=>tx (L k)),.d (.str (tx g)),i,j,.d (.int z)] wL st
   =some (if r then .nx else .ret (.d (.bool false)),[.d (.int x),y,o,.d (bP λk=>tx (L k)),.d (.str (tx g)),i,j,.d (.int z)],st):=by
 have l:=dy (λk=>tx (L k)) st x s;have m:=dy (λk=>tx (L k)) st z t;induction p using Bool.casesOn<;>induction q using Bool.casesOn<;>induction r using Bool.casesOn
 ·exact go (1::1::zs 5 (1::zs 2 ([]))) λg=>g _ (tb b) _ (tb e) _ l _ (Bo a rfl) _ (mR (bz D a) rfl) _ m _ (b6 (bz (bz D a) D) c rfl) _ (tb f) _ (mR (bz (bz (bz D a) D) c) rfl) _ _ (h _ _) rfl
 ·exact go (1::1::zs 5 (1::zs 2 ([]))) λg=>g _ (tb b) _ (tb e) _ l _ (Bo a rfl) _ (mR (bz D a) rfl) _ m _ (b6 (bz (bz D a) D) c rfl) _ (tb f) _ (mR (bz (bz (bz D a) D) c) rfl) _ _ (h _ _) rfl
 ·exact go (1::1::zs 5 (1::zs 2 ([]))) λg=>g _ (tb b) _ (tb e) _ l _ (Bo a rfl) _ (mR (bz D a) rfl) _ m _ (b6 (bz (bz D a) D) c rfl) _ (tb f) _ (dH _ (bz (bz (bz D a) D) c) rfl) _ _ (h _ _) rfl
 ·exact go (1::1::zs 5 (1::zs 2 ([]))) λg=>g _ (tb b) _ (tb e) _ l _ (Bo a rfl) _ (mR (bz D a) rfl) _ m _ (b6 (bz (bz D a) D) c rfl) _ (tb f) _ (dH _ (bz (bz (bz D a) D) c) rfl) _ _ (h _ _) rfl
 ·exact go (1::1::zs 5 (1::zs 2 ([]))) λg=>g _ (tb b) _ (tb e) _ l _ (AI a rfl) _ (mR a rfl) _ m _ (b6 (bz a D) c rfl) _ (tb f) _ (mR (bz (bz a D) c) rfl) _ _ (h _ _) rfl
 ·exact go (1::1::zs 5 (1::zs 2 ([]))) λg=>g _ (tb b) _ (tb e) _ l _ (AI a rfl) _ (mR a rfl) _ m _ (b6 (bz a D) c rfl) _ (tb f) _ (mR (bz (bz a D) c) rfl) _ _ (h _ _) rfl
 ·exact go (1::1::zs 5 (1::zs 2 ([]))) λg=>g _ (tb b) _ (tb e) _ l _ (AI a rfl) _ (mR a rfl) _ m _ (b6 (bz a D) c rfl) _ (tb f) _ (dH _ (bz (bz a D) c) rfl) _ _ (h _ _) rfl
 ·exact go (1::1::zs 5 (1::zs 2 ([]))) λg=>g _ (tb b) _ (tb e) _ l _ (AI a rfl) _ (mR a rfl) _ m _ (b6 (bz a D) c rfl) _ (tb f) _ (dH _ (bz (bz a D) c) rfl) _ _ (h _ _) rfl
theorem zq{x:Nat}{y a t g i j:V}(n:Nat)(st:List aA):exs aH (n+80) [.d (.int x),y,a,t,g,i,j,.d (.int x)] wL st=some (.nx,[.d (.int x),y,a,t,g,i,j,.d (.int x)],st):=by exact go (1::zs 1 ([])) λg=>g _ (tb (bne_self_eq_false (x:Int))) _ (tb (bne_self_eq_false (x:Int))) rfl
theorem zr(n:Nat)(st:List aA)(L:Nat->List Nat)(c:iw L)(x z:Nat)(f:x<6)(g:z<6)(y b i j:V)(h:kn L 6<=200):
  exs aH (n+80) [.d (.int x),y,b,.d (bP λk=>tx (L k)),.d (.str (tx (fK L 6))),i,j,.d (.int z)] wL st
   =some (if(z==x||decide (x<z))then .nx else .ret (.d (.bool false)),[.d (.int x),y,b,.d (bP λk=>tx (L k)),.d (.str (tx (fK L 6))),i,j,.d (.int z)],st):=by
 by_cases a:z=x
 ·subst a;rw[beq_self_eq_true,Bool.true_or];exact aB (if_pos rfl) (zq n st)
 ·refine aB (beq_eq_false_iff_ne.mpr a) ?_;rw[Bool.false_or];exact B4 f g (bne_iff_ne.mpr λe=>a (Int.ofNat_inj.mp e)) rfl rfl (c.len x f) (c.len z g) (λn st=>c.ask h f g a (beq_iff_eq.trans Int.ofNat_inj) (beq_iff_eq.trans Int.ofNat_inj) rfl n st) n st
theorem zp(n:Nat)(st:List aA)(L:Nat->List Nat)(m:iw L)(x:Nat)(o:x<6)(y a i j:V)(p:kn L 6<=200):∀(zs:List Nat)(c:V),(∀z∈zs,z<6)->
  ∃b,cf aH (n+80) (.v 7) wL (aJ zs) [.d (.int x),y,a,.d (bP λk=>tx (L k)),.d (.str (tx (fK L 6))),i,j,c] st
   =some (if zs.all (λz=>z==x||decide (x<z))then .nx else .ret (.d (.bool false)),[.d (.int x),y,a,.d (bP λk=>tx (L k)),.d (.str (tx (fK L 6))),i,j,b],st):=by
 intro e;induction e with
 |nil=>exact λc _=>⟨c,rfl⟩
 |cons z zs f=>
  intro c l;have g:cd (.v 7) (.d (.int z)) [.d (.int x),y,a,.d (bP λk=>tx (L k)),.d (.str (tx (fK L 6))),i,j,c]=some [.d (.int x),y,a,.d (bP λk=>tx (L k)),.d (.str (tx (fK L 6))),i,j,.d (.int z)]:=rfl;simp only[eW,eQ,g,cv,(zr n st L m x z o (l z (List.mem_cons_self ..)) y a i j p),cv];refine aB (List.all_cons) ?_;cases h:(z==x||decide (x<z))with
  |true=>obtain⟨b,q⟩:=f (.d (.int z)) (λw hw=>l w (List.mem_cons_of_mem _ hw));exact⟨b,q⟩
  |false=>exact⟨.d (.int z),rfl⟩
theorem pO(l:List Nat)(a b:Nat)(c:b<l.length)(hl:l.length<=100):iq (.list (aJ l)) (some (a:Int)) (some ((b:Int)+1))=some (.list (aJ ((l.drop a).take (b+1 -a)))):=by
 refine Eq.trans (if_pos (bb (by simp;lia))) ?_;unfold FQ;simp only[Option.elim,clipAt_nat,show((b:Int)+1)=((b+1:Nat):Int) by lia,yn];refine aB (show min (b+1) l.length=b+1 by lia) ?_
 congr 2
 unfold aJ;refine aB (List.map_take) (aB (List.map_drop) ?_);refine Or.elim (Nat.le_total a l.length) (λh=>?_) λh=>?_
 ·exact aB (show min a l.length=a by lia) rfl
 ·refine aB (show min a l.length=l.length by lia) (aB (List.drop_of_length_le (by simp)) ?_);refine aB (List.drop_of_length_le (by simpa using h)) ?_;simp
noncomputable def Fs(c:List Nat)(a b:Nat):List Nat:=if b<a then(c.drop b).take (a+1 -b)else(c.drop a).take (b+1 -a)
noncomputable def pB(a:List Nat)(pos:Nat->Nat)(x y:Nat):Bool:=(Fs a (pos x) (pos y)).all (λz=>z==x||decide (x<z))&&decide (x≠y)
theorem uC(st:List aA)(a b:Nat):fJ .sorted (.d (.list [.int a,.int b])) st=some (.d (.list (if(b:Int)<a then[.int b,.int a]else[.int a,.int b])),st):=rfl
theorem Gj(x y:Nat):((x:Int)!=(y:Int))=decide (x≠y):=Bool.eq_iff_iff.mpr (bne_iff_ne.trans ((not_congr Int.ofNat_inj).trans decide_eq_true_iff.symm))
section
variable{L:Nat->List Nat}(ok:iw L)(hp:kn L 6<=200){row:List Nat}{pos:Nat->Nat}(hR:mQ row pos)(hrow:∀z∈row,z<6){x y:Nat}(hx:x<6)(hy:y<6)
include ok hp hR hrow hx hy
theorem tN{a b:Nat}(hs:∀st,fJ .sorted (.d (.list [.int (pos x),.int (pos y)])) st=some (.d (.list [.int a,.int b]),st))(c:b<row.length)(n:Nat)(st:List aA):
  callf aH (n+90) 17 [.d (.int x),.d (.int y),.d (.list (aJ row)),.d (bP λk=>tx (L k)),.d (.str (tx (fK L 6)))] st=some (.bool (((row.drop a).take (b+1 -a)).all (λz=>z==x||decide (x<z))&&((x:Int)!=(y:Int))),st):=by
 have lp:=λn i j f=>zp n st L ok x hx (.d (.int y)) (.d (.list (aJ row))) i j hp ((row.drop a).take (b+1 -a)) f (λz l=>hrow z (List.mem_of_mem_drop (List.mem_of_mem_take l)));refine gT.trans ?_;cases h:((row.drop a).take (b+1 -a)).all (λz=>z==x||decide (x<z))with
 |true=>rw[h]at lp;obtain⟨e,lp⟩:=lp (n+6) (.d (.int a)) (.d (.int b)) .unb;exact dR (1::1::zs 1 (1::zs 1 ([]))) λg=>g _ _ (ee hR _ _ hx) _ _ (ee hR _ _ hy) _ _ (hs _) _ (pO row _ _ c hR.len) _ _ _ lp bF
 |false=>rw[h]at lp;obtain⟨e,lp⟩:=lp (n+6) (.d (.int a)) (.d (.int b)) .unb;exact dR (1::1::zs 1 (1::zs 1 ([]))) λg=>g _ _ (ee hR _ _ hx) _ _ (ee hR _ _ hy) _ _ (hs _) _ (pO row _ _ c hR.len) _ _ _ lp bF
theorem Ec(a:∀i,i<6->pos i<row.length)(n:Nat)(st:List aA):
  callf aH (n+90) 17 [.d (.int x),.d (.int y),.d (.list (aJ row)),.d (bP λk=>tx (L k)),.d (.str (tx (fK L 6)))] st=some (.bool (pB row pos x y),st):=by
 unfold pB Fs;rw[<-Gj];by_cases h:pos y<pos x
 ·exact aB (if_pos h) (tN ok hp hR hrow hx hy (λst=>by rw[uC,if_pos (Int.ofNat_lt.mpr h)]) (a x hx) n st)
 ·exact aB (if_neg h) (tN ok hp hR hrow hx hy (λst=>by rw[uC,if_neg (λe=>h (Int.ofNat_lt.mp e))]) (a y hy) n st)
end
noncomputable def sq:Bool->Bool->List Nat->List Nat->List Nat->List Nat
 |_,false,acc,_,[]=>acc
 |_,true,acc,a,[]=>acc++a
 |true,false,acc,_,c::r=>sq false false (acc++[c]) [] r
 |true,true,acc,a,c::r=>sq false true acc (a++[c]) r
 |false,false,acc,_,c::r=>if c=92 then sq true false (acc++[c]) [] r else if c=34 then sq false true acc [c] r else sq false false (acc++[c]) [] r
 |false,true,acc,a,c::r=>if c=92 then sq true true acc (a++[c]) r else if c=34 then sq false false acc [] r else sq false true acc (a++[c]) r
theorem BH(acc a:List Nat)(c:Nat)(r:List Nat):sq true false acc a (c::r)=sq false false (acc++[c]) [] r:=rfl
theorem Fy(acc a:List Nat)(c:Nat)(r:List Nat):sq true true acc a (c::r)=sq false true acc (a++[c]) r:=rfl
theorem q6(acc a:List Nat)(c:Nat)(r:List Nat):sq false false acc a (c::r)=if c=92 then sq true false (acc++[c]) [] r else if c=34 then sq false true acc [c] r else sq false false (acc++[c]) [] r:=rfl
theorem Fv(acc a:List Nat)(c:Nat)(r:List Nat):sq false true acc a (c::r)=if c=92 then sq true true acc (a++[c]) r else if c=34 then sq false false acc [] r else sq false true acc (a++[c]) r:=rfl
theorem l7:Str.ofString "\""=tx [34]:=by decide+kernel
theorem uB(x:List Nat){a b:Nat}(c:a<=b)(d:b<=x.length)(e:x.length<=1000):iq (.str (tx x)) (some (a:Int)) (some (b:Int))=some (.str (tx ((x.drop a).take (b -a)))):=by show(if(tx x).length<=sizeLine then some (PyData.str (Txt.slice (tx x) (some (a:Int)) (some (b:Int))))else none)=_;exact aB (jg x c d) (aB (if_pos (bb (by simpa using e))) rfl)
theorem nH(x:List Nat){a:Nat}(b:a<=x.length)(c:x.length<=1000):iq (.str (tx x)) (some (a:Int)) none=some (.str (tx (x.drop a))):=by
 show(if(tx x).length<=sizeLine then some (PyData.str (Txt.slice (tx x) (some (a:Int)) none))else none)=_;have e:Txt.slice (tx x) (some (a:Int)) none=Txt.slice (tx x) (some (a:Int)) (some (x.length:Int)):=by unfold Txt.slice;rw[StrLaws.sliceIdx_none_hi,dA]
 refine aB e (aB (jg x b (Nat.le_refl _)) ?_);exact aB (if_pos (bb (by simpa using c))) (aB (List.take_of_length_le (by simp)) rfl)
theorem wC{st:List aA}{tail:List aA}(l:List (List Nat))(z:List Nat)(hl:l.length<=900):
  d7 (st++aA.list (pl l)::tail) .append (.ref st.length) [.d (.str (tx z))]=some (.d .none,st++aA.list (pl (l++[z]))::tail):=by
 refine Eq.trans (oO _ (aR ..) (by simp[pl];lia)) ?_;rw[cz,s9];rfl
noncomputable def BU(pre:List Nat)(a:Nat):Option Nat->List Nat
 |none=>pre.drop a
 |some o=>(pre.take o).drop a
noncomputable def F5(pre:List Nat):Option Nat->List Nat
 |none=>[]
 |some o=>pre.drop o
structure mr(pre:List Nat)(start:Nat)(op:Option Nat)(R:List (List Nat))(acc pend:List Nat):Prop where
 le:start<=pre.length
 n:R.length<=pre.length
 acc':R.flatten++BU pre start op=acc
 pend':pend=F5 pre op
 op':∀o,op=some o->start<=o/\o<pre.length
 size:acc.length+pend.length<=pre.length
theorem mr.plain{pre:List Nat}{a:Nat}{op:Option Nat}{R:List (List Nat)}{acc b:List Nat}(h:mr pre a op R acc b)(c:Nat):
  mr (pre++[c]) a op R (if op.isSome then acc else acc++[c]) (if op.isSome then b++[c]else[]):=by
 have d:=h.le;induction op using Option.casesOn with
 |none=>exact⟨by simp;lia,by have:=h.n;simp;lia,by rw[<-h.acc'];simp[BU,List.drop_append_of_le_length d],rfl,(λo e=>nomatch e),by have:=h.size;simp;lia⟩
 |some o=>
  have f:=(h.op' o rfl).2;refine⟨by simp;lia,by have:=h.n;simp;lia,?_,?_,λg e=>by cases e;exact⟨((h.op' o rfl).1),by simp;lia⟩,by have:=h.size;simp;lia⟩
  ·refine aB (Eq.symm (h.acc')) ?_;simp[BU,List.take_append_of_le_length (Nat.le_of_lt f)]
  ·have e:=h.pend';refine aB e ?_;simp[F5,List.drop_append_of_le_length (Nat.le_of_lt f)]
theorem mr.opens{pre:List Nat}{a:Nat}{R:List (List Nat)}{acc b:List Nat}(h:mr pre a none R acc b):
  mr (pre++[34]) a (some pre.length) R acc [34]:=by
 have c:=h.le;refine⟨by simp;lia,by have:=h.n;simp;lia,?_,by simp[F5],λd e=>by cases e;exact⟨c,by simp⟩,by have:=h.size;simp;lia⟩;refine aB (Eq.symm (h.acc')) ?_;simp[BU]
theorem mr.closes{pre:List Nat}{a o:Nat}{R:List (List Nat)}{acc b:List Nat}(h:mr pre a (some o) R acc b):
  mr (pre++[34]) (pre.length+1) none (if a=o then R else R++[(pre.take o).drop a]) acc []:=by
 refine⟨by simp,by have:=h.n;split<;>simp<;>lia,?_,rfl,(λc e=>nomatch e),by have:=h.size;simp;lia⟩;refine aB (Eq.symm (h.acc')) ?_;by_cases e:a=o
 ·subst e;simp[BU]
 ·simp[e,BU]
theorem Bx(pos c:Nat)(r:List Nat)(h:c≠92):eZ pos false (c::r)=.tuple [.int pos,.str (tx [c])]::eZ (pos+1) false r:=by refine Eq.trans (if_neg h) ?_;rfl
theorem Eo(pos c:Nat)(r:List Nat):eZ pos true (c::r)=.tuple [.int pos,.str (tx [92,c])]::eZ (pos+1) false r:=rfl
theorem Ef{x:Str}{b:Bool}(h:(x==tx [34])=b)(st:List aA):dt st .Eq (.d (.str x)) (.d (.str "\""))=some (b,st):=by rw[l7,k9,h]
inductive D2(n:Nat)(st:List aA)(addr z:List Nat)(ds:List PyData)(env:List V)(s0:List aA):Prop
 |mk (s':Nat) (o':Option Nat) (R':List (List Nat)) (a b:V) (h1:s'<=addr.length) (h2:R'.length<=addr.length) (h3:R'.flatten++addr.drop s'=z) (ch:cf aH (n+30) (.tup [4,5]) yK ds env s0=some (.nx,[.d (.str (tx addr)),.d (.int s'),.d (qO o'),.ref st.length,a,b],st++[aA.list (pl R')]))
theorem D2.step{n:Nat}{st:List aA}{c z g:List Nat}{d i:List PyData}{e j:List V}{s s2:List aA}(h:D2 n st c z d e s)(l:z=g)(k:∀f,cf aH (n+30) (.tup [4,5]) yK d e s=some f->cf aH (n+30) (.tup [4,5]) yK i j s2=some f):D2 n st c g i j s2:=by
 induction h using D2.casesOn with
 |mk s' m o a b p q r ch=>exact⟨s',m,o,a,b,p,q,r.trans l,k _ ch⟩
theorem A7(n:Nat)(st:List aA)(f:List Nat)(A:f.length<=500)(r:List Nat):∀(pre:List Nat)(pos:Nat)(b:Bool)(a:Nat)(op:Option Nat)(R:List (List Nat))(acc j:List Nat)(t u:V),
  pre.length=pos->f=pre++r->mr pre a op R acc j->
  D2 n st f (sq b op.isSome acc j r) (eZ pos b r) [.d (.str (tx f)),.d (.int a),.d (qO op),.ref st.length,t,u] (st++[aA.list (pl R)]):=by
 induction r with
 |nil=>
  intro pre pos b a op R acc j t u x s h;subst x;rw[List.append_nil]at s;subst s;have key:R.flatten++f.drop a=sq b op.isSome acc j []:=by
   induction op using Option.casesOn with
   |none=>rw[<-h.acc'];induction b using Bool.casesOn<;>rfl
   |some o=>
    have v:=h.op' o rfl;refine aB (show sq b (some o).isSome acc j []=acc++j by induction b using Bool.casesOn<;>rfl) (aB (Eq.symm ((h.acc'))) ?_);refine aB (h.pend') ?_;simp only[BU,F5,List.append_assoc]
    congr 1
    conv=>lhs;rw[<-List.take_append_drop o f]
    exact(List.drop_append_of_le_length (by simp;lia))
  induction b using Bool.casesOn with
  |false=>exact⟨a,op,R,t,u,h.le,h.n,key,rfl⟩
  |true=>exact⟨a,op,R,.d (.int ((f.length:Int) -1)),.d (.str (tx [92])),h.le,h.n,key,rfl⟩
 |cons c r w=>
  intro pre pos b a op R acc j t u x s h;subst x;have l:f=(pre++[c])++r:=by rw[s];simp
  have hl:(pre++[c]).length=pre.length+1:=by simp
  have k:=h.plain c;induction b using Bool.casesOn with
  |true=>exact(w (pre++[c]) _ false a op R _ _ (.d (.int pre.length)) (.d (.str (tx [92,c]))) hl l k).step (by induction op using Option.casesOn<;>rfl) λ_ ch=>ch
  |false=>
   by_cases m:c=92
   ·subst m;exact(w (pre++[92]) _ true a op R _ _ t u hl l k).step (by induction op using Option.casesOn<;>rfl) λ_ ch=>ch
   ·refine aB (Bx _ _ _ m) ?_;by_cases p:c=34
    ·subst p;have q:(tx [34]==tx [34])=true:=by decide+kernel
     induction op using Option.casesOn with
     |none=>exact(w (pre++[34]) _ false a (some pre.length) R _ _ (.d (.int pre.length)) (.d (.str (tx [34]))) hl l h.opens).step rfl λ_ ch=>oJ (zs 1 (1::[])) λg=>g _ _ (Ef q _) _ _ (Ef q _) ch
     |some o=>
      have v:=h.op' o rfl;refine(w (pre++[34]) _ false (pre.length+1) none _ _ _ (.d (.int pre.length)) (.d (.str (tx [34]))) hl l h.closes).step rfl λ_ ch=>?_;have lc:pre.length+1<=f.length:=by rw[s];simp
      have B:=h.n;have z:=uB f v.1 (by lia) (by lia);have tk:(f.drop a).take (o -a)=(pre.take o).drop a:=by refine aB s (aB (List.drop_append_of_le_length (by lia)) ?_);exact aB (List.take_append_of_le_length (by simp;lia)) (aB (List.drop_take) rfl)
      rw[tk]at z;by_cases e:a=o
      ·rw[if_pos e]at ch;have y:((a:Int)!=(o:Int))=false:=by simp;lia
       exact oJ (zs 1 (4::[])) λg=>g _ _ (Ef q _) _ (tb y) ch
      ·rw[if_neg e]at ch;have y:((a:Int)!=(o:Int))=true:=by simp;lia
       exact oJ (zs 1 (4::zs 4 ([]))) λg=>g _ _ (Ef q _) _ (tb y) _ _ (zh (i:=0) rfl) _ (DN (i:=0) rfl) _ z _ _ (wC (st:=st) (tail:=[]) R ((pre.take o).drop a) (by lia)) ch
    ·have q:(tx [c]==tx [34])=false:=by rw[gp];simp[p]
     exact(w (pre++[c]) _ false a op R _ _ (.d (.int pre.length)) (.d (.str (tx [c]))) hl l k).step (by induction op using Option.casesOn<;>exact((if_neg m).trans (if_neg p)).symm) λ_ ch=>oJ (zs 1 ([])) λg=>g _ _ (Ef q _) ch
end Mine
end
noncomputable section
open PySem PySem.Calls PySem.Spec PySem.W PyProof.Rows Builtin.Str
set_option backward.match.sparseCases false
namespace Mine
theorem uD:∀R:List (List Nat),o8 (pl R)=some (R.map tx):=by
 intro a;induction a with
 |nil=>exact rfl
 |cons r R b=>show(o8 (pl R)).map (tx r::·)=_;refine aB b ?_;rfl
theorem nu:∀R:List (List Nat),Str.join (tx []) (R.map tx)=tx R.flatten
 |[]=>rfl
 |[r]=>by simp[Str.join]
 |r::s::R=>by show tx r++tx []++Str.join (tx []) ((s::R).map tx)=_;simp only[nu (s::R),jS,jS];simp
theorem ui(R:List (List Nat)):Txt.join (tx []) (R.map tx)=tx R.flatten:=by show glued (tx []) (R.map tx)=_;simp only[StrLaws.glued_eq_join,nu]
theorem yR:∀R:List (List Nat),((R.map tx).map (·.length)).sum=R.flatten.length:=by
 intro a;induction a with
 |nil=>exact rfl
 |cons r R b=>show(tx r).length+((R.map tx).map (·.length)).sum=(r++R.flatten).length;simp only[b,List.length_append,dA]
theorem nt(R:List (List Nat))(h:R.flatten.length<=1000):JoinOk (tx []) (R.map tx)=true:=by
 unfold JoinOk;have:tooLong ((R.map tx).toArray.foldl (·+·.length+(tx []).length) 0)=false:=by
  have a:(R.map tx).toArray.foldl (·+·.length+(tx []).length) 0=R.flatten.length:=by simp only[<-yR R,(StrLaws.joinTotal (tx []) (R.map tx))];trivial
  refine aB a ?_;have b:=bb h;simp[tooLong]at b⊢;omega
 refine aB this ?_;rfl
theorem xO(st:List aA)(R:List (List Nat))(hl:R.flatten.length<=1000):d7 st .join (.d (.str (tx []))) [.d (.list (pl R))]=some (.d (.str (tx R.flatten)),st):=by show(o8 (pl R)).bind _=_;rw[uD,cv];refine Eq.trans (if_pos (nt R hl)) ?_;rw[ui]
theorem qr(st:List aA)(R:List (List Nat))(hl:R.flatten.length<=1000):d7 (st++[aA.list (pl R)]) .join (.d (.str (tx []))) [.ref st.length]=some (.d (.str (tx R.flatten)),st++[aA.froz (.list (pl R))]):=by show(fz (.ref st.length) (st++[aA.list (pl R)])).bind (λr=>match r.1 with|.list ds=>(o8 ds).bind λxs=>if JoinOk (tx []) xs=true then some (V.d (.str (Txt.join (tx []) xs)),r.2)else none|_=>none)=_;rw[jG];show(o8 (pl R)).bind _=_;rw[uD,cv];refine Eq.trans (if_pos (nt R hl)) ?_;rw[ui];rfl
theorem ub(x:List Nat)(c:Nat):hS (tx x) (tx [c])=decide (c∈x):=by have:=StrLaws.found_one (tx x) c;exact this
theorem Fw:∀(r:List Nat)(b:Bool)(acc:List Nat),34∉r->sq b false acc [] r=acc++r:=by
 intro d;induction d with
 |nil=>exact λb acc _=>by induction b using Bool.casesOn<;>exact(List.append_nil acc).symm
 |cons c r a=>
  intro b acc h;have g:c≠34:=λe=>h (by simp[e]);have f:34∉r:=λe=>h (by simp[e]);induction b using Bool.casesOn with
  |true=>rw[BH,a false _ f,List.append_assoc];rfl
  |false=>
   rw[q6,if_neg g];split
   ·refine Eq.trans (a true _ f) ?_;simp
   ·refine Eq.trans (a false _ f) ?_;simp
theorem yL:∀(r:List Nat)(b o:Bool)(acc a:List Nat),(sq b o acc a r).length<=acc.length+a.length+r.length:=by
 intro d;induction d with
 |nil=>
  exact λb o acc a=>by
   induction b using Bool.casesOn<;>induction o using Bool.casesOn
   ·exact Nat.le_add_right ..
   ·exact Nat.le_of_eq List.length_append
   ·exact Nat.le_add_right ..
   ·exact Nat.le_of_eq List.length_append
 |cons c r e=>
  intro b o acc a;induction b using Bool.casesOn<;>induction o using Bool.casesOn<;>first|rw[q6]|rw[Fv]|rw[BH]|rw[Fy]
  all_goals(repeat' split)<;>(refine Nat.le_trans (e _ _ _ _) ?_)<;>simp<;>lia
theorem yN(n:Nat)(st:List aA)(c:List Nat)(s:c.length<=500):callf aH (n+50) 5 [.d (.str (tx c))] st=some (.str (tx (sq false false [] [] c)),st):=by
 refine Eq.trans d6 (aB l7 ?_);refine aB bZ ?_;by_cases h:34∈c
 ·refine aG λf=>?_;obtain⟨s',t,k,a,b,u,w,p,ch⟩:=A7 (n+13) st c s c [] 0 false 0 none [] [] [] .unb .unb rfl rfl ⟨Nat.le_refl _,Nat.le_refl _,rfl,rfl,(λo e=>nomatch e),Nat.le_refl _⟩;have hs:=yL c false false [] [];have q:(k.flatten++c.drop s').length<=500:=by rw[p];simp at hs⊢;lia
  have gen:GR (V.d (.str (tx c)),st++[aA.list []])=some (eZ 0 false c,st++[aA.list []]):=by show(if(tx c).length<=1000000 then some (eZ 0 false (tx c).cps.toList,st++[aA.list []])else none)=_;refine Eq.trans (if_pos (by simp;lia)) ?_;rw[gG]
  have m:hS (tx c) (tx [34])=true:=by rw[ub];simpa using h
  have j:cf aH (n+13+30) (dJ.tup [4,5]) yK (eZ 0 false c) [V.d (PyData.str (tx c)),V.d (PyData.int 0),V.d .none,V.ref st.length,V.unb,V.unb] (st++[aA.list []])
   =some (.nx,[.d (.str (tx c)),.d (.int s'),.d (qO t),.ref st.length,a,b],st++[aA.list (pl k)]):=ch
  have ap:=wC (st:=st) (tail:=[]) k (c.drop s') (by lia);have v:=nH c u (by lia);have r:=f6 (st++[aA.list (pl k)]) c (by lia);refine f (aB (Eq.symm (p)) ?_);by_cases e:s'<c.length
  ·refine aG λf=>?_;have l:=qr st (k++[c.drop s']) (by have:=q;simp at this⊢;lia);replace l:=(List.flatten_append)▸l;rw[List.flatten_cons,List.flatten_nil,List.append_nil]at l;exact f (dR (1::zs 3 (1::zs 4 (1::zs 1 ([])))) λg=>g _ (tb (congrArg not m)) _ _ gen _ _ _ (j) _ _ r _ (tb (decide_eq_true ((by lia:((s':Int)<(c.length:Int)))))) _ _ (zh (i:=0) rfl) _ (DN (i:=0) rfl) _ v _ _ ap _ _ (zh (i:=0) rfl) _ _ l lI)
  ·refine aG λf=>?_;have l:=qr st k (by rw[List.length_append]at q;lia);have:c.drop s'=[]:=List.drop_of_length_le (by lia);refine f (aB this ?_);rw[List.append_nil];exact dR (1::zs 3 (1::1::zs 1 ([]))) λg=>g _ (tb (congrArg not m)) _ _ gen _ _ _ (j) _ _ r _ (tb (decide_eq_false ((by lia:¬((s':Int)<(c.length:Int)))))) _ _ (zh (i:=0) rfl) _ _ l lI
 ·have m:hS (tx c) (tx [34])=false:=by rw[ub];simpa using h
  exact aB (Fw c false [] h) (dR (1::[]) λg=>g _ (tb (congrArg not m)) bF)
noncomputable def di:Bool->Nat->List Nat->Option Nat
 |_,o,[]=>some o
 |true,o,_::r=>di false o r
 |false,o,c::r=>if c=92 then di true o r else if c=40 then di false (o+1) r else if c=41 then(if o=0 then none else di false (o -1) r)else di false o r
theorem cL:Str.ofString "("=tx [40]:=by decide+kernel
theorem cK:Str.ofString ")"=tx [41]:=by decide+kernel
theorem DF{x:Str}{b:Bool}(h:(x==tx [40])=b)(st:List aA):dt st .Eq (.d (.str x)) (.d (.str "("))=some (b,st):=by rw[cL,k9,h]
theorem DE{x:Str}{b:Bool}(h:(x==tx [41])=b)(st:List aA):dt st .Eq (.d (.str x)) (.d (.str ")"))=some (b,st):=by rw[cK,k9,h]
inductive wu(n:Nat)(st:List aA)(e0:V)(z:Option Nat)(ds:List PyData)(env:List V):Prop
 |mk (fl:Fl) (a b d:V) (ch:cf aH (n+30) (.tup [2,3]) tO ds env st=some (fl,[e0,a,b,d],st)) (h:match z with|none=>fl=.ret (.d (.bool false))|some o'=>fl=.nx/\a=.d (.int (o':Nat)))
theorem wu.step{n:Nat}{st:List aA}{g:V}{z:Option Nat}{ds e:List PyData}{env c:List V}(C:wu n st g z ds env)(k:∀f,cf aH (n+30) (.tup [2,3]) tO ds env st=some f->cf aH (n+30) (.tup [2,3]) tO e c st=some f):wu n st g z e c:=by
 induction C using wu.casesOn with
 |mk i a b d ch h=>exact⟨i,a,b,d,k _ ch,h⟩
theorem wN(n:Nat)(st:List aA)(p:V)(r:List Nat):∀(pos:Nat)(b:Bool)(o:Nat)(f h:V),wu n st p (di b o r) (eZ pos b r) [p,.d (.int o),f,h]:=by
 induction r with
 |nil=>
  intro pos b o f h;induction b using Bool.casesOn with
  |false=>exact⟨.nx,.d (.int o),f,h,rfl,rfl,rfl⟩
  |true=>
   refine⟨.nx,.d (.int o),.d (.int ((pos:Int) -1)),.d (.str (tx [92])),?_,rfl,rfl⟩;have q:(tx [92]==tx [40])=false:=by decide+kernel
   have a:(tx [92]==tx [41])=false:=by decide+kernel
   exact oJ (zs 1 (1::[])) λg=>g _ _ (DF q _) _ _ (DE a _) rfl
 |cons c r i=>
  intro pos b o f h;induction b using Bool.casesOn with
  |true=>
   refine(i (pos+1) false o (.d (.int pos)) (.d (.str (tx [92,c])))).step λ_ ch=>?_;have q:(tx [92,c]==tx [40])=false:=by rw[gp];simp
   have a:(tx [92,c]==tx [41])=false:=by rw[gp];simp
   rw[Eo];exact oJ (zs 1 (1::[])) λg=>g _ _ (DF q _) _ _ (DE a _) ch
  |false=>
   unfold di;by_cases j:c=92
   ·subst j;exact(i (pos+1) true o f h).step λ_ ch=>ch
   ·refine aB (Bx _ _ _ j) (aB (if_neg j) ?_);by_cases k:c=40
    ·subst k;refine aB (if_pos rfl) ((i (pos+1) false (o+1) (.d (.int pos)) (.d (.str (tx [40])))).step λ_ ch=>?_);refine aG λl=>?_;have q:(tx [40]==tx [40])=true:=by decide+kernel
     exact l (oJ (zs 1 ([])) λg=>g _ _ (DF q _) ch)
    ·refine aB (if_neg k) ?_;have q:(tx [c]==tx [40])=false:=by rw[gp];simp[k]
     by_cases m:c=41
     ·subst m;have a:(tx [41]==tx [41])=true:=by decide+kernel
      refine aB (if_pos rfl) ?_;by_cases s:o=0
      ·subst s;refine⟨.ret (.d (.bool false)),.d (.int (-1)),.d (.int pos),.d (.str (tx [41])),?_,rfl⟩;exact oJ (zs 1 (1::1::[])) λg=>g _ _ (DF q _) _ _ (DE a _) _ _ (DE a _) rfl
      ·refine aB (if_neg s) ((i (pos+1) false (o -1) (.d (.int pos)) (.d (.str (tx [41])))).step λ_ ch=>?_);have e:((o -1:Nat):Int)=(o:Int) -1:=by lia
       rw[e]at ch;exact oJ (zs 1 (1::2::[])) λg=>g _ _ (DF q _) _ _ (DE a _) _ (tb (decide_eq_false ((by lia:¬((o:Int) -1<0))))) ch
     ·refine aB (if_neg m) ((i (pos+1) false o (.d (.int pos)) (.d (.str (tx [c])))).step λ_ ch=>?_);exact oJ (zs 1 (1::[])) λg=>g _ _ (DF q _) _ _ (DE ((by rw[gp];simp[m]:(tx [c]==tx [41])=false)) _) ch
noncomputable def kY(a:List Nat):Bool:=di false 0 (sq false false [] [] a)==some 0
theorem wM(n:Nat)(st:List aA)(c:List Nat)(j:c.length<=500):callf aH (n+60) 6 [.d (.str (tx c))] st=some (.bool (kY c),st):=by
 have e:=λn=>yN n st c j;have hs:=yL c false false [] [];obtain⟨k,a,b,d,ch,h⟩:=wN (n+25) st (.d (.str (tx (sq false false [] [] c)))) (sq false false [] [] c) 0 false 0 .unb .unb;have gen:GR (V.d (.str (tx (sq false false [] [] c))),st)=some (eZ 0 false (sq false false [] [] c),st):=by show(if(tx (sq false false [] [] c)).length<=1000000 then some (eZ 0 false (tx (sq false false [] [] c)).cps.toList,st)else none)=_;refine Eq.trans (if_pos (by simp at hs⊢;lia)) ?_;rw[gG]
 refine Eq.trans fb ?_;unfold kY;generalize sq false false [] [] c=s at*;have i:=ch;cases hc:di false 0 s with
 |none=>refine aG λf=>?_;replace h:=hc▸h;refine f (aG λf=>?_);subst h;exact f (dR (zs 3 ([])) λg=>g _ _ (e _) _ _ gen _ _ _ (i) (bF))
 |some o=>replace h:=hc▸h;refine aG λf=>?_;obtain⟨rfl,rfl⟩:=h;refine f (aB (show(some o==some 0)=((o:Int)==0) by rw[Bool.eq_iff_iff];simp) ?_);exact dR (zs 3 ([])) λg=>g _ _ (e _) _ _ gen _ _ _ (i) (bF)
inductive Tk where|o|c|n (k:Nat)deriving DecidableEq
noncomputable def Tk.str(nm:Nat->List Nat):Tk->List Nat
 |.o=>[40]
 |.c=>[41]
 |.n k=>nm k
noncomputable def Tk.ok:Tk->Prop
 |.n k=>k<6
 |_=>True
noncomputable def a6(nm:Nat->List Nat)(a:List Tk):List Nat:=a.flatMap (Tk.str nm)
@[simp] theorem FU(nm:Nat->List Nat):a6 nm []=[]:=rfl
@[simp] theorem iP(nm:Nat->List Nat)(t:Tk)(a:List Tk):a6 nm (t::a)=t.str nm++a6 nm a:=rfl
@[simp] theorem t6(nm:Nat->List Nat)(a b:List Tk):a6 nm (a++b)=a6 nm a++a6 nm b:=by simp[a6]
structure zl(nm ns:Nat->List Nat):Prop where
 head:∀k,k<6->∃t,nm k=(97+k)::t/\∀c∈t,c<97
 last:∀k,k<6->∀i,(nm k)[i]?=some 41->i+1=(nm k).length
 strip:∀k,k<6->∀acc r,sq false false acc [] (nm k++r)=sq false false (acc++ns k) [] r
 neut:∀k,k<6->∀o r,di false o (ns k++r)=di false o r
 len:∀k,k<6->(nm k).length<=6
noncomputable def dh:Nat->List Tk->Option Nat
 |d,[]=>some d
 |d,.o::r=>dh (d+1) r
 |d,.c::r=>if d=0 then none else dh (d -1) r
 |d,.n _::r=>dh d r
theorem o7{nm ns:Nat->List Nat}(g:zl nm ns):∀(a:List Tk)(acc r:List Nat),(∀t∈a,t.ok)->sq false false acc [] (a6 nm a++r)=sq false false (acc++a6 ns a) [] r:=by
 intro b;induction b with
 |nil=>exact λacc r _=>by simp
 |cons t a d=>
  intro acc r h;have e:=λacc=>d acc r (λt f=>h t (List.mem_cons_of_mem _ f));have f:=h t (List.mem_cons_self ..);simp only[iP,List.append_assoc];induction t using Tk.casesOn with
  |o=>show sq false false acc [] (40::(a6 nm a++r))=_;rw[q6];simp[e,Tk.str]
  |c=>show sq false false acc [] (41::(a6 nm a++r))=_;rw[q6];simp[e,Tk.str]
  |n k=>show sq false false acc [] (nm k++(a6 nm a++r))=_;simp only[g.strip k f,e];simp[Tk.str]
theorem kZ{nm ns:Nat->List Nat}(j:zl nm ns):∀(a:List Tk)(d:Nat)(r:List Nat),(∀t∈a,t.ok)->di false d (a6 ns a++r)=match dh d a with|none=>none|some l=>di false l r:=by
 intro b;induction b with
 |nil=>exact λd r _=>rfl
 |cons t a e=>
  intro d r h;have f:=λd=>e d r (λt g=>h t (List.mem_cons_of_mem _ g));have g:=h t (List.mem_cons_self ..);simp only[iP,List.append_assoc];induction t using Tk.casesOn with
  |o=>show di false d (40::(a6 ns a++r))=_;rw[di];simp[f,dh]
  |c=>
   show di false d (41::(a6 ns a++r))=_;rw[di];by_cases i:d=0
   ·simp[i,dh]
   ·simp[i,f,dh]
  |n k=>show di false d (ns k++(a6 ns a++r))=_;simp only[j.neut k g,f];rfl
theorem tP{nm ns:Nat->List Nat}(b:zl nm ns)(a:List Tk)(h:∀t∈a,t.ok):kY (a6 nm a)=(dh 0 a==some 0):=by have c:=o7 b a [] [] h;have d:=kZ b a 0 [] h;rw[List.append_nil]at c d;unfold kY;refine aB c ?_;show(di false 0 ([]++a6 ns a)==some 0)=_;rw[List.nil_append];refine aB d ?_;cases dh 0 a<;>rfl
noncomputable def de(d e:List (Option Nat)):Nat->Option Nat->Option (List Tk)
 |_,none=>some []
 |0,some _=>none
 |f+1,some x=>if x<6 then(de d e f (d.getD x none)).bind λa=>(de d e f (e.getD x none)).bind λb=>some (.o::.n x::(a++b++[.c]))else none
theorem il{d e:List (Option Nat)}{f x:Nat}{g:List Tk}(h:de d e (f+1) (some x)=some g):∃a b,x<6/\de d e f (d.getD x none)=some a/\de d e f (e.getD x none)=some b/\.o::.n x::(a++b++[.c])=g:=by
 replace h:(if x<6 then(de d e f (d.getD x none)).bind λa=>(de d e f (e.getD x none)).bind λb=>some (.o::.n x::(a++b++[.c]))else none)=some g:=h;by_cases i:x<6
 ·rw[if_pos i]at h;obtain⟨a,j,h⟩:=Option.bind_eq_some_iff.mp h;obtain⟨b,k,h⟩:=Option.bind_eq_some_iff.mp h;exact⟨a,b,i,j,k,Option.some.inj h⟩
 ·rw[if_neg i]at h;exact aN h
theorem qC(j k:List (Option Nat))(f:Nat):∀(c:Option Nat)(g:List Tk),de j k f c=some g->∀t∈g,t.ok:=by
 induction f with
 |zero=>
  intro c g h;induction c using Option.casesOn with
  |none=>exact(Option.some.inj h)▸λ_ h=>(List.not_mem_nil h).elim
  |some x=>exact aN h
 |succ f i=>
  intro c g h;induction c using Option.casesOn with
  |none=>exact(Option.some.inj h)▸λ_ h=>(List.not_mem_nil h).elim
  |some x=>obtain⟨a,b,l,m,n,e⟩:=il h;exact e▸λt d=>(List.mem_cons.mp d).elim (λe=>e▸trivial) λd=>(List.mem_cons.mp d).elim (λe=>e▸l) λd=>(List.mem_append.mp d).elim (λd=>(List.mem_append.mp d).elim (i _ a m t) (i _ b n t)) λd=>(List.mem_singleton.mp d)▸trivial
noncomputable def eK(nm:Nat->List Nat):PyData:=bP λk=>tx (nm k)
theorem nA(a b nm:PyData)(n:Nat)(st:List aA):callf aH (n+20) 15 [.d .none,.d a,.d b,.d nm] st=some (.str (tx []),st):=by refine Eq.trans hF (aB bZ ?_);exact dR ([]) λg=>g bF
theorem AH(j m:List (Option Nat))(t:bU j)(u:bU m)(nm:Nat->List Nat)(f:Nat):∀(c:Option Nat)(i:List Tk)(n:Nat)(st:List aA),de j m f c=some i->(a6 nm i).length<=400->
  callf aH (n+20+10*f) 15 [.d (qO c),.d (.list (be j)),.d (.list (be m)),.d (eK nm)] st=some (.str (tx (a6 nm i)),st):=by
 induction f with
 |zero=>
  intro c i n st h _;induction c using Option.casesOn with
  |none=>obtain rfl:=Option.some.inj h;exact nA _ _ _ n st
  |some x=>exact(aN h)
 |succ f q=>
  intro c i n st h hl;refine aB (show n+20+10*(f+1)=(n+10*f+10)+20 by lia) ?_;induction c using Option.casesOn with
  |none=>obtain rfl:=Option.some.inj h;exact nA _ _ _ _ st
  |some x=>obtain⟨a,b,o,v,w,e⟩:=il h;subst e;simp[Tk.str]at hl;have r:=q _ a (n+2) st v (by lia);have s:=q _ b (n+3) st w (by lia);rw[show n+2+20+10*f=(n+10*f)+22 by lia]at r;rw[show n+3+20+10*f=(n+10*f)+23 by lia]at s;have y:=(nq st _ _).trans (congrArg (Option.map V.d) (gB t x o));have z:=(nq st _ _).trans (congrArg (Option.map V.d) (gB u x o));have p:=dy (λk=>tx (nm k)) st x o;have A:=hY [40] (nm x) (by simp;lia);have B:=hY ([40]++nm x) (a6 nm a) (by simp;lia);have C:=hY ([40]++nm x++a6 nm a) (a6 nm b) (by simp;lia);refine Eq.trans ?_ (congrArg (λl=>some (PyData.str (tx l),st)) (show[40]++nm x++a6 nm a++a6 nm b++[41]=a6 nm _ by simp[Tk.str]));show _=some (PyData.str (tx ([40]++nm x++a6 nm a++a6 nm b++[41])),st);refine Eq.trans hF (aB bZ ?_);refine aB cL (aB cK ?_);exact dR (2::zs 8 ([])) λg=>g _ p _ A _ y _ _ r _ B _ z _ _ s _ C _ (hY ([40]++nm x++a6 nm a++a6 nm b) [41] (by simp;lia)) bF
end Mine
end
noncomputable section
open PySem PySem.Calls PySem.Spec PySem.W PyProof.Rows Builtin.Str
namespace Mine
noncomputable def d2(a:List Bool):List PyData:=a.map PyData.bool
theorem fh(st:List aA)(xs ys:List PyData):dt st .Eq (.d (.list xs)) (.d (.list ys))=(fL (.list xs) (.list ys)).map λe=>(e,st):=by show(fz (.d (.list xs)) st).bind (λr=>(fz (.d (.list ys)) r.2).bind λq=>(fL r.1 q.1).bind λe=>some (e,q.2))=_;simp only[ox,cv];cases fL (.list xs) (.list ys)<;>rfl
theorem iH(st:List aA)(xs ys:List PyData):dt st .NotEq (.d (.list xs)) (.d (.list ys))=(fL (.list xs) (.list ys)).map λe=>(!e,st):=by show(fz (.d (.list xs)) st).bind (λr=>(fz (.d (.list ys)) r.2).bind λq=>(fL r.1 q.1).bind λe=>some (!e,q.2))=_;simp only[ox,cv];cases fL (.list xs) (.list ys)<;>rfl
theorem pP(l:List Bool):d0 (.list (d2 l))=true:=by
 have h:∀l:List Bool,PyData.canLayAll0 (d2 l)=true:=λl=>by
  induction l with
  |nil=>rfl
  |cons a r b=>simp[d2,PyData.canLayAll0,PyData.canLay0]at b⊢;exact b
 have d:∀l:List Bool,PyData.depthAll (d2 l)=0:=λl=>by
  induction l with
  |nil=>rfl
  |cons a r b=>simp[d2,PyData.depthAll,PyData.depth]at b⊢;exact b
 simp[d0,SeqAt.shaped,PyData.canLay0,PyData.depth,h,d]
theorem iL:∀a b:List Bool,PyData.eqvAll (d2 a) (d2 b)=(a==b)
 |[],[]=>rfl
 |[],_::_=>rfl
 |_::_,[]=>rfl
 |x::a,y::b=>by show(PyData.eqv (.bool x) (.bool y)&&PyData.eqvAll (d2 a) (d2 b))=_;rw[iL a b];rfl
theorem m7(a b:List Bool):fL (.list (d2 a)) (.list (d2 b))=some (a==b):=by unfold fL;simp only[pP,pP];simp[PyData.eqv,iL]
theorem ku{o:Option (PyData×List aA)}{d:PyData}{st:List aA}(h:o=some (d,st)):(o.bind λq=>some (V.d q.1,q.2))=some (.d d,st):=by rw[h];rfl
theorem uK(n:Nat)(st:List aA)(a b:List Bool)(h:a.length<=50):callf aH (n+20) 7 [.d (.list (d2 a)),.d (.list (d2 b))] st=some (.bool (a==b),st):=by
 have lc:=sN aH (n+14) (.v 0) (some (.bop .And [(.cmp .IsNot (.v 0) (.k (.bool true))),(.cmp .IsNot (.v 0) (.k (.bool false)))])) (.v 0) [.unb] st PyData.bool (λ_=>false) PyData.bool a [] (Nat.le_trans (Nat.le_of_eq (Nat.zero_add _)) (Nat.le_trans h (by decide))) (λy _=>⟨[.d (.bool y)],rfl,by induction y using Bool.casesOn<;>rfl,λh=>en h⟩);replace lc:=(List.filter_eq_nil_iff.mpr (λ_ _ h=>en h))▸lc;refine mB.trans ?_;have e:=λst=>(fh st (d2 a) (d2 b)).trans (congrArg (Option.map λe=>(e,st)) (m7 a b));induction c:(a==b)using Bool.casesOn with
 |false=>rw[c]at e;exact dR (zs 1 ([])) λg=>g _ _ (e _) bF
 |true=>rw[c]at e;exact dR (zs 1 (1::zs 1 ([]))) λg=>g _ _ (e _) _ _ lc _ _ ((λst=>(fh st [] []).trans (congrArg (Option.map λe=>(e,st)) (m7 [] []))) _) bF
theorem sU:Str.ofString "\"\\"=tx [34,92]:=by decide+kernel
theorem sV:Str.ofString "\")"=tx [34,41]:=by decide+kernel
theorem l5:Str.ofString "\"(\""=tx [34,40,34]:=by decide+kernel
theorem sW:Str.ofString "\")\""=tx [34,41,34]:=by decide+kernel
theorem l6:Str.ofString "\"\\\"(\""=tx [34,92,34,40,34]:=by decide+kernel
theorem v4(x:List Nat)(h:x≠[])(b:x.length<=1000):iq (.str (tx x)) none (some (-1))=some (.str (tx x.dropLast)):=by
 have c:1<=x.length:=by induction x using List.casesOn with|nil=>exact absurd rfl h|cons a r=>simp
 show(if(tx x).length<=sizeLine then some (PyData.str (Txt.slice (tx x) none (some (-1))))else none)=_;rw[if_pos (bb (by simpa using b))];have e:Txt.slice (tx x) none (some (-1))=Txt.slice (tx x) (some ((0:Nat):Int)) (some ((x.length -1:Nat):Int)):=by unfold Txt.slice;rw[StrLaws.sliceIdx_none_lo,StrLaws.sliceIdx_neg_hi _ _ (by lia) (by rw[dA];lia),dA,show((-1:Int)+x.length)=((x.length -1:Nat):Int) by lia];rfl
 rw[e,jg x (Nat.zero_le _) (by lia),List.dropLast_eq_take];rfl
noncomputable def EG(s:List Nat):List (List Nat):=[s++[34,92],s.dropLast++[34,41],[34,40,34]++s++[34,41,34],[34,92,34,40,34]++s,[41]++s++[40]]
theorem x9(n:Nat)(st:List aA)(s:List Nat)(hs:s≠[])(hl:s.length<=400):callf aH (n+100) 9 [.d (.str (tx s))] st=some (.bool ((EG s).map kY==[true,true,true,true,false]),st):=by have j:s.dropLast.length<=400:=Nat.le_trans (List.length_dropLast▸Nat.sub_le ..) hl;have h:∀a b:Nat,[a,b].length<=2:=λ_ _=>Nat.le_refl 2;have e:∀a:Nat,[a].length<=1:=λ_=>Nat.le_refl 1;have f:∀a b c:Nat,[a,b,c].length<=3:=λ_ _ _=>Nat.le_refl 3;have k:[34,92,34,40,34].length<=5:=Nat.le_refl 5;have l:=b6 hl (h 34 92) rfl;have m:=b6 j (h 34 41) rfl;have o:=b6 (f 34 40 34) hl rfl;have p:=b6 (bz (f 34 40 34) hl) (f 34 41 34) rfl;have q:=b6 k hl rfl;have r:=b6 (e 41) hl rfl;have t:=b6 (bz (e 41) hl) (e 40) rfl;rw[<-sU]at l;rw[<-sV]at m;rw[<-l5]at o;rw[<-sW]at p;rw[<-l6]at q;rw[<-cK]at r;rw[<-cL]at t;exact kU.trans (dR (zs 12 ([])) λg=>g _ l _ (v4 s hs (Nat.le_trans hl (by decide))) _ m _ o _ p _ q _ r _ t _ _ (zh (i:=0) rfl) _ _ (jG _ _ _) _ _ ((λn st=>bW aH (n+70) (.v 0) (.call 6 "_check_parenthesis" [(.v 0)]) [.unb] st (λs=>PyData.str (tx s)) (λs=>PyData.bool (kY s)) (EG s) (Nat.le_of_ble_eq_true rfl) (λy u=>⟨[.d (.str (tx y))],rfl,ku (wM (n+9) st y (((aX (Nat.le_trans (bz hl (h ..)) (by decide)) (aX (Nat.le_trans (bz j (h ..)) (by decide)) (aX (Nat.le_trans (bz (bz (f ..) hl) (f ..)) (by decide)) (aX (Nat.le_trans (bz k hl) (by decide)) (aX (Nat.le_trans (bz (bz (e _) hl) (e _)) (by decide)) iQ)))):∀y∈EG s,y.length<=500)) y u))⟩)) _ _) _ _ ((λn st=>uK n st ((EG s).map kY) [true,true,true,true,false] (Nat.le_of_ble_eq_true rfl)) _ _) lI)
noncomputable def mG(s:List Nat)(first e:Nat):Bool:=(s[e -1]?==some 41)&&kY ((s.drop first).take (e -first))
theorem rq:∀(m i:Nat),jU (i:Int) m=aJ (List.range' i m):=by
 intro a;induction a with
 |zero=>exact λ_=>rfl
 |succ m b=>intro i;simp only[List.range'_succ,eW,<-b (i+1)];rfl
theorem fo(st:List aA)(s:List Nat)(i c:Nat)(h:s[i]?=some c)(hs:s.length<=900):cW st (.d (.str (tx s))) (.d (.int i))=some (.d (.str (tx [c]))):=by have a:=(List.getElem?_eq_some_iff.mp h).1;show(bV (tx s).cps.toList (i:Int)).map (λc=>V.d (.str ⟨#[c]⟩))=_;simp only[gG,ba s i a (by lia),h];rfl
theorem xc(n:Nat)(st:List aA)(s:List Nat)(hs:s.length<=400)(first:Nat):∀(es:List Nat)(f:V),(∀e∈es,first<e/\e<=s.length)->
  ∃env',cf aH (n+80) (.v 2) tV (aJ es) [.d (.str (tx s)),.d (.int first),f] st=some (match es.find? (mG s first)with|some e=>.ret (.d (.int e))|none=>.nx,env',st):=by
 intro i;induction i with
 |nil=>exact λf _=>⟨_,rfl⟩
 |cons e es j=>
  intro f h;have k:=(h e (List.mem_cons_self ..)).1;have o:=(h e (List.mem_cons_self ..)).2;refine aK (j (.d (.int e)) (λz t=>h z (List.mem_cons_of_mem _ t))) λenv' p=>?_;have l:e -1<s.length:=Nat.lt_of_lt_of_le (Nat.sub_lt (Nat.lt_of_le_of_lt (Nat.zero_le _) k) Nat.one_pos) o;have q:s[e -1]?=some s[e -1]:=List.getElem?_eq_getElem l;have b:=λst=>fo st s (e -1) _ q (Nat.le_trans hs (by decide));replace b:=(show((e -1:Nat):Int)=(e:Int) -1 from Int.ofNat_sub (Nat.lt_of_le_of_lt (Nat.zero_le _) k))▸b;have r:=uB s (Nat.le_of_lt k) o (Nat.le_trans hs (by lia));have ck:=λn=>wM n st ((s.drop first).take (e -first)) (Nat.le_trans (List.length_take_le' ..) (List.length_drop▸Nat.le_trans (Nat.sub_le ..) (Nat.le_trans hs (by decide))));have a:(tx [s[e -1]]==Str.ofString ")")=(s[e -1]==41):=by rw[cK,gp];exact Bool.and_true _
  have u:mG s first e=((s[e -1]==41)&&kY ((s.drop first).take (e -first))):=by unfold mG;refine aB q ?_;rfl
  refine aB (List.find?_cons) ?_;refine aB u ?_;induction c:(s[e -1]==41)using Bool.casesOn with
  |false=>refine aG λm=>?_;simp only[c]at a;refine m ⟨env',?_⟩;exact oJ (1::1::zs 1 ([])) λg=>g _ (b _) _ (tb a) _ (tb a) p
  |true=>
   simp only[c]at a;cases hc:kY ((s.drop first).take (e -first))with
   |false=>rw[hc]at ck;refine⟨env',?_⟩;change cf aH (n+80) (.v 2) tV (.int e::aJ es) _ _=_;exact oJ (1::1::zs 2 ([])) λg=>g _ (b _) _ (tb a) _ r _ _ (ck _) p
   |true=>rw[hc]at ck;refine⟨[.d (.str (tx s)),.d (.int first),.d (.int e)],?_⟩;change cf aH (n+80) (.v 2) tV (.int e::aJ es) _ _=_;exact oJ (1::1::zs 2 ([])) λg=>g _ (b _) _ (tb a) _ r _ _ (ck _) rfl
theorem Ch(n:Nat)(st:List aA)(s:List Nat)(hs:s.length<=400)(first:Nat)(f:first<=s.length):
  callf aH (n+90) 16 [.d (.str (tx s)),.d (.int first)] st=some (match(List.range' (first+1) (s.length -first)).find? (mG s first)with|some e=>.int e|none=>.none,st):=by
 obtain⟨env',ch⟩:=xc (n+7) st s hs first (List.range' (first+1) (s.length -first)) .unb (λe c=>by rw[List.mem_range'_1]at c;lia)
 have b:=λst=>f6 st s (Nat.le_trans hs (by lia));have it:AV [.d (.int ((first:Int)+1)),.d (.int ((s.length:Int)+1))]=some (aJ (List.range' (first+1) (s.length -first))):=by refine Eq.trans (if_pos ⟨iT.mpr (by lia),iT.mpr (by lia)⟩) ?_;rw[<-rq];refine aB (show(((s.length:Int)+1) -((first:Int)+1)).toNat=s.length -first by lia) ?_;rfl
 refine nY.trans ?_;cases h:(List.range' (first+1) (s.length -first)).find? (mG s first)with
 |none=>refine aG λa=>?_;rw[h]at ch;exact a (dR (1::1::zs 1 ([])) λg=>g _ _ (b _) _ it _ _ _ ch (p6 rfl))
 |some e=>simp only[h]at ch;exact dR (1::1::zs 1 ([])) λg=>g _ _ (b _) _ it _ _ _ ch bF
section
variable{nm ns:Nat->List Nat}(ok:zl nm ns)
include ok
theorem Dt{t:Tk}(h:t.ok):1<=(t.str nm).length:=by
 induction t using Tk.casesOn with
 |o=>simp[Tk.str]
 |c=>simp[Tk.str]
 |n k=>refine aK (ok.head k h) λu a=>cx a λe _=>?_;simp only[Tk.str,e];simp
theorem E9:∀(b:List Tk)(i:Nat),(∀t∈b,t.ok)->(a6 nm b)[i]?=some 41->∃p q,b=p++q/\i+1=(a6 nm p).length:=by
 intro f;induction f with
 |nil=>exact λi _ h=>by simp at h
 |cons t b g=>
  intro i d h;have j:=d t (List.mem_cons_self ..);simp only[iP]at h;rcases Nat.lt_or_ge i (t.str nm).length with a|a
  ·rw[List.getElem?_append_left a]at h;refine j7 ([t]) b ⟨rfl,?_⟩;induction t using Tk.casesOn with
   |o=>simp[Tk.str]at a h;subst a;simp at h
   |c=>simp[Tk.str]at a⊢;lia
   |n k=>simpa[Tk.str]using ok.last k j i h
  ·rw[List.getElem?_append_right a]at h;refine bd (g _ (λt j=>d t (List.mem_cons_of_mem _ j)) h) λp q l=>?_;have e:=l.1;exact j7 (t::p) q ⟨by rw[e];rfl,by simp;lia⟩
theorem sr{p q:List Tk}(h:∀t∈q,t.ok)(a:q≠[]):(a6 nm p).length<(a6 nm (p++q)).length:=by
 induction q using List.casesOn with
 |nil=>exact absurd rfl a
 |cons t q=>have:=Dt ok (h t (List.mem_cons_self ..));simp;lia
theorem zI{a A M R:List Tk}(o:∀t∈a,t.ok)(h:a=A++(M++R))(hc:∃k,M=k++[.c])(l:dh 0 M=some 0)(r:∀p q,M=p++q->p≠[]->q≠[]->dh 0 p≠some 0):
  (List.range' ((a6 nm A).length+1) ((a6 nm a).length -(a6 nm A).length)).find? (mG (a6 nm a) (a6 nm A).length)=some (a6 nm (A++M)).length:=by
 have b:∀t∈M++R,t.ok:=λt m=>o t (by rw[h];exact List.mem_append_right _ m);have d:(a6 nm a).drop (a6 nm A).length=a6 nm (M++R):=by rw[h,t6];simp
 obtain⟨k,y⟩:=hc;rw[List.find?_range'_eq_some];have B:(a6 nm (A++M)).length=(a6 nm A).length+(a6 nm M).length:=by simp
 have s:(a6 nm M).length=(a6 nm k).length+1:=by rw[y];simp[Tk.str]
 have C:(a6 nm a).length=(a6 nm A).length+((a6 nm M).length+(a6 nm R).length):=by rw[h];simp
 have f:∀p q,M++R=p++q->((a6 nm a).drop (a6 nm A).length).take (a6 nm p).length=a6 nm p:=by intro p q e;simp only[d,e,t6];simp
 refine⟨?_,by rw[List.mem_range'_1];lia,?_⟩
 ·unfold mG;rw[Bool.and_eq_true];refine⟨?_,?_⟩
  ·have:(a6 nm a)[(a6 nm (A++M)).length -1]?=some 41:=by refine aB (show(a6 nm (A++M)).length -1=(a6 nm A++a6 nm k).length by simp at B s⊢;lia) (aB (show a6 nm a=(a6 nm A++a6 nm k)++(41::a6 nm R) by rw[h,y];simp[Tk.str]) ?_);refine aB (List.getElem?_append_right (Nat.le_refl _)) ?_;simp
   refine aB this ?_;rfl
  ·refine aB (show(a6 nm (A++M)).length -(a6 nm A).length=(a6 nm M).length by lia) (aB (f M R rfl) ?_);refine aB (tP ok M (λt m=>b t (List.mem_append_left _ m))) (aB l ?_);rfl
 ·intro e E F;rw[Bool.not_eq_true'];unfold mG;cases u:((a6 nm a)[e -1]?==some 41)with
  |false=>rfl
  |true=>
   have g:(a6 nm (M++R))[e -1 -(a6 nm A).length]?=some 41:=by refine aB (Eq.symm (d)) (aB (List.getElem?_drop) ?_);exact aB (show(a6 nm A).length+(e -1 -(a6 nm A).length)=e -1 by lia) ((by simpa using u:(a6 nm a)[e -1]?=some 41))
   refine bd (E9 ok (M++R) _ b g) λp q z=>?_;have j:=z.1;have hl:=z.2;have i:e -(a6 nm A).length=(a6 nm p).length:=by lia
   refine aB i (aB (f p q j) ?_);refine Eq.trans (tP ok p ((λt m=>b t (by rw[j];exact List.mem_append_left _ m):∀t∈p,t.ok))) ?_;have v:p≠[]:=by intro w;simp only[w]at hl;simp at hl
   refine aG λn=>?_;rcases List.append_eq_append_iff.mp j with⟨G,e1,D⟩|⟨c',e1,D⟩
   ·refine n ?_;exfalso;rw[e1]at i;simp at i;lia
   ·refine n ?_;have x:c'≠[]:=by intro w;simp only[w,List.append_nil]at e1;simp only[<-e1]at i;lia
    have:=r p c' e1 v x;simpa using this
theorem lR{k:Nat}(p:k<6):∀b:List Tk,(∀t∈b,t.ok)->.n k∉b->(97+k)∉a6 nm b:=by
 intro d;induction d with
 |nil=>exact λ_ _=>by simp
 |cons t b f=>
  intro a i;have g:=a t (List.mem_cons_self ..);rw[iP,List.mem_append];rintro(h|h)
  ·induction t using Tk.casesOn with
   |o=>simp[Tk.str]at h;lia
   |c=>simp[Tk.str]at h;lia
   |n j=>
    refine aK (ok.head j g) λu l=>cx l λe m=>?_;rw[Tk.str,e,List.mem_cons]at h;rcases h with h|h
    ·have:k=j:=by lia
     exact i (by rw[this];exact List.mem_cons_self ..)
    ·have:=m _ h;lia
  ·exact(f (λt g=>a t (List.mem_cons_of_mem _ g)) (λh=>i (List.mem_cons_of_mem _ h))) h
theorem vz{a A R:List Tk}{k:Nat}(f:k<6)(d:∀t∈a,t.ok)(b:a=A++(.o::.n k::R))(r:.n k∉A)(s:.n k∉R):
  jn (a6 nm a) ([40]++nm k) 0 (a6 nm a).length=some (a6 nm A).length:=by
 refine aG λg=>aK (ok.head k f) λu w=>cx w λe x=>?_;have DN:∀t∈A,t.ok:=λt i=>d t (by rw[b];exact List.mem_append_left _ i);have l:∀t∈R,t.ok:=λt i=>d t (by rw[b];simp[i]);have es:a6 nm a=a6 nm A++([40]++nm k++a6 nm R):=by rw[b];simp[Tk.str]
 have y:jW (a6 nm a) ([40]++nm k) (a6 nm A).length:=by refine aB es ?_;rw[<-List.append_assoc (a6 nm A)];exact ja _ _ _
 refine g (lK (Nat.zero_le _) (by rw[es];simp) y λj _ B z=>?_);have q:=rp (c:=97+k) (u:=a6 nm A++[40]) (v:=u++a6 nm R) (by
   rw[List.mem_append];rintro(h|h)
   ·exact lR ok f A DN r h
   ·simp at h;lia) (by
   rw[List.mem_append];rintro(h|h)
   ·have:=x _ h;lia
   ·exact lR ok f R l s h)
 have p:a6 nm a=(a6 nm A++[40])++(97+k)::(u++a6 nm R):=by rw[es,e];simp
 simp only[<-p]at q;have:=z.uniq q (m:=1) (by rw[e];rfl);simp at this;lia
end
theorem vw{x y:List Nat}{i:Nat}(h:jn x y 0 x.length=some i)(st:List aA):d7 st .index (.d (.str (tx x))) [.d (.str (tx y))]=some (.d (.int i),st):=by
 show(match occurrences (tx x) (tx y) 0 (tx x).length 1 with|i::_=>some (V.d (.int (i:Nat)),st)|[]=>none)=_;unfold jn at h;rw[dA];cases a:occurrences (tx x) (tx y) 0 x.length 1 with
 |nil=>rw[a]at h;cases h
 |cons j r=>rw[a]at h;cases h;rfl
theorem uI{nm ns:Nat->List Nat}(i:zl nm ns){c:List Tk}(f:∀t∈c,t.ok){a b:Nat}(j:a<=c.length)(g:b<=c.length):(a6 nm (c.take a)).length<(a6 nm (c.take b)).length↔a<b:=by
 have key:∀a b,a<b->b<=c.length->(a6 nm (c.take a)).length<(a6 nm (c.take b)).length:=by
  intro a b h g;have e:c.take b=c.take a++(c.drop a).take (b -a):=by refine aB (show b=a+(b -a) by lia) (Eq.trans (List.take_add) ?_);simp
  refine aB e (sr i (λt k=>f t (List.mem_of_mem_drop (List.mem_of_mem_take k))) ?_);intro l;have:=congrArg List.length l;simp at this;lia
 constructor
 ·intro h;refine Or.elim (Nat.lt_or_ge a b) (λh'=>?_) λh'=>?_
  ·exact h'
  ·refine Or.elim (Nat.eq_or_lt_of_le h') (λd=>?_) λd=>?_
   ·rw[d]at h;lia
   ·have:=key b a d j;lia
 ·exact λh=>key a b h g
theorem uH{nm ns:Nat->List Nat}(e:zl nm ns){c:List Tk}(d:∀t∈c,t.ok){a b:Nat}(f:a<=c.length)(g:b<=c.length):(a6 nm (c.take a)).length<=(a6 nm (c.take b)).length↔a<=b:=by have:=uI e d g f;lia
end Mine
end
noncomputable section
open PySem PySem.Calls PySem.Spec PySem.W PyProof.Rows Builtin.Str
set_option backward.match.sparseCases false
namespace Mine
noncomputable def sG(x:Nat):List Nat->List (List Nat)
 |[]=>[[x]]
 |y::r=>(x::y::r)::(sG x r).map (y::·)
noncomputable def bQ:List Nat->List (List Nat)
 |[]=>[[]]
 |x::xs=>(bQ xs).flatMap (sG x)
theorem sQ(x:Nat)(a:List Nat):∀b:List Nat,a++x::b∈sG x (a++b):=by
 induction a with
 |nil=>
  intro b;induction b using List.casesOn with
  |nil=>exact List.mem_singleton.mpr rfl
  |cons y b=>exact List.mem_cons_self ..
 |cons y a c=>exact λb=>List.mem_cons_of_mem _ (List.mem_map_of_mem (c b))
theorem vM:∀(l p:List Nat),p.Perm l->p∈bQ l:=by
 intro c;induction c with
 |nil=>exact λp h=>by rw[List.perm_nil.mp h];exact List.mem_singleton.mpr rfl
 |cons x xs d=>intro p h;refine bd (List.append_of_mem ((h.mem_iff.mpr (List.mem_cons_self ..):x∈p))) λa b e=>?_;obtain rfl:=e;exact List.mem_flatMap.mpr ⟨a++b,d _ (((List.perm_middle.symm.trans h).cons_inv:(a++b).Perm xs)),sQ x a b⟩
noncomputable def pos(a:List Nat)(i:Nat):Nat:=a.idxOf i
noncomputable def bh:List Nat:=[0,1,2,3,4,5]
noncomputable def aQ(a:List Nat)(x:Nat):List Nat:=bh.filter λy=>pB a (pos a) x y
noncomputable def F0(a:List Nat)(x y:Nat):Bool:=Nat.blt (pos a y) (pos a x)
noncomputable def ce(a:List Nat):Tr:=fH (F0 a) [1,2,3,4,5] ⟨gc,gc,[]⟩
noncomputable def ke(a:List Nat):List (Nat×Nat):=bY (F0 a) 6 bh []
noncomputable def qw(a:List (Nat×Nat)):Bool:=a.all (λp=>Nat.blt p.1 p.2&&Nat.blt p.2 6)&&Nat.ble a.length 40
noncomputable def nE(s:List (Option Nat)):Bool:=Nat.beq s.length 6&&s.all λo=>match o with|some z=>Nat.blt z 6|none=>true
noncomputable def Bw:List Nat->List Nat->Bool
 |[],[]=>true
 |x::a,y::b=>Nat.beq x y&&Bw a b
 |_,_=>false
theorem oe:∀{a b:List Nat},Bw a b=true->a=b:=by
 intro a;induction a with
 |nil=>
  intro b h;induction b using List.casesOn with
  |nil=>rfl
  |cons y b=>exact en h
 |cons x a c=>
  intro b h;induction b using List.casesOn with
  |nil=>exact en h
  |cons y b=>replace h:=Bool.and_eq_true_iff.mp (h:(Nat.beq x y&&Bw a b)=true);exact(Nat.eq_of_beq_eq_true h.1)▸(c h.2)▸rfl
noncomputable def rb(a:List Nat)(b:List (Nat×Nat)):Bool:=bh.all (λx=>Bw (bj (kz b) x) (aQ a x))&&(kz b).all (λp=>Bw p.2 (aQ a p.1)&&!p.2.isEmpty)&&Nat.beq (kz b).length (bh.filter λx=>!(aQ a x).isEmpty).length
noncomputable def FW(k:Nat):Tk->Bool
 |.n j=>Nat.beq j k
 |_=>false
noncomputable def zX:List Tk->Nat->Nat->Nat
 |[],_,i=>i
 |t::r,k,i=>if FW k t then i -1 else zX r k (i+1)
noncomputable def km(a:List Tk)(k:Nat):Nat:=zX a k 0
noncomputable def cq:Nat->List Tk->Nat
 |_,[]=>0
 |d,.o::r=>1+cq (d+1) r
 |d,.c::r=>if Nat.ble d 1 then 1 else 1+cq (d -1) r
 |d,.n _::r=>1+cq d r
noncomputable def mv(a:List Tk)(k:Nat):Nat:=km a k+cq 0 (a.drop (km a k))
noncomputable def b8:List Tk->List Nat
 |[]=>[]
 |.n k::r=>k::b8 r
 |_::r=>b8 r
noncomputable def oR:List Nat->Bool
 |[]=>true
 |x::r=>r.all (λy=>!(Nat.beq x y))&&oR r
noncomputable def ul(b:List Nat)(t:Tr):Bool:=match de t.lo t.hi 7 (some 0)with
 |none=>false
 |some a=>Nat.beq a.length 18&&oR (b8 a)&&Nat.beq (b8 a).length 6&&Nat.beq (km a 0) 0&&Nat.beq (mv a 0) 18&&bh.all λx=>Bw (aQ b x) (bh.filter λy=>Nat.blt (km a x) (km a y)&&Nat.ble (mv a y) (mv a x))
noncomputable def dn(a:List Nat):Bool:=(match gj (λi j=>Nat.blt (pos a i) (pos a j)) 6 with|some l=>Bw l a|none=>false)&&bh.all (λi=>a.findIdx? (λy=>y==i)==some (pos a i))&&bh.all (λi=>Nat.blt (pos a i) 6)&&Nat.beq a.length 6&&a.all (λz=>Nat.blt z 6)
 &&bh.all (λx=>(aQ a x).all λy=>Nat.blt x y)
 &&qw (ce a).log&&qw (ke a)&&nE (ce a).lo&&nE (ce a).hi&&rb a (ce a).log&&rb a (ke a)
 &&ul a (ce a)
end Mine
end
noncomputable section
open PySem PySem.Calls PySem.Spec PySem.W PyProof.Rows Builtin.Str
namespace Mine
theorem aY{a:Type}{p:a->Bool}{l:List a}{k m:Nat}(b:((l.drop k).take m).all p=true)(c:(l.drop (k+m)).all p=true):(l.drop k).all p=true:=by rw[<-List.take_append_drop m (l.drop k),List.all_append,b,List.drop_drop,c];rfl
theorem Fc:(((bQ bh).drop 0).take 30).all dn=true:=by decide+kernel
theorem Fd:(((bQ bh).drop 30).take 30).all dn=true:=by decide+kernel
theorem Fe:(((bQ bh).drop 60).take 30).all dn=true:=by decide+kernel
theorem Ff:(((bQ bh).drop 90).take 30).all dn=true:=by decide+kernel
theorem Fg:(((bQ bh).drop 120).take 30).all dn=true:=by decide+kernel
theorem Fh:(((bQ bh).drop 150).take 30).all dn=true:=by decide+kernel
theorem Fi:(((bQ bh).drop 180).take 30).all dn=true:=by decide+kernel
theorem Fj:(((bQ bh).drop 210).take 30).all dn=true:=by decide+kernel
theorem Fk:(((bQ bh).drop 240).take 30).all dn=true:=by decide+kernel
theorem Fm:(((bQ bh).drop 270).take 30).all dn=true:=by decide+kernel
theorem C5:(((bQ bh).drop 300).take 30).all dn=true:=by decide+kernel
theorem C6:(((bQ bh).drop 330).take 30).all dn=true:=by decide+kernel
theorem C7:(((bQ bh).drop 360).take 30).all dn=true:=by decide+kernel
theorem C8:(((bQ bh).drop 390).take 30).all dn=true:=by decide+kernel
theorem C9:(((bQ bh).drop 420).take 30).all dn=true:=by decide+kernel
theorem Db:(((bQ bh).drop 450).take 30).all dn=true:=by decide+kernel
theorem Dc:(((bQ bh).drop 480).take 30).all dn=true:=by decide+kernel
theorem Dd:(((bQ bh).drop 510).take 30).all dn=true:=by decide+kernel
theorem De:(((bQ bh).drop 540).take 30).all dn=true:=by decide+kernel
theorem Df:(((bQ bh).drop 570).take 30).all dn=true:=by decide+kernel
theorem Dg:(((bQ bh).drop 600).take 30).all dn=true:=by decide+kernel
theorem Dh:(((bQ bh).drop 630).take 30).all dn=true:=by decide+kernel
theorem Di:(((bQ bh).drop 660).take 30).all dn=true:=by decide+kernel
theorem Dj:(((bQ bh).drop 690).take 30).all dn=true:=by decide+kernel
theorem yF:(bQ bh).all dn=true:=by
 have a:((bQ bh).drop 720).all dn=true:=by decide+kernel
 have b:=aY Dj a;have c:=aY Di b;have d:=aY Dh c;have e:=aY Dg d;have f:=aY Df e;have g:=aY De f;have h:=aY Dd g;have i:=aY Dc h;have j:=aY Db i;have k:=aY C9 j;have l:=aY C8 k;have m:=aY C7 l;have n:=aY C6 m;have o:=aY C5 n;have p:=aY Fm o;have q:=aY Fk p;have r:=aY Fj q;have s:=aY Fi r;have t:=aY Fh s;have u:=aY Fg t;have v:=aY Ff u;have w:=aY Fe v;have x:=aY Fd w;have y:=aY Fc x;exact y
noncomputable def Ks.tri(K:Ks)(k:Nat):List Int:=[K.one*K.q k,K.two*K.p k,(k:Int)]
noncomputable def Ks.lt(K:Ks)(i j:Nat):Bool:=Bb (K.tri i) (K.tri j)
theorem ml(x y:Int)(xs ys:List Int):Bb (x::xs) (y::ys)=true↔x<y\/x=y/\Bb xs ys=true:=by
 show(if x=y then Bb xs ys else decide (x<y))=true↔_;by_cases h:x=y
 ·exact aB (if_pos h) ⟨λe=>.inr ⟨h,e⟩,λe=>e.elim (λl=>absurd h (Int.ne_of_lt l)) (·.2)⟩
 ·refine aB (if_neg h) ?_;rw[decide_eq_true_iff];exact⟨.inl,λe=>e.elim id λz=>absurd z.1 h⟩
theorem Ks.lt_iff(K:Ks)(i j:Nat):K.lt i j=true↔K.one*K.q i<K.one*K.q j\/(K.one*K.q i=K.one*K.q j/\(K.two*K.p i<K.two*K.p j\/(K.two*K.p i=K.two*K.p j/\i<j))):=
 (ml ..).trans (or_congr Iff.rfl (and_congr Iff.rfl ((ml ..).trans (or_congr Iff.rfl (and_congr Iff.rfl ((ml ..).trans ⟨λe=>e.elim Int.ofNat_lt.mp (λz=>en z.2),λh=>.inl (Int.ofNat_lt.mpr h)⟩))))))
section
variable{a b c:Int}{P Q R:Prop}
theorem EF(d:¬(b<a\/b=a/\P))(f:¬(c<b\/c=b/\Q))(k:¬P->¬Q->¬R):¬(c<a\/c=a/\R):=λh=>by
 have g:a<=b:=Int.not_lt.mp λh=>d (.inl h);have i:b<=c:=Int.not_lt.mp λh=>f (.inl h);have e:c=a->R->False:=λe r=>by subst e;have e:=Int.le_antisymm i g;exact k (λp=>d (.inr ⟨e,p⟩)) (λq=>f (.inr ⟨e.symm,q⟩)) r
 exact h.elim (λh=>Int.not_le.mpr h (Int.le_trans g i)) λz=>e z.1 z.2
theorem AA(e:b<a\/b=a/\P)(d:a<b\/a=b/\Q)(k:P->Q->False):False:=
 e.elim (λl=>d.elim (λm=>Int.lt_irrefl _ (Int.lt_trans l m)) λm=>Int.ne_of_lt l m.1.symm) λl=>d.elim (λm=>Int.ne_of_lt m l.1.symm) λm=>k l.2 m.2
theorem EE(h:¬(b<a\/b=a/\P))(k:¬P->Q):a<b\/a=b/\Q:=
 (Int.lt_or_eq_of_le (Int.not_lt.mp λl=>h (.inl l))).imp id λe=>⟨e,k λp=>h (.inr ⟨e.symm,p⟩)⟩
end
theorem nb{b:Bool}:(!b)=true↔¬b=true:=by induction b using Bool.casesOn<;>decide
theorem H7{a b:Bool}(h:a=true->b=true->False):(!a||!b)=true:=by
 induction a using Bool.casesOn
 ·rfl
 ·exact nb.mpr (h rfl)
theorem Ks.nlt(K:Ks)(i j:Nat):(!(K.lt i j))=true↔¬(K.one*K.q i<K.one*K.q j\/(K.one*K.q i=K.one*K.q j/\(K.two*K.p i<K.two*K.p j\/(K.two*K.p i=K.two*K.p j/\i<j)))):=nb.trans (not_congr (K.lt_iff i j))
noncomputable def Ks.row(K:Ks):List Nat:=bh.mergeSort λi j=>!(K.lt j i)
theorem Ks.row_perm(K:Ks):K.row.Perm bh:=List.mergeSort_perm _ _
theorem Ks.row_sorted(K:Ks):K.row.Pairwise λi j=>(!(K.lt j i))=true:=by exact List.pairwise_mergeSort (λa b c d e=>(K.nlt c a).mpr (EF ((K.nlt b a).mp d) ((K.nlt c b).mp e) λd e=>EF d e λf g h=>g (Nat.lt_of_lt_of_le h (Nat.not_lt.mp f)))) (λa b=>H7 λd e=>AA ((K.lt_iff b a).mp d) ((K.lt_iff a b).mp e) λd e=>AA d e λd e=>Nat.lt_asymm d e) bh
theorem Ks.rowB(K:Ks):dn K.row=true:=List.all_eq_true.mp yF _ (vM _ _ K.row_perm)
theorem nG:bh.Nodup:=by decide
theorem a7{i:Nat}:i∈bh↔i<6:=List.mem_range (n:=6)
theorem Ks.mem_row(K:Ks){i:Nat}:i∈K.row↔i<6:=K.row_perm.mem_iff.trans a7
theorem nT(a b:Nat):Nat.blt a b=decide (a<b):=Bool.eq_iff_iff.mpr ⟨λh=>decide_eq_true (Nat.le_of_ble_eq_true h),λh=>Nat.ble_eq_true_of_le (of_decide_eq_true h)⟩
theorem Ks.row_lt(K:Ks){i j:Nat}(k:i<6)(l:j<6):Nat.blt (pos K.row i) (pos K.row j)=K.lt i j:=by
 have c:=List.idxOf_lt_length_iff.mpr (K.mem_row.mpr k);have d:=List.idxOf_lt_length_iff.mpr (K.mem_row.mpr l);have gi:=List.getElem_idxOf c;have f:=List.getElem_idxOf d;have a:=List.pairwise_iff_getElem.mp K.row_sorted;unfold pos;rw[nT];rcases Nat.lt_trichotomy (K.row.idxOf i) (K.row.idxOf j)with h|h|h
 ·refine aG λg=>?_;have:=a _ _ c d h;rw[gi,f]at this;refine g (Eq.trans (decide_eq_true h) ?_);exact((K.lt_iff i j).mpr (EE ((K.nlt j i).mp this) λb=>EE b λn=>Nat.lt_of_le_of_ne (Nat.not_lt.mp n) λe=>Nat.ne_of_lt h (congrArg (K.row.idxOf ·) e))).symm
 ·have e:i=j:=by rw[<-gi,<-f];simp only[h]
  subst e;exact Eq.trans (decide_eq_false (Nat.lt_irrefl _)) ((Bool.eq_false_iff.mpr λh=>AA ((K.lt_iff i i).mp h) ((K.lt_iff i i).mp h) λb m=>AA b m λb _=>Nat.lt_irrefl _ b).symm)
 ·have:=a _ _ d c h;rw[gi,f]at this;exact Eq.trans (decide_eq_false (Nat.lt_asymm h)) ((Bool.eq_false_iff.mpr (nb.mp this)).symm)
theorem te{b:Type}(n:Nat)(a lt':Nat->Nat->Bool)(h:∀i j,i<n->j<n->a i j=lt' i j)(t:KasT b):qY n a t=qY n lt' t:=by
 induction t with
 |ret _=>rfl
 |ask i j k c=>
  show(if i<n/\j<n then qY n a (k (a i j))else none)=if i<n/\j<n then qY n lt' (k (lt' i j))else none;by_cases hc:i<n/\j<n
  ·refine aB (if_pos hc) (aB (if_pos hc) ?_);refine aB (h i j hc.1 hc.2) ?_;rw[c]
  ·exact aB (if_neg hc) (aB (if_neg hc) rfl)
theorem jh{n:Nat}{a lt':Nat->Nat->Bool}(h:∀i j,i<n->j<n->a i j=lt' i j):gj a n=gj lt' n:=by unfold gj;rw[te n a lt' h]
structure D0(row:List Nat):Prop where
 srt:gj (λi j=>Nat.blt (pos row i) (pos row j)) 6=some row
 idx:∀i,i<6->row.findIdx? (λy=>y==i)=some (pos row i)
 pos6:∀i,i<6->pos row i<6
 len:row.length=6
 lt6:∀z∈row,z<6
 up:∀x,x<6->∀y∈aQ row x,x<y
 lt1:qw (ce row).log=true
 ls1:qw (ke row)=true
 slo:nE (ce row).lo=true
 shi:nE (ce row).hi=true
 tt:rb row (ce row).log=true
 ts:rb row (ke row)=true
 nest:ul row (ce row)=true
theorem jt{a b:Nat}(h:Nat.blt a b=true):a<b:=Nat.le_of_ble_eq_true h
theorem D8{a b c d e f g h i j k l m:Bool}{p:Prop}(z:(a&&b&&c&&d&&e&&f&&g&&h&&i&&j&&k&&l&&m)=true)(q:a=true->b=true->c=true->d=true->e=true->f=true->g=true->h=true->i=true->j=true->k=true->l=true->m=true->p):p:=by simp only[Bool.and_eq_true]at z;exact q z.1.1.1.1.1.1.1.1.1.1.1.1 z.1.1.1.1.1.1.1.1.1.1.1.2 z.1.1.1.1.1.1.1.1.1.1.2 z.1.1.1.1.1.1.1.1.1.2 z.1.1.1.1.1.1.1.1.2 z.1.1.1.1.1.1.1.2 z.1.1.1.1.1.1.2 z.1.1.1.1.1.2 z.1.1.1.1.2 z.1.1.1.2 z.1.1.2 z.1.2 z.2
theorem Dn{o:Option (List Nat)}{a:List Nat}(h:(match o with|some l=>Bw l a|none=>false)=true):o=some a:=by
 induction o using Option.casesOn with
 |none=>exact en h
 |some l=>exact congrArg some (oe h)
theorem AW{a:List Nat}(h:Mine.dn a=true):D0 a:=
 D8 h λg j k l m n o p q b c d e=>⟨Dn g,λi f=>eq_of_beq (List.all_eq_true.mp j i (a7.mpr f)),λi f=>jt (List.all_eq_true.mp k i (a7.mpr f)),Nat.eq_of_beq_eq_true l,
  λz r=>jt (List.all_eq_true.mp m z r),λx s y t=>jt (List.all_eq_true.mp (List.all_eq_true.mp n x (a7.mpr s)) y t),o,p,q,b,c,d,e⟩
theorem Ks.F(K:Ks):D0 K.row:=AW K.rowB
theorem Ks.sorted(K:Ks):gj K.lt 6=some K.row:=by exact aB (Eq.symm (K.F.srt)) (jh λi j a b=>(K.row_lt a b).symm)
theorem Ks.rowAt(K:Ks):mQ K.row (pos K.row)where
 len:=K.F.len▸by decide
 at':=λi a=>by refine aB (List.findIdx?_map) ?_;exact aB (show((λy=>y==(i:Int))∘λn:Nat=>(n:Int))=λy:Nat=>y==i from funext λy=>Bool.eq_iff_iff.mpr (beq_iff_eq.trans (Int.ofNat_inj.trans beq_iff_eq.symm))) (K.F.idx i a)
theorem sg{o a b r:Int}(c:o=1\/o=-1):(if a<b then-o else if a>b then o else r)=-1↔o*a<o*b\/o*a=o*b/\r=-1:=by
 rcases Int.lt_trichotomy a b with h|h|h
 ·rw[if_pos h];rcases c with rfl|rfl<;>omega
 ·subst h;refine aB (if_neg (Int.lt_irrefl _)) (aB (if_neg (Int.lt_irrefl _)) ?_);exact⟨λe=>.inr ⟨rfl,e⟩,λe=>e.elim (λl=>(Int.lt_irrefl _ l).elim) (·.2)⟩
 ·rw[if_neg (Int.lt_asymm h),if_pos h];rcases c with rfl|rfl<;>omega
theorem Ks.agree(K:Ks){x y:Nat}(h:x<y)(a:y<6):K.lf x y=F0 K.row x y:=by exact(Bool.eq_iff_iff.mpr (beq_iff_eq.trans (((sg K.h1).trans (or_congr Iff.rfl (and_congr Iff.rfl ((sg K.h2).trans (or_congr Iff.rfl (and_congr Iff.rfl ⟨(λe=>nomatch e),λl=>absurd h (Nat.lt_asymm l)⟩)))))).trans (K.lt_iff y x).symm))).trans (K.row_lt a (Nat.lt_trans h a)).symm
theorem rX{j c:Nat->Nat->Bool}(b:Nat):∀(f a:Nat)(s:Tr),(∀p∈(c7 c b f a s).log,j p.1 p.2=c p.1 p.2)->c7 j b f a s=c7 c b f a s:=by
 intro i;induction i with
 |zero=>exact λ_ _ _=>rfl
 |succ f g=>
  intro a s h;refine aG λd=>aK (m4 c b f a s) λt e=>?_;have k:=h (a,b) (by rw[e];simp);refine d ?_;rw[du]at h;rw[du,du];simp only at k;refine aB k (aG λd=>?_);cases hl:c a b with
  |true=>
   refine d ?_;simp only[hl,if_true]at h⊢;split
   ·rfl
   ·rename_i z hz
    rw[hz]at h;exact g z _ h
  |false=>
   refine d ?_;simp only[hl,Bool.false_eq_true,if_false]at h⊢;split
   ·rfl
   ·rename_i z hz
    rw[hz]at h;exact g z _ h
theorem tz{f a:Nat->Nat->Bool}:∀(ns:List Nat)(s:Tr),(∀p∈(fH a ns s).log,f p.1 p.2=a p.1 p.2)->fH f ns s=fH a ns s:=by
 intro c;induction c with
 |nil=>exact λ_ _=>rfl
 |cons b r d=>intro s h;refine aK (nJ a r (c7 a b 6 0 s)) λt e=>?_;rw[fD]at h;rw[fD,fD];exact aB (rX b 6 0 s (λp g=>h p (by rw[e];exact List.mem_append_left _ g))) (d _ h)
theorem to{c a:Nat->Nat->Bool}(f:Nat):∀(l:List Nat)(b:List (Nat×Nat)),(∀p∈bY a f l b,c p.1 p.2=a p.1 p.2)->bY c f l b=bY a f l b:=by
 induction f with
 |zero=>exact λ_ _ _=>rfl
 |succ f g=>
  intro l b h;induction l using List.casesOn with
  |nil=>rfl
  |cons x ys=>refine aK (ef a f (ys.filter λy=>!a x y) (bY a f (ys.filter λy=>a x y) (b++ys.map λy=>(x,y)))) λt e=>aK (ef a f (ys.filter λy=>a x y) (b++ys.map λy=>(x,y))) λn k=>?_;have i:∀p∈bY a f (ys.filter λy=>a x y) (b++ys.map λy=>(x,y)),c p.1 p.2=a p.1 p.2:=λp m=>h p (e▸List.mem_append_left _ m);have j:∀y∈ys,c x y=a x y:=λy d=>i (x,y) (k▸List.mem_append_left _ (List.mem_append_right _ (List.mem_map_of_mem d)));show bY c f (ys.filter λy=>!c x y) (bY c f (ys.filter λy=>c x y) (b++ys.map λy=>(x,y)))=_;refine aB (List.filter_congr (q:=λy=>a x y) j) (aB (List.filter_congr (q:=λy=>!a x y) (λy d=>congrArg not (j y d))) ?_);exact aB (g _ _ i) (g _ _ h)
theorem iX{a:List (Nat×Nat)}(h:qw a=true):∀p∈a,p.1<p.2/\p.2<6:=by intro p b;unfold qw at h;simp only[Bool.and_eq_true]at h;have:=List.all_eq_true.mp h.1 p b;simp only[Bool.and_eq_true]at this;exact⟨jt this.1,jt this.2⟩
theorem Ks.tree_eq(K:Ks):kh K=ce K.row:=tz _ _ λp a=>by have:=iX K.F.lt1 p a;exact K.agree this.1 this.2
theorem Ks.sort_eq(K:Ks):bY K.lf 6 bh []=ke K.row:=to _ _ _ λp a=>by have:=iX K.F.ls1 p a;exact K.agree this.1 this.2
theorem fA{a:List Nat}{b:List (Nat×Nat)}(h:rb a b=true):(∀x,x<6->bj (kz b) x=aQ a x)/\(∀p∈kz b,p.2=aQ a p.1/\p.2.isEmpty=false)/\(kz b).length=(bh.filter λx=>!(aQ a x).isEmpty).length:=by unfold rb at h;rw[Bool.and_eq_true,Bool.and_eq_true]at h;refine aG λc=>?_;obtain⟨⟨d,e⟩,f⟩:=h;refine c ⟨λx g=>oe (List.all_eq_true.mp d x (a7.mpr g)),λp i=>?_,Nat.eq_of_beq_eq_true f⟩;have:=List.all_eq_true.mp e p i;simp only[Bool.and_eq_true]at this;exact⟨oe this.1,by simpa using this.2⟩
theorem oT:∀{a:List (Nat×Nat)},(∀x,((a.filter λp=>p.1==x).map (·.2)).Nodup)->a.Nodup:=by
 intro b;induction b with
 |nil=>exact@λ_=>List.nodup_nil
 |cons q a c=>
  intro h;rw[List.nodup_cons];refine⟨λd=>?_,c λx=>?_⟩
  ·have:=h q.1;rw[List.filter_cons_of_pos (by simp),List.map_cons,List.nodup_cons]at this;exact this.1 (List.mem_map.mpr ⟨q,List.mem_filter.mpr ⟨d,by simp⟩,rfl⟩)
  ·have:=h x;by_cases e:q.1=x
   ·rw[List.filter_cons_of_pos (by simpa using e),List.map_cons,List.nodup_cons]at this;exact this.2
   ·rw[List.filter_cons_of_neg (by simpa using e)]at this;exact this
theorem ea(a:List Nat)(x:Nat):(aQ a x).Nodup:=List.Pairwise.filter _ nG
theorem gH(a:List Nat)(x y:Nat)(h:y∈aQ a x):y<6:=a7.mp (List.mem_filter.mp h).1
theorem Bk(a:List Nat):FO (aQ a):=⟨λx _=>ea a x,λx _ y h=>gH a x y h⟩
theorem qx{b:List Nat}{a:List (Nat×Nat)}(c:qw a=true)(e:rb b a=true):bA a where
 nd:=oT λx=>by
  rw[<-f8];by_cases f:x<6
  ·exact aB ((fA e).1 x f) (ea b x)
  ·rw[f8,List.filter_eq_nil_iff.mpr]
   ·exact List.nodup_nil
   ·intro p d;have:=iX c p d;simp;lia
 lt:=λp d=>by have:=iX c p d;lia
 len:=by unfold qw at c;simp only[Bool.and_eq_true]at c;exact Nat.le_of_ble_eq_true c.2
theorem nF{s:List (Option Nat)}(h:nE s=true):bU s:=by unfold nE at h;simp only[Bool.and_eq_true]at h;exact⟨Nat.eq_of_beq_eq_true h.1,λz a=>jt (List.all_eq_true.mp h.2 _ a)⟩
theorem Ks.logT(K:Ks):bA (ce K.row).log:=qx K.F.lt1 K.F.tt
theorem Ks.logS(K:Ks):bA (ke K.row):=qx K.F.ls1 K.F.ts
theorem Ks.left(K:Ks)(x y:Nat)(b:x<6)(a:y∈aQ K.row x):decide (pos K.row y<pos K.row x)=K.lf x y:=by rw[K.agree (K.F.up x b y a) (gH _ _ _ a),F0,nT]
noncomputable def jk(T:Nat->Str)(E:Nat->List Nat->PyData)(A:List (Nat×List Nat)):List (Str×PyData):=A.map λp=>(T p.1,E p.1 p.2)
theorem pd(T:Nat->Str)(E:Nat->List Nat->PyData)(A:List (Nat×List Nat)):aO (jk T E A)=(A.map (·.1)).map T:=by simp[aO,jk]
theorem w5(U:Nat->List Nat):((gU U bh).map (·.1))=bh.filter λx=>!(U x).isEmpty:=by refine Eq.trans (List.map_map) ?_;show(bh.filter λx=>!(U x).isEmpty).map (λx=>x)=_;simp
theorem jz{T:Nat->Str}(a:eh T)(E:Nat->List Nat->PyData)(U:Nat->List Nat):(aO (jk T E (gU U bh))).Nodup:=by simp only[pd,w5];exact cN a (List.Pairwise.filter _ nG) (λy b=>a7.mp (List.mem_filter.mp b).1)
theorem pe{T:Nat->Str}(f:eh T)(E:Nat->List Nat->PyData){a:List Nat}{b:List (Nat×Nat)}(g:bA b)(h:rb a b=true)(i:∀x,x<6->ie 7 (E x (aQ a x)) (E x (aQ a x))=true):
  fL (bg (jk T E (kz b))) (bg (jk T E (gU (aQ a) bh)))=some true:=by
 refine eY (fA h) λ_ d j=>lE (B9 _) (tZ ?_ λq k=>?_)
 ·simp only[jk,List.length_map,gU];exact j
 ·refine aK (List.mem_map.mp k) λp l=>?_;obtain⟨c,rfl⟩:=l;have e1:=(d p c).1;have e:=g.keys p c;refine⟨E p.1 p.2,?_,by rw[e1];exact i p.1 e⟩;have m:(T p.1,E p.1 p.2)∈jk T E (gU (aQ a) bh):=by refine List.mem_map.mpr ⟨(p.1,aQ a p.1),List.mem_map.mpr ⟨p.1,List.mem_filter.mpr ⟨a7.mpr e,?_⟩,rfl⟩,by rw[e1]⟩;refine aB (Eq.symm (e1)) (aB ((d p c).2) ?_);rfl
  exact fP (jz f E _) m
noncomputable def Ci(W:Wd)(a b:Nat->Bool)(ys:List Nat):PyData:=cZ (2*rA a ys) (2*ys.length) (2*rA b ys) (jQ W.cost ys) (bg (eC W.T W.both (λy=>if a y then W.w0 else W.w1) W.cost ys))
theorem xd(n:Nat)(W:Wd)(a b:Nat->Bool)(ys:List Nat)(h:(ys.map W.T).Nodup):ie (n+3) (Ci W a b ys) (Ci W a b ys)=true:=tY _ _ _ _ _ _ _ (tX n _ _ _ _ _ h)
theorem jT{T:Nat->Str}(b:eh T)(a:List Nat)(x:Nat):((aQ a x).map T).Nodup:=cN b (ea a x) (gH a x)
theorem wU(T:List FD)(n:Nat)(e:X)(env:List V)(l:V)(st:List aA):∀(b a:List (Str×PyData)),(aO (a++b)).Nodup->a.length+b.length<=100->(∀q∈b,ev T (n+1) (.d (.str q.1)::env) e st=some (.d q.2,st))->
  u1 T (n+1) (.v 0) (.v 0) e (l::env) (b.map λq=>.str q.1) st (aO a) (bH a)=some (aO (a++b),bH (a++b),st):=by
 intro f;induction f with
 |nil=>exact λa _ _ _=>by simp
 |cons m b g=>
  obtain⟨k,v⟩:=m;intro a i hl h;have c:k∉aO a:=by intro c;refine aG λj=>?_;simp only[er,jK,List.nodup_append]at i;exact j (i.2.2 k c k (by simp) rfl)
  simp only[List.map_cons,lm];change(((ev T (n+1) (.d (.str k)::env) e st).bind λr=>(fz r.1 r.2).bind (j6 (aO a) (bH a) T (n+1) _ _ _ _ _ (.d (.str k)))))=_;refine aB (h (k,v) (List.mem_cons_self ..)) ?_;change j6 (aO a) (bH a) T (n+1) _ _ _ _ _ (.d (.str k)) (v,st)=_;refine aB (gx _ _ _ _ _ _ _ _ (by simp at hl⊢;lia)) (aB (eV c) ?_);refine aB (eP v c) ?_;simpa using(g (a++[(k,v)]) (by simpa using i) (by simp at hl⊢;lia) (λq o=>h q (List.mem_cons_of_mem _ o)))
theorem nl(st:List aA)(ps:List (Str×PyData))(k:Str):cW st (.d (bg ps)) (.d (.str k))=(gK ps k).map .d:=by show(dN (ps.map λp=>(.str p.1,p.2)) k).map V.d=_;rw[lw]
theorem BY{T:Nat->Str}(a:eh T)(E:Nat->List Nat->PyData):∀{A:List (Nat×List Nat)}{p:Nat×List Nat},(A.map (·.1)).Nodup->(∀q∈A,q.1<6)->p∈A->gK (jk T E A) (T p.1)=some (E p.1 p.2):=by
 intro A p b c d;refine fP (p:=(T p.1,E p.1 p.2)) ?_ (List.mem_map.mpr ⟨p,d,rfl⟩);rw[pd];exact cN a b (λy e=>by
  refine aK (List.mem_map.mp e) λq f=>?_;obtain⟨g,rfl⟩:=f;exact c q g)
theorem uN:∀{A:List (Nat×List Nat)}(x y:Nat),(A.map (·.1)).Nodup->((eF A x y).map (·.1)).Nodup:=by
 intro a;induction a with
 |nil=>exact@λx y _=>by simp[eF]
 |cons p r b=>
  intro x y h;simp only[List.map_cons,List.nodup_cons]at h;unfold eF;split
  ·rename_i e
   simp only[List.map_cons,List.nodup_cons];exact⟨by rw[<-e];exact h.1,h.2⟩
  ·rename_i e
   simp only[List.map_cons,List.nodup_cons];refine⟨λg=>?_,b x y h.2⟩;obtain⟨q,i,f⟩:=List.mem_map.mp g;rcases pr i with c|⟨j,d,c⟩
   ·exact e (f.symm.trans c)
   ·exact h.1 (List.mem_map.mpr ⟨j,d,c.trans f⟩)
theorem qz(a:List (Nat×Nat)):((kz a).map (·.1)).Nodup:=by
 have:∀(a:List (Nat×Nat))(A:List (Nat×List Nat)),(A.map (·.1)).Nodup->((a.foldl (λA p=>eF A p.1 p.2) A).map (·.1)).Nodup:=by
  intro a;induction a with
  |nil=>exact λA h=>h
  |cons q a b=>exact λA h=>b _ (uN _ _ h)
 exact this a [] List.nodup_nil
theorem cD:∀(p q:List Tk)(d:Nat),dh d (p++q)=(dh d p).bind λa=>dh a q
 |[],_,_=>rfl
 |.o::p,q,d=>cD p q (d+1)
 |.c::p,q,d=>by
  show(if d=0 then none else dh (d -1) (p++q))=(if d=0 then none else dh (d -1) p).bind _;split
  ·rfl
  ·exact cD p q (d -1)
 |.n _::p,q,d=>cD p q d
theorem o1{f:Type}{p a b:List f}(h:p<+:a++b):p<+:a\/∃r,p=a++r/\r<+:b:=by
 refine aG λc=>aK h λq e=>?_;rcases List.append_eq_append_iff.mp e with⟨r,e1,d⟩|⟨r,e1,d⟩
 ·exact c (.inl ⟨r,e1.symm⟩)
 ·exact c (.inr ⟨r,e1,⟨q,d.symm⟩⟩)
theorem io{d e:List (Option Nat)}{f x:Nat}{g:List Tk}(h:de d e (f+1) (some x)=some g):
  x<6/\∃a b,de d e f (d.getD x none)=some a/\de d e f (e.getD x none)=some b/\g=.o::.n x::(a++b++[.c]):=by
 exact bd (il h) λa b q=>⟨q.1,a,b,q.2.1,q.2.2.1,q.2.2.2.symm⟩
theorem qD{b c:List (Option Nat)}{f:Nat}{a:List Tk}(h:de b c f none=some a):a=[]:=by cases f<;>(cases h;rfl)
theorem im(q s:List (Option Nat)):∀(f:Nat)(g:Option Nat)(i:List Tk),de q s f g=some i->
  (∀d,dh d i=some d)/\(∀d p,p<+:i->∃e,dh d p=some (d+e))/\∀d r,cq (d+1) (i++r)=i.length+cq (d+1) r
 :=λf=>by
 have nil:∀(f:Nat)(i:List Tk),de q s f none=some i->(∀d,dh d i=some d)/\(∀d p,p<+:i->∃e,dh d p=some (d+e))/\∀d r,cq (d+1) (i++r)=i.length+cq (d+1) r:=λf i h=>by refine aB (qD h) ⟨λd=>rfl,λd p k=>?_,λd r=>by simp⟩;exact aB (List.prefix_nil.mp k) ⟨0,rfl⟩
 induction f with
 |zero=>
  intro g i h;induction g using Option.casesOn with
  |none=>exact nil _ i h
  |some x=>exact(aN h)
 |succ f u=>
  intro g i h;induction g using Option.casesOn with
  |none=>exact nil _ i h
  |some x=>
  refine aG λl=>?_;obtain⟨F,a,b,y,z,rfl⟩:=io h;refine eY (u _ a y) λm A B=>eY (u _ b z) λv C D=>l ⟨λd=>?_,λd p k=>?_,λd r=>?_⟩
  ·show dh (d+1) (a++b++[.c])=some d;simp only[List.append_assoc,cD,m,Option.bind_some,cD,v];rfl
  ·rcases List.prefix_cons_iff.mp k with rfl|⟨t,rfl,j⟩
   ·exact⟨0,rfl⟩
   ·rcases List.prefix_cons_iff.mp j with rfl|⟨w,rfl,n⟩
    ·exact⟨1,rfl⟩
    ·show∃e,dh (d+1) w=some (d+e);rcases List.prefix_concat_iff.mp n with rfl|j
     ·refine⟨0,?_⟩;simp only[List.append_assoc,cD,m,Option.bind_some,cD,v];rfl
     ·rcases o1 j with j|⟨r,rfl,E⟩
      ·obtain⟨e,o⟩:=A (d+1) w j;exact⟨1+e,by rw[o];congr 1;lia⟩
      ·obtain⟨e,o⟩:=C (d+1) r E;exact⟨1+e,by rw[cD,m,Option.bind_some,o];congr 1;lia⟩
  ·show 1+(1+cq (d+2) ((a++b++[.c])++r))=_;simp only[((by simp:(a++b++[Tk.c])++r=a++(b++(.c::r)))),B (d+1),D (d+1)];show 1+(1+(a.length+(b.length+(if Nat.ble (d+2) 1 then 1 else 1+cq (d+1) r))))=_;refine aB (if_neg (by simp)) ?_;simp;lia
structure F8(M:List Tk):Prop where
 bal:dh 0 M=some 0
 last:∃M',M=M'++[.c]
 no:∀p q,M=p++q->p≠[]->q≠[]->dh 0 p≠some 0
theorem yg{l m:List (Option Nat)}{f x:Nat}{g:List Tk}(h:de l m f (some x)=some g):F8 g/\(∃y,g=.o::.n x::y)/\∀r,cq 0 (g++r)=g.length:=by
 induction f using Nat.casesOn with
 |zero=>cases h
 |succ f=>
  refine aG λs=>?_;obtain⟨K,a,b,z,A,e⟩:=io h;refine eY (im l m f _ a z) λB C D=>eY (im l m f _ b A) λL E F=>s ⟨⟨(im l m (f+1) _ g h).1 0,⟨.o::.n x::(a++b),by rw[e];simp⟩,?_⟩,⟨_,e⟩,?_⟩
  ·intro p q i G H j;have d:p<+:g:=⟨q,i.symm⟩;replace d:=e▸d;rcases List.prefix_cons_iff.mp d with rfl|⟨t,rfl,k⟩
   ·exact G rfl
   ·rcases List.prefix_cons_iff.mp k with rfl|⟨w,rfl,u⟩
    ·simp[dh]at j
    ·have j:dh 1 w=some 0:=j;rcases List.prefix_concat_iff.mp u with rfl|k
     ·rw[e]at i;have:=congrArg List.length i;simp at this;exact H this
     ·rcases o1 k with k|⟨r,rfl,I⟩
      ·obtain⟨J,v⟩:=C 1 w k;rw[v]at j;simp at j
      ·obtain⟨J,v⟩:=E 1 r I;simp only[cD,B,Option.bind_some,v]at j;simp at j
  ·intro r;refine aB e ?_;show 1+(1+cq 1 ((a++b++[.c])++r))=_;simp only[((by simp:(a++b++[Tk.c])++r=a++(b++(.c::r)))),D 0,F 0];show 1+(1+(a.length+(b.length+1)))=_;simp;lia
theorem l0(p q:List (Option Nat))(k:Nat):∀(f:Nat)(l:Option Nat)(g:List Tk),de p q f l=some g->.n k∈g->
  ∃A M R i,g=A++(M++R)/\M=.o::.n k::i/\F8 M/\∀r,cq 0 (M++r)=M.length
 |f,none,g,h,d=>by rw[qD h]at d;cases d
 |0,some _,g,h,_=>by cases h
 |f+1,some x,g,h,d=>by
  refine aG λj=>eY (yg h) λm s y=>?_;obtain⟨i,z⟩:=s;obtain⟨D,a,b,B,C,e⟩:=io h;rw[e]at d;simp at d;rcases d with rfl|d|d
  ·exact j (vg ([]) g ([]) i ⟨by simp,z,m,y⟩)
  ·refine j ?_;obtain⟨A,M,R,i,t,u,v,w⟩:=l0 p q k f _ a B d;exact vg (.o::.n x::A) M (R++(b++[.c])) i ⟨((by rw[e,t];simp:g=(.o::.n x::A)++(M++(R++(b++[.c]))))),u,v,w⟩
  ·refine j ?_;obtain⟨A,M,R,i,t,u,v,w⟩:=l0 p q k f _ b C d;exact⟨.o::.n x::(a++A),M,R++[.c],i,by rw[e,t];simp,u,v,w⟩
theorem fu:∀a b:List Tk,b8 (a++b)=b8 a++b8 b
 |[],_=>rfl
 |.o::a,b=>fu a b
 |.c::a,b=>fu a b
 |.n k::a,b=>congrArg (k::·) (fu a b)
theorem cJ{k:Nat}:∀{a:List Tk},k∈b8 a↔Tk.n k∈a
 |[]=>by simp[b8]
 |.o::a=>by show k∈b8 a↔_;rw[cJ];simp
 |.c::a=>by show k∈b8 a↔_;rw[cJ];simp
 |.n j::a=>by show k∈j::b8 a↔_;rw[List.mem_cons,List.mem_cons,cJ];simp
theorem oS:∀{l:List Nat},oR l=true->l.Nodup:=by
 intro a;induction a with
 |nil=>exact@λ_=>List.nodup_nil
 |cons x r b=>intro h;replace h:=Bool.and_eq_true_iff.mp (h:(r.all (λy=>!(Nat.beq x y))&&oR r)=true);rw[List.nodup_cons];refine⟨λc=>?_,b h.2⟩;have:=List.all_eq_true.mp h.1 x c;simp at this
theorem xq:∀(A R:List Tk)(k i:Nat),.n k∉A->zX (A++.o::.n k::R) k i=i+A.length:=by
 intro a;induction a with
 |nil=>exact λR k i _=>(if_pos (Nat.beq_refl k):(if FW k (.n k)=true then(i+1) -1 else _)=i)
 |cons t A b=>
  intro R k i h;have d:FW k t=false:=by
   induction t using Tk.casesOn with
   |o=>rfl
   |c=>rfl
   |n j=>have:j≠k:=λe=>h (by rw[e];exact List.mem_cons_self ..);rw[<-Bool.not_eq_true];exact λf=>this (Nat.eq_of_beq_eq_true f)
  show(if FW k t then i -1 else zX (A++.o::.n k::R) k (i+1))=_;refine aB d (aB (if_neg (by simp)) ?_);refine aB (b R k (i+1) (λg=>h (List.mem_cons_of_mem _ g))) ?_;simp;lia
structure DZ(row:List Nat)(lo hi:List (Option Nat))(ts:List Tk):Prop where
 nest:de lo hi 7 (some 0)=some ts
 len:ts.length=18
 f0:km ts 0=0
 b0:mv ts 0=18
 sub:∀k,k<6->∃A M R M',ts=A++(M++R)/\M=.o::.n k::M'/\F8 M/\.n k∉A/\.n k∉M'++R/\km ts k=A.length/\mv ts k=A.length+M.length
 under:∀x,x<6->aQ row x=bh.filter λy=>decide (km ts x<km ts y)&&decide (mv ts y<=mv ts x)
theorem yf{c:List Nat}{t:Tr}(h:ul c t=true):∃a,DZ c t.lo t.hi a:=by
 unfold ul at h;split at h
 ·exact en h
 ·rename_i a hn
  simp only[Bool.and_eq_true]at h;refine aG λb=>?_;obtain⟨⟨⟨⟨⟨q,r⟩,s⟩,u⟩,v⟩,w⟩:=h;have d:=oS r;have J:=Nat.eq_of_beq_eq_true s;refine b ⟨a,hn,Nat.eq_of_beq_eq_true q,Nat.eq_of_beq_eq_true u,Nat.eq_of_beq_eq_true v,λk e=>?_,λx z=>?_⟩
  ·have f:k∈b8 a:=by
    apply Classical.byContradiction;intro f;have:=jM (l:=k::b8 a) (List.nodup_cons.mpr ⟨f,d⟩) (λy g=>by
     rcases List.mem_cons.mp g with rfl|g
     ·exact e
     ·exact((λk e=>(qC t.lo t.hi 7 _ a hn) _ (cJ.mp e):∀k∈b8 a,k<6)) y g)
    simp at this;lia
   refine aG λb=>c8 (l0 t.lo t.hi k 7 _ a hn (cJ.mp f)) λA M R i B=>ko B λe1 j C D=>?_;have E:b8 a=b8 A++k::b8 (i++R):=by refine aB e1 (aB j ?_);rw[fu];rfl
   rw[E,List.nodup_append]at d;refine eY d λ_ m F=>?_;rw[List.nodup_cons]at m;have o:.n k∉A:=λG=>F k (cJ.mpr G) k (by simp) rfl;have H:.n k∉i++R:=λI=>m.1 (cJ.mpr I);have p:km a k=A.length:=by refine aB e1 (aB j ?_);refine Eq.trans (xq A _ k 0 o) ?_;simp
   refine b (vg A M R i ⟨e1,j,C,o,H,p,?_⟩);unfold mv;refine aB p ?_;simp only[e1,List.drop_left,D]
  ·refine Eq.trans (oe (List.all_eq_true.mp w x (a7.mpr z))) (List.filter_congr λy _=>?_);rw[nT]
   congr 1
   exact Bool.eq_iff_iff.mpr ⟨λh=>decide_eq_true (Nat.le_of_ble_eq_true h),λh=>Nat.ble_eq_true_of_le (of_decide_eq_true h)⟩
noncomputable def ze:Nat->List Nat
  |1=>[92,41]|2=>[34,40,34]|3=>[92,40]|4=>[92,34]|5=>[92,92]|6=>[34,92,34,40,34]|_=>[]
noncomputable def Ae:Nat->List Nat
  |1=>[92,41]|3=>[92,40]|4=>[92,34]|5=>[92,92]|_=>[]
noncomputable def qH(k h:Nat):List Nat:=(97+k)::ze h
noncomputable def y9(k f:Nat)(l:List Nat):List Nat:=match f with
  |0=>[120,58]++[49+k]++[40]++l++[41]
  |1=>[126,58]++[49+k]++[40]++l++[41]
  |2=>[120,58,48,40,60]++l++[62,41]
  |3=>[123]++l++[125]
  |4=>l
  |5=>[60]++l
  |_=>l++[62]
noncomputable def hX(k f:Nat)(l:List Nat):PyData:=match f with
  |0=>.tuple [.str (tx [120]),.int ((k:Int)+1),.str (tx l)]
  |1=>.tuple [.str (tx [126]),.int ((k:Int)+1),.str (tx l)]
  |2=>.tuple [.str (tx [120]),.int 0,.str (tx ([60]++l++[62]))]
  |3=>.tuple [.str (tx [126]),.int 0,.str (tx ([60]++l++[62]))]
  |4=>.tuple [.str (tx [126]),.int 0,.str (tx l)]
  |5=>.tuple [.str (tx [126]),.int 0,.str (tx ([60]++l))]
  |_=>.tuple [.str (tx [126]),.int 0,.str (tx (l++[62]))]
noncomputable def jd(g:Nat)(l:List Nat):List Nat:=match g with
  |0=>l
  |1=>[120,46]++l
  |2=>[120,46,121,46]++l++[58,32,110,111,46,120,58,32,121]
  |3=>l++[10,120,46,121,58,32,122]
  |4=>[120,46]++l++[58,10]
  |5=>l++[58,32,120]
  |_=>[120,46]++l++[10,121,46,122,10,119,58,32,118]
theorem zf{P:Nat->Prop}(h:P 0/\P 1/\P 2/\P 3/\P 4/\P 5/\P 6/\P 7):∀x,x<8->P x
  |0,_=>h.1|1,_=>h.2.1|2,_=>h.2.2.1|3,_=>h.2.2.2.1|4,_=>h.2.2.2.2.1|5,_=>h.2.2.2.2.2.1|6,_=>h.2.2.2.2.2.2.1|7,_=>h.2.2.2.2.2.2.2
  |n+8,a=>absurd a (by lia)
theorem lt6{P:Nat->Prop}(h:P 0/\P 1/\P 2/\P 3/\P 4/\P 5):∀x,x<6->P x
  |0,_=>h.1|1,_=>h.2.1|2,_=>h.2.2.1|3,_=>h.2.2.2.1|4,_=>h.2.2.2.2.1|5,_=>h.2.2.2.2.2
  |n+6,a=>absurd a (by lia)
theorem Do{k:Nat}(b:k<6){acc h hs r:List Nat}(e:∀acc,sq false false acc [] (h++r)=sq false false (acc++hs) [] r):sq false false acc [] ((97+k)::h++r)=sq false false (acc++(97+k)::hs) [] r:=
  (q6 acc [] (97+k) (h++r)).trans ((if_neg (λq:97+k=92=>absurd (q▸Nat.le_add_right 97 k:97<=92) (by decide))).trans ((if_neg (λq:97+k=34=>absurd (q▸Nat.le_add_right 97 k:97<=34) (by decide))).trans ((e _).trans (congrArg (λa=>sq false false a [] r) (List.append_cons ..).symm))))
theorem H5(hN:Nat->Nat)(d:∀k,hN k<8):zl (λk=>qH k (hN k)) (λk=>(97+k)::Ae (hN k))where
  head:=λk _=>⟨ze (hN k),rfl,by
    have key:∀x,x<8->∀c∈ze x,c<97:=zf (by decide);exact key _ (d k)⟩
  last:=λk b i h=>by
    have key:∀x,x<8->∀k,k<6->(qH k x).length<=8/\∀i,i<8->(qH k x)[i]?=some 41->i+1=(qH k x).length:=by decide+kernel
    exact cx (key _ (d k) k b) λf g=>g i (Nat.lt_of_lt_of_le (List.getElem?_eq_some_iff.mp h).1 f) h
  strip:=λk b acc r=>by
    have key:∀x,x<8->∀k,k<6->sq false false acc [] (qH k x++r)=sq false false (acc++(97+k)::Ae x) [] r:=by
      refine zf ⟨?_,?_,?_,?_,?_,?_,?_,?_⟩<;>intro k b<;>refine Do b ?_<;>first
        |exact λacc=>congrArg (λa=>sq false false a [] r) (List.append_nil acc).symm
        |exact λacc=>congrArg (λa=>sq false false a [] r) (List.append_assoc acc _ _)
    exact key _ (d k) k b
  neut:=λk b o r=>by
    have key:∀x,x<8->∀k,k<6->di false o ((97+k)::Ae x++r)=di false o r:=by refine zf ⟨?_,?_,?_,?_,?_,?_,?_,?_⟩<;>exact lt6 ⟨rfl,rfl,rfl,rfl,rfl,rfl⟩
    exact key _ (d k) k b
  len:=λk _=>by refine aG λe=>?_;have:=((zf (by decide):∀x,x<8->(ze x).length<=5)) _ (d k);refine e ?_;simp[qH];lia
noncomputable def uk(k:Nat)(l:List Nat):Bool:=l.all (λc=>!(c==46)&&c<1000)&&((l.filter λc=>c==97+k).length==1)&&bh.all (λj=>j==k||l.all λc=>!(c==97+j))&&decide (l.length<=18)
theorem x5:(bh.all λk=>(List.range 8).all λh=>(List.range 7).all λf=>uk k (y9 k f (qH k h)))=true:=by decide+kernel
theorem lS{k h f:Nat}(a:k<6)(b:h<8)(c:f<7):uk k (y9 k f (qH k h))=true:=
  List.all_eq_true.mp (List.all_eq_true.mp (List.all_eq_true.mp x5 k (a7.mpr a)) h (List.mem_range.mpr b)) f (List.mem_range.mpr c)
theorem sZ{c:Nat}:∀{l:List Nat},(l.filter λx=>x==c).length=1->∃u v,l=u++c::v/\c∉u/\c∉v:=by
  intro a;induction a with
  |nil=>exact@λh=>by simp at h
  |cons x l b=>
    intro h;by_cases e:x=c
    · subst e
      rw[List.filter_cons_of_pos (by simp)]at h;refine j7 ([]) l ⟨rfl,by simp,λd=>?_⟩;simp at h;exact h x d rfl
    · rw[List.filter_cons_of_neg (by simpa using e)]at h
      exact bd (b h) λu v f=>eY f λe1 g i=>j7 (x::u) v ⟨by rw[e1];rfl,by simp;exact⟨λj=>e j.symm,g⟩,i⟩
structure Ge(k:Nat)(l:List Nat):Prop where
  dot:46∉l
  small:∀c∈l,c<1000
  own:∃u v,l=u++(97+k)::v/\(97+k)∉u/\(97+k)∉v
  other:∀j,j<6->j≠k->(97+j)∉l
  len:l.length<=18
theorem sO{k:Nat}{l:List Nat}(h:uk k l=true):Ge k l:=by
  unfold uk at h;simp only[Bool.and_eq_true]at h;obtain⟨⟨⟨d,e⟩,f⟩,g⟩:=h;refine⟨λa=>?_,λc hc=>?_,sZ (by simpa using e),λj i b a=>?_,by simpa using g⟩
  · have:=List.all_eq_true.mp d 46 a
    simp at this
  · have:=List.all_eq_true.mp d c hc
    simp at this;exact this.2
  · have:=List.all_eq_true.mp f j (a7.mpr i)
    simp only[Bool.or_eq_true]at this;rcases this with h|h
    · exact b (by simpa using h)
    · have:=List.all_eq_true.mp h _ a
      simp at this
section
variable(hN fN:Nat->Nat)(h8:∀k,hN k<8)(f7:∀k,fN k<7)
noncomputable def F7(k:Nat):List Nat:=y9 k (fN k) (qH k (hN k))
include h8 f7
theorem Du(k:Nat)(a:k<6):Ge k (F7 hN fN k):=sO (lS a (h8 k) (f7 k))
theorem we:eh (λk=>tx (F7 hN fN k)):=by intro i j b c e;apply Classical.byContradiction;intro a;exact bd ((Du hN fN h8 f7 i b).own) λu v d=>cx d λe1 _=>(Du hN fN h8 f7 j c).other i b a (by rw[<-(y8 e),e1];simp)
theorem yV(k:Nat)(a:k<6):PyData.strOk (tx (F7 hN fN k))=true:=by have:=(Du hN fN h8 f7 k a).small;refine Eq.trans (Eq.symm (Array.all_toList)) ?_;rw[gG,List.all_eq_true];intro c hc;have:=this c hc;simp;lia
theorem H1:iw (λk=>F7 hN fN k++[10])where
  dot:=λk a=>by have:=(Du hN fN h8 f7 k a).dot;simp[this]
  own:=λk a=>by exact bd ((Du hN fN h8 f7 k a).own) λu v c=>eY c λe d f=>j7 u (v++[10]) ⟨by rw[e];simp,d,by simp;exact⟨f,by lia⟩⟩
  other:=λk a j g b=>by have:=(Du hN fN h8 f7 j g).other k a (Ne.symm b);simp[this];lia
  len:=λk a=>by have:=(Du hN fN h8 f7 k a).len;simp;lia
end
end Mine
end
noncomputable section
open PySem PySem.Calls PySem.Spec PySem.W PyProof.Rows Builtin.Str
set_option backward.match.sparseCases false
namespace Mine
noncomputable def sC(i d:Int):Int:=if i>=0 then i else d
noncomputable def DS(x:Str):Option PyData:=
 (ig x ":" 0 (sC (Txt.find x "\n") x.length)).bind λi=>
 (fw x "." 0 (sC i (sC (Txt.find x "\n") x.length))).bind λj=>
 iq (.str x) (some (if j>=0 then j+1 else 0)) (some (sC i (sC (Txt.find x "\n") x.length)))
theorem oV:Str.ofString ":"=tx [58]:=by decide+kernel
theorem Ds(n:Nat)(st:List aA)(l:List Nat)(d:PyData)(hl:l.length<=500)(h:DS (tx l)=some d):callf aH (n+40) 4 [.d (.str (tx l))] st=some (d,st):=by
 have k:=λst=>f6 st l (Nat.le_trans hl (by decide));have m:∀st,d7 st .find (.d (.str (tx l))) [.d (.str "\n")]=some (.d (.int (Txt.find (tx l) "\n")),st):=λst=>rfl;unfold DS at h;rw[dA]at h;refine dT.trans ?_;generalize Txt.find (tx l) "\n"=i0 at*;cases q:ig (tx l) ":" 0 (sC i0 l.length)with
 |none=>rw[q]at h;exact aN h
 |some i=>
  replace h:=q▸h;refine aG λo=>?_;cases r:fw (tx l) "." 0 (sC i (sC i0 l.length))with
  |none=>refine o ?_;replace h:(fw (tx l) "." 0 (sC i (sC i0 l.length))).bind _=_:=h;rw[r]at h;exact aN h
  |some j=>
   refine o ?_;replace h:(fw (tx l) "." 0 (sC i (sC i0 l.length))).bind _=_:=h;rw[r]at h;replace h:iq (.str (tx l)) (some (if j>=0 then j+1 else 0)) (some (sC i (sC i0 l.length)))=some d:=h;have c:=λst:List aA=>congrArg (Option.bind · λi=>some (V.d (.int i),st)) q;have a:=λst:List aA=>congrArg (Option.bind · λi=>some (V.d (.int i),st)) r;unfold sC at h c a;have s:∀e,(∀st,(ig (tx l) ":" 0 e).bind (λi=>some (V.d (.int i),st))=some (V.d (.int i),st))->∀st,d7 st .find (.d (.str (tx l))) [.d (.str ":"),.d (.int 0),.d (.int e)]=some (.d (.int i),st):=λ_ h=>h;have p:∀e,(∀st,(fw (tx l) "." 0 e).bind (λi=>some (V.d (.int i),st))=some (V.d (.int j),st))->∀st,d7 st .rfind (.d (.str (tx l))) [.d (.str "."),.d (.int 0),.d (.int e)]=some (.d (.int j),st):=λ_ h=>h;by_cases c0:i0>=0
   ·rw[if_pos c0]at h a;rw[if_pos c0]at c;replace c:=s _ c;by_cases f:i>=0
    ·rw[if_pos f]at h a;replace a:=p _ a;by_cases b:j>=0
     ·rw[if_pos b]at h;exact dR (zs 1 (1::1::1::1::1::1::1::[])) λg=>g _ _ (k _) _ _ (m _) _ (tb (decide_eq_true c0)) _ _ (c _) _ (tb (decide_eq_true f)) _ _ (a _) _ (tb (decide_eq_true b)) _ h bF
     ·rw[if_neg b]at h;exact dR (zs 1 (1::1::1::1::1::1::zs 1 ([]))) λg=>g _ _ (k _) _ _ (m _) _ (tb (decide_eq_true c0)) _ _ (c _) _ (tb (decide_eq_true f)) _ _ (a _) _ (tb (decide_eq_false b)) _ h bF
    ·rw[if_neg f]at h a;replace a:=p _ a;by_cases b:j>=0
     ·rw[if_pos b]at h;exact dR (zs 1 (1::1::1::1::1::1::1::[])) λg=>g _ _ (k _) _ _ (m _) _ (tb (decide_eq_true c0)) _ _ (c _) _ (tb (decide_eq_false f)) _ _ (a _) _ (tb (decide_eq_true b)) _ h bF
     ·rw[if_neg b]at h;exact dR (zs 1 (1::1::1::1::1::1::zs 1 ([]))) λg=>g _ _ (k _) _ _ (m _) _ (tb (decide_eq_true c0)) _ _ (c _) _ (tb (decide_eq_false f)) _ _ (a _) _ (tb (decide_eq_false b)) _ h bF
   ·rw[if_neg c0]at h a;rw[if_neg c0]at c;replace c:=s _ c;by_cases f:i>=0
    ·rw[if_pos f]at h a;replace a:=p _ a;by_cases b:j>=0
     ·rw[if_pos b]at h;exact dR (zs 1 (1::1::1::1::1::1::1::[])) λg=>g _ _ (k _) _ _ (m _) _ (tb (decide_eq_false c0)) _ _ (c _) _ (tb (decide_eq_true f)) _ _ (a _) _ (tb (decide_eq_true b)) _ h bF
     ·rw[if_neg b]at h;exact dR (zs 1 (1::1::1::1::1::1::zs 1 ([]))) λg=>g _ _ (k _) _ _ (m _) _ (tb (decide_eq_false c0)) _ _ (c _) _ (tb (decide_eq_true f)) _ _ (a _) _ (tb (decide_eq_false b)) _ h bF
    ·rw[if_neg f]at h a;replace a:=p _ a;by_cases b:j>=0
     ·rw[if_pos b]at h;exact dR (zs 1 (1::1::1::1::1::1::1::[])) λg=>g _ _ (k _) _ _ (m _) _ (tb (decide_eq_false c0)) _ _ (c _) _ (tb (decide_eq_false f)) _ _ (a _) _ (tb (decide_eq_true b)) _ h bF
     ·rw[if_neg b]at h;exact dR (zs 1 (1::1::1::1::1::1::zs 1 ([]))) λg=>g _ _ (k _) _ _ (m _) _ (tb (decide_eq_false c0)) _ _ (c _) _ (tb (decide_eq_false f)) _ _ (a _) _ (tb (decide_eq_false b)) _ h bF
noncomputable def Ha(x:Str)(y:List Nat):Bool:=match DS x with
 |some (.str z)=>z==tx y
 |_=>false
noncomputable def Fn(k:Nat):Bool:=(List.range 8).all λh=>(List.range 7).all λg=>Ha (tx (jd g (qH k h))) (qH k h)
theorem A1:∀k,k<6->Fn k=true
 |0,_=>by decide+kernel
 |1,_=>by decide+kernel
 |2,_=>by decide+kernel
 |3,_=>by decide+kernel
 |4,_=>by decide+kernel
 |5,_=>by decide+kernel
 |n+6,h=>absurd h (by lia)
theorem Dr{x:Str}{y:List Nat}(h:Ha x y=true):DS x=some (.str (tx y)):=by
 unfold Ha at h;generalize DS x=o at*;induction o using Option.casesOn with
 |none=>exact en h
 |some d=>
  induction d using PyData.casesOn with
  |str z=>exact congrArg (λz=>some (PyData.str z)) (eq_of_beq h)
  |_=>exact en h
theorem AY{k h g:Nat}(a:k<6)(b:h<8)(c:g<7):DS (tx (jd g (qH k h)))=some (.str (tx (qH k h))):=by have:=List.all_eq_true.mp (List.all_eq_true.mp (A1 k a) h (List.mem_range.mpr b)) g (List.mem_range.mpr c);exact Dr this
theorem jb:Str.ofString "~"=tx [126]:=by decide+kernel
theorem cP:Str.ofString "<"=tx [60]:=by decide+kernel
theorem cO:Str.ofString ">"=tx [62]:=by decide+kernel
theorem sA(a:List Nat)(i:Int)(c:PyData.strOk (tx a)=true)(st:List aA):dt st .Eq (.d (.tuple [.str (tx a),.int i])) (.d (.tuple [.str "~",.int 0]))=some ((a==[126])&&(i==0),st):=by
 have b:∀a i,PyData.strOk (tx a)=true->d0 (.tuple [.str (tx a),.int i])=true:=λa i h=>by simp[d0,SeqAt.shaped,PyData.canLay0,PyData.canLayAll0,PyData.depth,PyData.depthAll,h]
 have e:PyData.eqv (.tuple [.str (tx a),.int i]) (.tuple [.str (tx [126]),.int 0])=((a==[126])&&(i==0)):=by rw[<-gp];exact congrArg (_&&·) (Bool.and_true _)
 refine aB jb ?_;show(if(d0 (.tuple [.str (tx a),.int i])&&d0 (.tuple [.str (tx [126]),.int 0]))=true then some (PyData.eqv (.tuple [.str (tx a),.int i]) (.tuple [.str (tx [126]),.int 0]))else _).bind (λe=>some (e,st))=_;refine aB (b _ _ c) (aB (b _ _ (by decide+kernel)) ?_);refine aB e ?_;rfl
theorem jF(n:Nat)(st:List aA)(a l:List Nat)(i:Int)(b:Str)(c:PyData.strOk (tx a)=true)(h:((a==[126])&&(i==0))=false)(f:nh "%s:%d(%s)" (.d (.tuple [.str (tx a),.int i,.str (tx l)]))=some (.d (.str b))):
  callf aH (n+30) 0 [.d (.tuple [.str (tx a),.int i,.str (tx l)])] st=some (.str b,st):=by
 have e:=sA a i c;replace e:=h▸e;exact ci.trans (dR (1::1::[]) λg=>g _ _ (e _) _ f bF)
theorem lL(n:Nat)(st:List aA)(l:List Nat)(h:([60].isPrefixOf l&&[62].isSuffixOf l)=false):
  callf aH (n+30) 0 [.d (.tuple [.str (tx [126]),.int 0,.str (tx l)])] st=some (.str (tx l),st):=by
 have e:=sA [126] 0 (by decide+kernel);have a:=λst=>fy st l [60];have c:=λst=>iK st l [62];rw[<-cP]at a;rw[<-cO]at c;refine ci.trans (aG λb=>?_);cases f:[60].isPrefixOf l with
 |false=>refine b ?_;rw[f]at a;exact dR (1::3::[]) λg=>g _ _ (e _) _ _ (a _) bF
 |true=>refine b ?_;rw[f]at a h;rw[(Bool.true_and _).symm.trans h]at c;exact dR (1::3::2::[]) λg=>g _ _ (e _) _ _ (a _) _ _ (c _) bF
theorem GQ(a b c:PyData):bV [a,b,c] 2=some c:=ba [a,b,c] 2 (Nat.le_refl 3) (by decide)
theorem Dm(l:List Nat)(hl:l.length<=500):iq (.str (tx ([60]++l++[62]))) (some 1) (some (-1))=some (.str (tx l)):=by
 refine Eq.trans (if_pos (bb (by simp;lia))) ?_;have e:Txt.slice (tx ([60]++l++[62])) (some 1) (some (-1))=Txt.slice (tx ([60]++l++[62])) (some ((1:Nat):Int)) (some ((l.length+1:Nat):Int)):=by unfold Txt.slice;rw[StrLaws.sliceIdx_neg_hi _ _ (by lia) (by simp;lia),dA];refine aB (show((-1:Int)+((([60]++l++[62]:List Nat).length:Nat):Int))=((l.length+1:Nat):Int) by simp;lia) ?_;rfl
 refine aB e (aB (jg _ (by lia) (by simp)) ?_);simp
theorem vp(n:Nat)(st:List aA)(l:List Nat)(hl:l.length<=500):
  callf aH (n+30) 0 [.d (.tuple [.str (tx [126]),.int 0,.str (tx ([60]++l++[62]))])] st=some (.str (tx ([123]++l++[125])),st):=by
 have c:=Dm l hl;have a:=λst=>fy st ([60]++l++[62]) [60];have b:=λst=>iK st ([60]++l++[62]) [62];rw[show[60].isPrefixOf ([60]++l++[62])=true from rfl,<-cP]at a;rw[show[62].isSuffixOf ([60]++l++[62])=true from List.isSuffixOf_iff_suffix.mpr (List.suffix_append ..),<-cO]at b;have e:p7 "{%s}" (.d (.str (tx l)))=some (.d (.str (tx ([123]++l++[125])))):=by refine Eq.trans (if_pos ⟨rfl,by simp;lia⟩) ?_;simp only[show Str.ofString "{"=tx [123] by decide+kernel,show Str.ofString "}"=tx [125] by decide+kernel,jS,jS]
 refine ci.trans ?_;generalize[60]++l++[62]=m at*;exact dR (1::3::2::1::zs 1 ([])) λg=>g _ _ ((sA [126] 0 (by decide+kernel)) _) _ _ (a _) _ _ (b _) _ c _ e bF
theorem rZ:∀k:Nat,k<6->Str.ofString (toString ((k:Int)+1))=tx [49+k]
 |0,_=>by decide+kernel
 |1,_=>by decide+kernel
 |2,_=>by decide+kernel
 |3,_=>by decide+kernel
 |4,_=>by decide+kernel
 |5,_=>by decide+kernel
 |n+6,h=>absurd h (by lia)
theorem Ej:Str.ofString (toString (0:Int))=tx [48]:=by decide+kernel
theorem ou(a l d:List Nat)(i:Int)(e:a.length<=100)(hl:l.length<=100)(b:0<=i)(f:i<100)(c:Str.ofString (toString i)=tx d):nh "%s:%d(%s)" (.d (.tuple [.str (tx a),.int i,.str (tx l)]))=some (.d (.str (tx (a++[58]++d++[40]++l++[41])))):=by show(if("%s:%d(%s)":Str)="%s:%d(%s)"/\(tx a).length<=100000/\(tx l).length<=100000/\0<=i/\i<10^10 then some (V.d (.str (tx a++(":":Str)++Str.ofString (toString i)++("(":Str)++tx l++(")":Str))))else none)=_;refine aB (if_pos ⟨rfl,by simp;lia,by simp;lia,b,by lia⟩) (aB oV ?_);refine aB cL (aB cK ?_);refine aB c ?_;simp only[jS]
theorem xp(n:Nat)(st:List aA)(k:Nat)(g:k<6)(f:Nat)(i:f<7)(l:List Nat)(hl:l.length<=50)(e:[60].isPrefixOf l=false)(j:[62].isSuffixOf l=false)(b:[62].isSuffixOf ([60]++l)=false)(c:[60].isPrefixOf (l++[62])=false):
  callf aH (n+30) 0 [.d (hX k f l)] st=some (.str (tx (y9 k f l)),st):=by
 have a:PyData.strOk (tx [120])=true:=by decide+kernel
 have h:callf aH (n+30) 0 [.d (.tuple [.str (tx [126]),.int 0,.str (tx (l++[62]))])] st=some (.str (tx (l++[62])),st):=lL n st _ (by rw[c];rfl);exact zf (P:=λf=>callf aH (n+30) 0 [.d (hX k f l)] st=some (.str (tx (y9 k f l)),st)) ⟨jF n st [120] l _ _ a rfl (ou [120] l _ _ (by decide) (by lia) (by lia) (by lia) (rZ k g)),
  jF n st [126] l _ _ (by decide+kernel) (by simp;lia) (ou [126] l _ _ (by decide) (by lia) (by lia) (by lia) (rZ k g)),
  (by
   have:=jF n st [120] ([60]++l++[62]) 0 _ a rfl (ou [120] _ _ _ (by decide) (by simp;lia) (by lia) (by lia) Ej);rw[show[120]++[58]++[48]++[40]++([60]++l++[62])++[41]=[120,58,48,40,60]++l++[62,41] by simp]at this;exact this),
  vp n st l (Nat.le_trans hl (by decide)),lL n st l (by rw[e];rfl),lL n st _ (by rw[b,Bool.and_false]),h,h⟩ f (Nat.lt_succ_of_lt i)
end Mine
end
noncomputable section
open PySem PySem.Calls PySem.Spec PySem.W PyProof.Rows Builtin.Str
namespace Mine
noncomputable def dg(b F:Int)(k:Nat):Nat:=((F.fdiv (b^k)).fmod b).toNat
theorem tR{b:Int}(a:0<b)(F:Int)(k:Nat):dg b F k<b.toNat:=by exact(Int.toNat_lt_toNat a).mpr (Int.fmod_lt_of_pos (F.fdiv (b^k)) a)
theorem rY{b:Int}(a:0<b)(F:Int)(k:Nat):(F.fdiv (b^k)).fmod b=(dg b F k:Int):=by exact(Int.toNat_of_nonneg (Int.fmod_nonneg_of_pos (F.fdiv (b^k)) a)).symm
theorem tc(b:Int)(a:b=7\/b=8)(k:Nat)(c:k<6):eI .Pow (.d (.int b)) (.d (.int k))=some (.d (.int (b^k))):=by show(if 0<=(k:Int)/\(k:Int)<=1000000/\b.natAbs<2^64 then some (V.d (.int (b^(k:Int).toNat)))else none)=_;rw[if_pos ⟨Int.natCast_nonneg k,Int.ofNat_le.mpr (Nat.le_trans (Nat.le_of_lt c) (by decide)),by rcases a with rfl|rfl<;>decide⟩];rfl
theorem oq(b:Int)(c:b=7\/b=8)(F:Int)(k:Nat)(a:k<6):eI .FloorDiv (.d (.int F)) (.d (.int (b^k)))=some (.d (.int (F.fdiv (b^k)))):=by
 show(if b^k≠0/\(b^k).natAbs<1073741824 then some (V.d (.int (F.fdiv (b^k))))else none)=_;have key:∀k,k<6->((7:Int)^k≠0/\((7:Int)^k).natAbs<1073741824)/\((8:Int)^k≠0/\((8:Int)^k).natAbs<1073741824):=by decide
 rw[if_pos (by rcases c with rfl|rfl;exact(key k a).1;exact(key k a).2)]
theorem jL(b F:Int)(a:b≠0):eI .Mod (.d (.int F)) (.d (.int b))=some (.d (.int (F.fmod b))):=by show(if b≠0 then some (V.d (.int (F.fmod b)))else none)=_;rw[if_pos a]
section
variable{α:Type}(a b c d e f g:α)(xs:List α)
theorem HD:bV (a::b::c::xs) 2=some c:=ba (a::b::c::xs) 2 (by simp) (by simp)
theorem HE:bV (a::b::c::d::e::xs) 4=some e:=ba (a::b::c::d::e::xs) 4 (by simp) (by simp)
theorem HF:bV (a::b::c::d::e::f::xs) 5=some f:=ba (a::b::c::d::e::f::xs) 5 (by simp) (by simp)
theorem H0:bV (a::b::c::d::e::f::g::xs) 6=some g:=ba (a::b::c::d::e::f::g::xs) 6 (by simp) (by simp)
end
theorem G4:Str.ofString "x"=tx [120]:=by decide+kernel
theorem EZ:Str.ofString "x:"=tx [120,58]:=by decide+kernel
theorem EX:Str.ofString "~:"=tx [126,58]:=by decide+kernel
theorem EY:Str.ofString "x:0(<"=tx [120,58,48,40,60]:=by decide+kernel
theorem EK:Str.ofString ">)"=tx [62,41]:=by decide+kernel
theorem EP:Str.ofString "{"=tx [123]:=by decide+kernel
theorem EQ:Str.ofString "}"=tx [125]:=by decide+kernel
theorem FA(k:Nat)(a:k<6)(st:List aA):fJ .str (.d (.int ((k:Int)+1))) st=some (.d (.str (tx [49+k])),st):=by show(if((k:Int)+1).natAbs<2^64 then some (V.d (.str (Str.ofString (toString ((k:Int)+1)))),st)else none)=_;have h:((k:Int)+1).natAbs<2^64:=(Nat.lt_of_lt_of_le (Nat.succ_lt_succ a) (by decide):k+1<2^64);rw[if_pos h,rZ k a]
theorem jo{y:Str}{c x:List Nat}{p:Nat}(e:y=tx c)(a:x.length<=p)(hc:Nat.ble (c.length+p) 1000=true):eI .Add (.d (.str y)) (.d (.str (tx x)))=some (.d (.str (tx (c++x)))):=e▸b6 (Nat.le_refl c.length) a hc
theorem gJ{y:Str}{c x:List Nat}{p:Nat}(e:y=tx c)(a:x.length<=p)(hc:Nat.ble (p+c.length) 1000=true):eI .Add (.d (.str (tx x))) (.d (.str y))=some (.d (.str (tx (x++c)))):=e▸b6 a (Nat.le_refl c.length) hc
theorem GS(g:Nat->PyData){f:Nat}(h:f<7)(st:List aA):cW st (.d (.list [g 0,g 1,g 2,g 3,g 4,g 5,g 6])) (.d (.int f))=some (.d (g f)):=by refine(congrArg (Option.map V.d) (ba [g 0,g 1,g 2,g 3,g 4,g 5,g 6] f h (Nat.lt_trans h (by decide)))).trans ?_;change(((List.range 7).map g)[f]?).map V.d=_;rw[List.getElem?_map,List.getElem?_range h];rfl
theorem zT(n:Nat)(st:List aA)(s v:V)(F:Int)(k:Nat)(h:k<6)(l:List Nat)(hl:l.length<=50)(A B:List PyData)(j:A.length<=100)(o:B.length<=100):
  exs aH (n+30) [s,.d (.int F),.ref st.length,.ref (st.length+1),.d (.int k),.d (.str (tx l)),v] xm (st++[aA.list A,aA.list B])
   =some (.nx,[s,.d (.int F),.ref st.length,.ref (st.length+1),.d (.int k),.d (.str (tx l)),.d (.int (dg 7 F k))],st++[aA.list (A++[hX k (dg 7 F k) l]),aA.list (B++[.str (tx (y9 k (dg 7 F k) l))])]):=by
 have p:=tc 7 (.inl rfl) k h;have q:=oq 7 (.inl rfl) F k h;have m:=jL 7 (F.fdiv (7^k)) (by decide);rw[rY (by decide)]at m;have t:=tR (b:=7) (by decide) F k;have u:=FA k h;generalize dg 7 F k=f at*;have r:=GS (λf=>hX k f l) t;have w:=GS (λf=>.str (tx (y9 k f l))) t;change∀st,cW st (.d (.list [.tuple [.str (tx [120]),.int ((k:Int)+1),.str (tx l)],.tuple [.str (tx [126]),.int ((k:Int)+1),.str (tx l)],.tuple [.str (tx [120]),.int 0,.str (tx ([60]++l++[62]))],.tuple [.str (tx [126]),.int 0,.str (tx ([60]++l++[62]))],.tuple [.str (tx [126]),.int 0,.str (tx l)],.tuple [.str (tx [126]),.int 0,.str (tx ([60]++l))],.tuple [.str (tx [126]),.int 0,.str (tx (l++[62]))]])) _=_ at r;rw[<-G4,<-jb]at r;have c:∀a:Nat,[a].length<=1:=λ_=>Nat.le_refl 1;have e:∀a b:Nat,[a,b].length<=2:=λ_ _=>Nat.le_refl 2;have x:[120,58,48,40,60].length<=5:=Nat.le_refl 5;have j:=Nat.le_trans j (show 100<=1000 by decide);have o:=Nat.le_trans o (show 100<=1000 by decide);exact go (zs 5 (2::zs 9 (1::zs 4 (1::zs 12 ([]))))) λg=>g _ p _ q _ m _ _ (zh (i:=0) rfl) _ (DN (i:=0) rfl) _ (jo cP hl rfl) _ (gJ cO (bz (c _) hl) rfl) _ (jo cP hl rfl) _ (gJ cO (bz (c _) hl) rfl) _ (jo cP hl rfl) _ (gJ cO hl rfl) _ (r _) _ _ (Hf (i:=0) rfl j) _ _ (zh (i:=1) rfl) _ (DN (i:=1) rfl) _ _ (u _) _ (jo EZ (c _) rfl) _ (gJ cL (bz (e _ _) (c _)) rfl) _ (b6 (bz (bz (e _ _) (c _)) (c _)) hl rfl) _ (gJ cK (bz (bz (bz (e _ _) (c _)) (c _)) hl) rfl) _ _ (u _) _ (jo EX (c _) rfl) _ (gJ cL (bz (e _ _) (c _)) rfl) _ (b6 (bz (bz (e _ _) (c _)) (c _)) hl rfl) _ (gJ cK (bz (bz (bz (e _ _) (c _)) (c _)) hl) rfl) _ (jo EY hl rfl) _ (gJ EK (bz x hl) rfl) _ (jo EP hl rfl) _ (gJ EQ (bz (c _) hl) rfl) _ (jo cP hl rfl) _ (gJ cO hl rfl) _ (w _) _ _ (Hf (i:=1) rfl o) rfl
theorem zS(n:Nat)(st:List aA)(i:V)(F:Int)(nm:Nat->List Nat)(hl:∀k,k<6->(nm k).length<=50)(m:Nat):∀(k:Nat)(c e a:V),k+m<=6->∃j l o,cf aH (n+30) (.tup [4,5]) xm ((List.range' k m).map λk:Nat=>.tuple [.int k,.str (tx (nm k))]) [i,.d (.int F),.ref st.length,.ref (st.length+1),c,e,a] (st++[aA.list ((List.range k).map λk=>hX k (dg 7 F k) (nm k)),aA.list ((List.range k).map λk=>.str (tx (y9 k (dg 7 F k) (nm k))))])
  =some (.nx,[i,.d (.int F),.ref st.length,.ref (st.length+1),j,l,o],st++[aA.list ((List.range (k+m)).map λk=>hX k (dg 7 F k) (nm k)),aA.list ((List.range (k+m)).map λk=>.str (tx (y9 k (dg 7 F k) (nm k))))]):=by
 induction m with
 |zero=>exact λk c e a _=>⟨c,e,a,rfl⟩
 |succ m f=>
  intro k c e a h;have p:k<6:=Nat.lt_of_lt_of_le (Nat.lt_add_of_pos_right (Nat.succ_pos m)) h;have b:∀g:Nat->PyData,((List.range k).map g).length<=100:=λg=>by rw[List.length_map,List.length_range];exact Nat.le_trans (Nat.le_of_lt p) (by decide)
  obtain⟨q,r,s,f⟩:=f (k+1) (.d (.int k)) (.d (.str (tx (nm k)))) (.d (.int (dg 7 F k))) (Nat.le_trans (Nat.le_of_eq (Nat.add_right_comm ..)) h);rw[Nat.add_right_comm,List.range_succ,List.map_append,List.map_append]at f;exact⟨q,r,s,(congrArg (Option.bind · (f5 aH (n+30) (.tup [4,5]) xm ((List.range' (k+1) m).map λk:Nat=>.tuple [.int k,.str (tx (nm k))]))) (zT n st i a F k p (nm k) (hl k p) _ _ (b _) (b _))).trans f⟩
theorem Es(n:Nat)(st:List aA)(F:Int)(nm:Nat->List Nat)(hl:∀k,k<6->(nm k).length<=50):
  callf aH (n+50) 10 [.d (eK nm),.d (.int F)] st=some (.tuple [.list (L6 λk=>hX k (dg 7 F k) (nm k)),bP λk=>tx (y9 k (dg 7 F k) (nm k))],st):=by
 obtain⟨a,b,c,ch⟩:=zS (n+16) st (.d (eK nm)) F nm hl 6 0 .unb .unb .unb (Nat.le_refl 6);refine h9.trans ?_;have g:exs aH (n+49) [.d (eK nm),.d (.int F),.unb,.unb,.unb,.unb,.unb] dS st=exs aH (n+48) [.d (eK nm),.d (.int F),.ref st.length,.ref (st++[aA.list []]).length,.unb,.unb,.unb] [(.for (.tup [4,5]) (.enu (.v 0)) xm),(.ret (.tup [(.v 2),(.v 3)]))] ((st++[aA.list []])++[aA.list []]):=rfl;rw[g,List.append_assoc,List.length_append];exact dR (zs 3 ([])) λg=>g _ _ _ ch _ _ (zh (i:=0) rfl) _ _ (zh (i:=1) rfl) Bz
theorem sX:Str.ofString "......"=tx (dots++dots):=by decide+kernel
theorem HL{x:List Nat}{p:Nat}(a:x.length<=p)(h:Nat.ble (p+6) 1000=true):eI .Add (.d (.str (tx x))) (.d (.str "......"))=some (.d (.str (tx (x++(dots++dots))))):=by rw[sX];exact b6 a (bz D D) h
noncomputable def zn(a b c d:List Nat):List (List Nat×List Nat×Bool):=[(a++d++a,a,false),(d++a++d++c++d,a,false),(d++a++d++b++d,a++b++a,true),(a++d++b++d++b,a++b,false),(d++c,a,true),(a++(d++d)++b,a++b,true),(a++d,b++a,false),(d++a,a++b,false),(a,a++b,false),(a++b,a,false),(a,a,true)]
theorem G8{A c k:Nat}(a:0+A<=k)(b:k+c<=A)(hc:0<c):False:=by omega
theorem Fb{A B C k:Nat}(a:C=A+B)(b:A<=k)(c:k+B<=C -B)(hc:0<B):False:=by omega
structure kG(a b:List Nat):Prop where
 la:2<=a.length
 lb:2<=b.length
 sa:a.length<=50
 sb:b.length<=50
 da:46∉a
 db:46∉b
 inA:97∈a
 inB:98∈b
 notA:98∉a
 notB:97∉b
section
variable{a b:List Nat}(h:kG a b)
include h
theorem kG.pre:a.isPrefixOf (b++a)=false:=by
 rw[<-Bool.not_eq_true,List.isPrefixOf_iff_prefix];intro c;rcases o1 c with c|⟨r,e,_⟩
 ·exact h.notB (c.subset h.inA)
 ·exact h.notA (by rw[e];simp[h.inB])
theorem kG.suf:a.isSuffixOf (a++b)=false:=by
 rw[<-Bool.not_eq_true,List.isSuffixOf_iff_suffix];rintro⟨t,e⟩;rcases List.append_eq_append_iff.mp e with⟨r,e1,c⟩|⟨r,e1,c⟩
 ·exact h.notA (by rw[c];simp[h.inB])
 ·exact h.notB (by rw[c];simp[h.inA])
theorem kG.ne:a.isEmpty=false/\b.isEmpty=false:=by
 have:=h.la;have:=h.lb;constructor
 ·induction a using List.casesOn<;>simp at*
 ·induction b using List.casesOn<;>simp at*
theorem kG.asked:∀q∈zn a b (a.drop 1) dots,∀n st,callf aH (n+60) 3 [.d (.str (tx q.1)),.d (.str (tx q.2.1))] st=some (.bool q.2.2,st):=by
 have r:=(h.ne).1;have E:=(h.ne).2;have u:=h.la;have j:=h.sa;have s:=h.sb;have t:(a.drop 1).length=a.length -1:=List.length_drop;have s1:(a.drop 1).isSuffixOf a=true:=List.isSuffixOf_iff_suffix.mpr (List.drop_suffix 1 a);have A:Nd a:=⟨h.da,Nat.le_trans j (by decide)⟩;have B:Nd b:=⟨h.db,Nat.le_trans s (by decide)⟩;have F:Nd (a.drop 1):=⟨λz=>h.da (List.mem_of_mem_drop z),Nat.le_trans (t▸Nat.sub_le _ 1) A.2⟩;have N:Nd []:=⟨List.not_mem_nil,Nat.zero_le _⟩;have J:=h.lb;have e1:(a.drop 1).isEmpty=false:=by rw[<-Bool.not_eq_true,List.isEmpty_iff_length_eq_zero];exact aB t (Nat.sub_ne_zero_of_lt u)
 have G:∀c,a.isPrefixOf (a++c)=true:=λc=>List.isPrefixOf_iff_prefix.mpr (List.prefix_append ..);have m:b.isSuffixOf (a++b)=true:=List.isSuffixOf_iff_suffix.mpr (List.suffix_append ..);have f:(a++b).length=a.length+b.length:=List.length_append;generalize a.drop 1=a1 at*;have K1:a.length<=1000:=Nat.le_trans j (by decide);have C:(a++b).length<=1000:=Nat.le_trans (bz j s) (by decide);have D:a.length+b.length<=(a++b++a).length:=((by rw[List.length_append,f]:(a++b++a).length=a.length+b.length+a.length))▸Nat.le_add_right ..;have H:∀g:List Nat,jW g a 0->a.length<=g.length->jn g a 0 g.length=some 0:=λg K L=>lK (Nat.le_refl _) (Nat.zero_add _▸L) K λk _ M=>(Nat.not_lt_zero _ M).elim;refine aX (wn (x:=a) (mid:=[]) (l:=a) (List.append_assoc ..).symm (aX A (aX A iQ)) (Nat.zero_le 2) K1 (zE (Nat.lt_add_of_pos_left (Nat.lt_of_lt_of_le Nat.zero_lt_two u)))) (aX (wn (x:=[]) (mid:=[a,a1]) (l:=[]) (by simp[dd,ij]) (aX N (aX A (aX F (aX N iQ)))) (Nat.le_refl 2) K1 (fi (.inl ⟨rfl,rfl⟩) (.inl ⟨rfl,rfl⟩) (Nat.zero_le _) (Bt (Nat.zero_le _) (Cf (H a List.take_length (Nat.le_refl _)) (Cg (ow λk o p _=>G8 o p (t▸Nat.sub_pos_of_lt u))))))) ?_);refine aX (wn (x:=[]) (mid:=[a,b]) (l:=[]) (by simp[dd,ij]) (aX N (aX A (aX B (aX N iQ)))) (Nat.le_refl 2) (Nat.le_trans (bz (bz j s) j) (by decide)) (fi (.inl ⟨rfl,rfl⟩) (.inl ⟨rfl,rfl⟩) (Nat.zero_le _) (Bt (Nat.zero_le _) (Cf (H _ (by simp[jW]) (Nat.le_trans (Nat.le_add_right ..) D)) (Cf (i:=a.length) (lK (Nat.le_of_eq (Nat.zero_add _)) D (ja a b a) λk o p=>absurd (Nat.le_trans (Nat.le_of_eq (Nat.zero_add _).symm) o) (Nat.not_le.mpr p)) (Bt D rfl)))))) (aX (wn (x:=a) (mid:=[b]) (l:=b) (by simp[dd,ij]) (aX A (aX B (aX B iQ))) (Nat.le_succ 1) C (fi (.inr ⟨r,G b,rfl⟩) (.inr ⟨E,m,rfl⟩) (Nat.le_of_eq f.symm) (Cg (ow λk o p _=>Fb f o p (Nat.lt_of_lt_of_le Nat.zero_lt_two J))))) ?_);refine aX (wn (x:=[]) (mid:=[]) (l:=a1) rfl (aX N (aX F iQ)) (Nat.zero_le 2) K1 (fi (.inl ⟨rfl,rfl⟩) (.inr ⟨e1,s1,rfl⟩) (Nat.zero_add _▸t▸Nat.sub_le _ 1) (Bt (Nat.zero_le _) rfl))) (aX (wn (x:=a) (mid:=[[]]) (l:=b) (by simp[dd,ij]) (aX A (aX N (aX B iQ))) (Nat.le_succ 1) C (fi (.inr ⟨r,G b,rfl⟩) (.inr ⟨E,m,rfl⟩) (Nat.le_of_eq f.symm) (Bt (Nat.le_sub_of_add_le (Nat.le_of_eq f.symm)) rfl))) ?_);refine aX (wn (x:=a) (mid:=[]) (l:=[]) (congrArg (a++·) (List.append_nil _)) (aX A (aX N iQ)) (Nat.zero_le 2) (Nat.le_trans (bz s j) (by decide)) (zF r h.pre)) (aX (wn (x:=[]) (mid:=[]) (l:=a) rfl (aX N (aX A iQ)) (Nat.zero_le 2) C (zG r h.suf)) ?_);have I:∀{x y:List Nat},x.length≠y.length->(x==y)=false:=λhl=>beq_eq_false_iff_ne.mpr λe=>hl (congrArg List.length e);have pl:∀{w bc:List Nat}{v:Bool},46∉w->(w==bc)=v->∀n st,callf aH (n+60) 3 [.d (.str (tx w)),.d (.str (tx bc))] st=some (.bool v,st):=λO e n st=>e▸w9 n st _ _ O;exact aX (pl h.da (I (by lia))) (aX (pl (λz=>(List.mem_append.mp z).elim h.da h.db) (I (by lia))) (aX (pl h.da (beq_self_eq_true a)) iQ))
omit h in
theorem wY{c:List Nat}(e:a.length<=50)(f:b.length<=50)(sc:c.length<=50)(j:iq (.str (tx a)) (some 1) none=some (.str (tx c)))(wm:∀q∈zn a b c dots,∀n st,callf aH (n+60) 3 [.d (.str (tx q.1)),.d (.str (tx q.2.1))] st=some (.bool q.2.2,st))(n:Nat)(st:List aA):
  callf aH (n+100) 8 [.d (.str (tx a)),.d (.str (tx b))] st=some (.bool true,st):=by
 exact my.trans (dR (zs 33 ([])) λg=>g _ (mR e rfl) _ (b6 (bz e D) e rfl) _ (Bo e rfl) _ (mR (bz D e) rfl) _ j _ (b6 (bz (bz D e) D) sc rfl) _ (mR (bz (bz (bz D e) D) sc) rfl) _ (Bo e rfl) _ (mR (bz D e) rfl) _ (b6 (bz (bz D e) D) f rfl) _ (mR (bz (bz (bz D e) D) f) rfl) _ (b6 e f rfl) _ (b6 (bz e f) e rfl) _ (mR e rfl) _ (b6 (bz e D) f rfl) _ (mR (bz (bz e D) f) rfl) _ (b6 (bz (bz (bz e D) f) D) f rfl) _ (b6 e f rfl) _ j _ (Bo sc rfl) _ (HL e rfl) _ (b6 (bz e (bz D D)) f rfl) _ (b6 e f rfl) _ (mR e rfl) _ (b6 f e rfl) _ (Bo e rfl) _ (b6 e f rfl) _ (b6 e f rfl) _ (b6 e f rfl) _ _ (zh (i:=0) rfl) _ _ (jG _ _ _) _ _ ((λn st=>bW aH (n+70) (.tup [0,1]) (.call 3 "_ellipsis_match" [(.v 0),(.v 1)]) [.unb,.unb] st (λq:List Nat×List Nat×Bool=>PyData.tuple [.str (tx q.1),.str (tx q.2.1)]) (λq=>PyData.bool q.2.2) (zn a b c dots) (Nat.le_of_ble_eq_true rfl) (λq k=>⟨[.d (.str (tx q.1)),.d (.str (tx q.2.1))],rfl,congrArg (λo:Option (PyData×List aA)=>o.bind λq=>some (V.d q.1,q.2)) (wm q k (n+9) st)⟩)) _ _) _ _ (((λn st=>uK n st [false,false,true,false,true,true,false,false,false,false,true] _ (Nat.le_of_ble_eq_true rfl):∀n st,callf aH (n+20) 7 [.d (.list ((zn a b c dots).map λq=>PyData.bool q.2.2)),.d (.list (d2 [false,false,true,false,true,true,false,false,false,false,true]))] st=some (.bool true,st))) _ _) lI)
theorem kG.dots_is(n:Nat)(st:List aA):callf aH (n+100) 8 [.d (.str (tx a)),.d (.str (tx b))] st=some (.bool true,st):=
 wY h.sa h.sb (Nat.le_trans (Nat.le_trans (Nat.le_of_eq List.length_drop) (Nat.sub_le ..)) h.sa) (nH a (a:=1) (Nat.le_trans (by decide) h.la) (Nat.le_trans h.sa (by lia))) h.asked n st
end
noncomputable def bu(ds:List Int):List PyData:=ds.map PyData.int
@[simp] theorem gz(ds:List Int):(bu ds).length=ds.length:=List.length_map ..
theorem Er(i:Int):∃p:Nat,p<9/\i.fmod 9=(p:Int):=⟨(i.fmod 9).toNat,(Int.toNat_lt_toNat (by decide)).mpr (Int.fmod_lt_of_pos i (b:=9) (by decide)),(Int.toNat_of_nonneg (Int.fmod_nonneg_of_pos i (b:=9) (by decide))).symm⟩
theorem u7(n:Nat)(m:V)(c:List V):∀(xs:List Int)(i:Nat)(ds:List Int)(o q:V),ds.length=9->
  ∃e r s,e.length=9/\cf aH (n+20) (.tup [2,3]) w2 (dQ i (bu xs)) (m::.ref 0::o::q::c) [aA.list (bu ds)]=some (.nx,m::.ref 0::r::s::c,[aA.list (bu e)]):=by
 intro t;induction t with
 |nil=>exact λi ds o q h=>⟨ds,o,q,h,rfl⟩
 |cons x xs u=>
  intro i ds o q h;refine aK (Er (i:Int)) λp f=>?_;have v:=f.1;have ep:=f.2;have j:p<ds.length:=h▸v;refine cU (u (i+1) (ds.set p (ds[p]+x.fmod 1000000)) (.d (.int i)) (.d (.int x)) (List.length_set.trans h)) λe a b f=>?_;have h':=f.1;refine vf e a b ⟨h',?_⟩;have w:=jL 9 (i:Int) (by decide);rw[ep]at w;have y:p<(bu ds).length:=(gz ds).symm▸j;have z:cW [aA.list (bu ds)] (.ref 0) (.d (.int (p:Nat)))=some (.d (.int ds[p])):=by refine aB (dE (xs:=bu ds) rfl) (aB (ba _ _ y (Nat.lt_trans v (by decide))) ?_);exact congrArg (Option.map V.d) ((List.getElem?_map).trans (congrArg (Option.map PyData.int) (List.getElem?_eq_getElem j)))
  have st:je [aA.list (bu ds)] (.ref 0) (.d (.int (p:Nat))) (.int (ds[p]+x.fmod 1000000))=some [aA.list (bu (ds.set p (ds[p]+x.fmod 1000000)))]:=by exact Eq.trans (jP (xs:=bu ds) _ rfl y (by rw[gz,h];decide)) (congrArg (λl=>some [aA.list l]) List.map_set.symm)
  have k:exs aH (n+20) (m::.ref 0::.d (.int i)::.d (.int x)::c) w2 [aA.list (bu ds)]=some (.nx,m::.ref 0::.d (.int i)::.d (.int x)::c,[aA.list (bu (ds.set p (ds[p]+x.fmod 1000000)))]):=by exact go (zs 3 (1::zs 1 ([]))) λg=>g _ _ (qU rfl) _ w _ z _ (jL 1000000 x (by decide)) _ st rfl
  exact(congrArg (Option.bind · (f5 aH (n+20) (.tup [2,3]) w2 (dQ (i+1) (bu xs)))) k).trans (f.2)
theorem Ft(xs:List Int)(h:xs.length<=63):iq (.list (bu xs)) none (some 60)=some (.list (bu (xs.take 60))):=by
 refine Eq.trans (if_pos (bb (by simp;lia))) ?_;unfold FQ;simp only[Option.elim];have:clipAt (bu xs).length 60=min 60 xs.length:=by have:=clipAt_nat (bu xs).length 60;simpa using this
 simp only[this,List.drop_zero,Nat.sub_zero];unfold bu;have e:(xs.map PyData.int).take 60=_:=List.take_eq_take_min;rw[List.length_map]at e;exact aB (List.map_take) (aB e rfl)
noncomputable def tD:List V:=[.unb,.unb,.unb,.unb,.unb,.unb,.unb,.unb,.unb,.unb,.unb,.unb,.unb,.unb,.unb,.unb,.unb,.unb,.unb,.unb,.unb,.unb,.unb,.unb,.unb,.unb,.unb,.unb]
theorem vH(xs:List Int)(h:xs.length<=63):∃ds f i,ds.length=9/\exs aH 300 (.d (.list (bu xs))::.unb::.unb::.unb::tD) tL []=exs aH 298 (.d (.list (bu xs))::.ref 0::f::i::tD) F1 [aA.list (bu ds)]:=by refine cU (u7 277 (.d (.list (bu xs))) tD (xs.take 60) 0 [31,15,49,20,66,43,214024,46185,88125] .unb .unb rfl) λc a b e=>?_;have ch:=e.2;refine vf c a b ⟨(e.1),?_⟩;exact wp 2 (zs 2 ([])) λg=>g _ (Ft xs h) _ _ _ (((ch:cf aH 297 (.tup [2,3]) w2 (dQ 0 (bu (xs.take 60))) (.d (.list (bu xs))::.ref 0::.unb::.unb::tD) [aA.list [.int 31,.int 15,.int 49,.int 20,.int 66,.int 43,.int 214024,.int 46185,.int 88125]]=some (.nx,.d (.list (bu xs))::.ref 0::a::b::tD,[aA.list (bu c)])))) rfl
section
variable(d:Nat->Int)
noncomputable def bk:PyData:=.list [.int (d 0),.int (d 1),.int (d 2),.int (d 3),.int (d 4),.int (d 5),.int (d 6),.int (d 7),.int (d 8)]
noncomputable def kp(k:Nat):Int:=((d k).fdiv 3).fmod 3
noncomputable def kq(k:Nat):Int:=(d k).fmod 3
noncomputable def hN(k:Nat):Nat:=dg 8 (d 6) k
noncomputable def fN(k:Nat):Nat:=dg 7 (d 7) k
noncomputable def gN(k:Nat):Nat:=dg 7 (d 8) k
noncomputable def dj(k:Nat):List Nat:=qH k (hN d k)
noncomputable def rB(k:Nat):List Nat:=y9 k (fN d k) (dj d k)
noncomputable def dq(k:Nat):Int:=d k -50
noncomputable def Al:PyData:=.list (L6 λk=>.tuple [.int (kp d k),.int (kq d k)])
noncomputable def dW:List PyData:=[.str (tx []),.str (tx [92,41]),.str (tx [34,40,34]),.str (tx [92,40]),.str (tx [92,34]),.str (tx [92,92]),.str (tx [34,92,34,40,34]),.str (tx [])]
theorem wq(k:Nat):hN d k<8:=tR (b:=8) (by lia) _ _
theorem DJ(k:Nat):fN d k<7:=tR (b:=7) (by lia) _ _
theorem GL(k:Nat):gN d k<7:=tR (b:=7) (by lia) _ _
theorem Am(n:Nat)(st:List aA):iW aH (n+20) (.v 0) none (.tup [(.bin .Mod (.bin .FloorDiv (.v 0) (.k (.int 3))) (.k (.int 3))),(.bin .Mod (.v 0) (.k (.int 3)))]) [.unb] (bh.map λk=>.int (d k)) st []
  =some (bh.map λk=>.tuple [.int (kp d k),.int (kq d k)],st):=
 bW aH (n+20) _ _ _ st _ _ bh (by decide) λk _=>⟨[.d (.int (d k))],rfl,by
  have a:=λF=>jL 3 F (by decide);exact pm (zs 3 ([])) λg=>g _ (((λF=>rfl:∀F,eI .FloorDiv (.d (.int F)) (.d (.int 3))=some (.d (.int (F.fdiv 3))))) _) _ (a _) _ (a _) rfl⟩
theorem wR(n:Nat)(st:List aA):iW aH (n+20) (.v 0) none (.bin .Sub (.v 0) (.k (.int 50))) [.unb] (bh.map λk=>.int (d k)) st []
  =some (bh.map λk=>.int (dq d k),st):=
 bW aH (n+20) _ _ _ st _ _ bh (by decide) λk _=>⟨[.d (.int (d k))],rfl,rfl⟩
theorem CC(st:List aA):cW st (.d (bk d)) (.d (.int 6))=some (.d (.int (d 6))):=by show(bV [PyData.int (d 0),.int (d 1),.int (d 2),.int (d 3),.int (d 4),.int (d 5),.int (d 6),.int (d 7),.int (d 8)] 6).map V.d=_;rw[H0];rfl
theorem CD(st:List aA):cW st (.d (bk d)) (.d (.int 8))=some (.d (.int (d 8))):=by have:=ba [PyData.int (d 0),.int (d 1),.int (d 2),.int (d 3),.int (d 4),.int (d 5),.int (d 6),.int (d 7),.int (d 8)] 8 (by simp) (by simp);refine aB this ?_;rfl
theorem Af(st:List aA):∀k:Nat,k<6->cW st (.d (.str "abcdef")) (.d (.int k))=some (.d (.str (tx [97+k]))):=by exact aB (show Str.ofString "abcdef"=tx [97,98,99,100,101,102] by decide+kernel) (lt6 ⟨fo st _ 0 97 rfl (by decide),fo st _ 1 98 rfl (by decide),fo st _ 2 99 rfl (by decide),fo st _ 3 100 rfl (by decide),fo st _ 4 101 rfl (by decide),fo st _ 5 102 rfl (by decide)⟩)
theorem Ag(st:List aA)(r:Nat)(a:aI st r=some (.list dW)):∀h:Nat,h<8->cW st (.ref r) (.d (.int h))=some (.d (.str (tx (ze h)))):=by intro h b;refine aB (dE a) (aB (ba _ _ (by simp[dW];lia) (by lia)) ?_);exact((zf ⟨rfl,rfl,rfl,rfl,rfl,rfl,rfl,rfl⟩:∀h,h<8->(dW[h]?).map V.d=some (.d (.str (tx (ze h)))))) h b
theorem yD{st:List aA}{r:Nat}{x:PyData}(h:aI st r=some (.froz x)):vY (.ref r) st=some (.d x,st):=by rw[kF];refine aB h ?_;rfl
theorem ue:∀h,h<8->(ze h).length<=5:=zf (by decide)
theorem yd(n:Nat)(st:List aA)(c:aI st 0=some (.froz (bk d)))(b:aI st 1=some (.list dW)):iW aH (n+30) (.v 0) none (.bin .Add (.idx (.k (.str "abcdef")) (.v 0)) (.idx (.v 2) (.bin .Mod (.bin .FloorDiv (.idx (.v 1) (.k (.int 6))) (.bin .Pow (.k (.int 8)) (.v 0))) (.k (.int 8))))) [.unb,.ref 0,.ref 1] (bh.map λk:Nat=>.int k) st []
  =some (bh.map λk=>.str (tx (dj d k)),st):=
 bW aH (n+30) _ _ _ st _ _ bh (by decide) λk a=>⟨[.d (.int k),.ref 0,.ref 1],rfl,by
  have a:=a7.mp a;have p:=tc 8 (.inr rfl) k a;have m:=jL 8 ((d 6).fdiv (8^k)) (by decide);rw[rY (by lia)]at m;exact pm (zs 9 ([])) λg=>g _ (Af st k a) _ _ (qU b) _ _ (yD c) _ (CC _ _) _ p _ (oq 8 (.inr rfl) (d 6) k a) _ m _ (Ag st 1 b (dg 8 (d 6) k) (wq d k)) _ (b6 (p:=1) (x:=[97+k]) (Nat.le_refl 1) (ue _ (wq d k)) rfl) rfl⟩
theorem yo:Str.ofString "x."=tx [120,46]:=by decide+kernel
theorem ER:Str.ofString "x.y."=tx [120,46,121,46]:=by decide+kernel
theorem ES:Str.ofString ": no.x: y"=tx [58,32,110,111,46,120,58,32,121]:=by decide+kernel
theorem ET:Str.ofString "\nx.y: z"=tx [10,120,46,121,58,32,122]:=by decide+kernel
theorem EU:Str.ofString ":\n"=tx [58,10]:=by decide+kernel
theorem EV:Str.ofString ": x"=tx [58,32,120]:=by decide+kernel
theorem EW:Str.ofString "\ny.z\nw: v"=tx [10,121,46,122,10,119,58,32,118]:=by decide+kernel
theorem l4(k:Nat):(dj d k).length<=6:=by refine aG λa=>?_;have:=ue _ (wq d k);refine a ?_;simp[dj,qH];lia
theorem AZ(n:Nat)(st:List aA)(c:aI st 0=some (.froz (bk d))):iW aH (n+30) (.tup [0,1]) none (.idx (.lst [(.v 1),(.bin .Add (.k (.str "x.")) (.v 1)),(.bin .Add (.bin .Add (.k (.str "x.y.")) (.v 1)) (.k (.str ": no.x: y"))),(.bin .Add (.v 1) (.k (.str "\nx.y: z"))),(.bin .Add (.bin .Add (.k (.str "x.")) (.v 1)) (.k (.str ":\n"))),(.bin .Add (.v 1) (.k (.str ": x"))),(.bin .Add (.bin .Add (.k (.str "x.")) (.v 1)) (.k (.str "\ny.z\nw: v")))]) (.bin .Mod (.bin .FloorDiv (.idx (.v 2) (.k (.int 8))) (.bin .Pow (.k (.int 7)) (.v 0))) (.k (.int 7)))) [.unb,.unb,.ref 0] (bh.map λk:Nat=>.tuple [.int k,.str (tx (dj d k))]) st []
  =some (bh.map λk=>.str (tx (jd (gN d k) (dj d k))),st):=
 bW aH (n+30) _ _ _ st _ _ bh (by decide) λk a=>⟨[.d (.int k),.d (.str (tx (dj d k))),.ref 0],rfl,by
  have a:=a7.mp a;have m:=jL 7 ((d 8).fdiv (7^k)) (by decide);rw[rY (by lia)]at m;have hl:=l4 d k;have b:[120,46].length<=2:=Nat.le_refl 2;have e:[120,46,121,46].length<=4:=Nat.le_refl 4;exact pm (zs 15 ([])) λg=>g _ (jo yo hl rfl) _ (jo ER hl rfl) _ (gJ ES (bz e hl) rfl) _ (gJ ET hl rfl) _ (jo yo hl rfl) _ (gJ EU (bz b hl) rfl) _ (gJ EV hl rfl) _ (jo yo hl rfl) _ (gJ EW (bz b hl) rfl) _ _ (yD c) _ (CD _ _) _ (tc 7 (.inl rfl) k a) _ (oq 7 (.inl rfl) (d 8) k a) _ m _ ((GS (λg=>.str (tx (jd g (dj d k)))) (GL d k)) _) rfl⟩
theorem Dv(k:Nat)(a:k<6):(rB d k).length<=18:=(sO (lS a (wq d k) (DJ d k))).len
theorem qL:Str.ofString "\n"=tx [10]:=by decide+kernel
theorem x4(n:Nat)(st:List aA):iW aH (n+30) (.v 0) none (.bin .Add (.v 0) (.k (.str "\n"))) [.unb] (bh.map λk=>.str (tx (rB d k))) st []
  =some (bh.map λk=>.str (tx (rB d k++[10])),st):=
 bW aH (n+30) _ _ _ st _ _ bh (by decide) λk a=>⟨[.d (.str (tx (rB d k)))],rfl,by
  exact pm (zs 1 ([])) λg=>g _ (gJ qL (Dv d k (a7.mp a)) rfl) rfl⟩
end
noncomputable def FK:List V:=[.unb,.unb,.unb,.unb,.unb,.unb,.unb,.unb,.unb,.unb,.unb,.unb,.unb,.unb,.unb,.unb,.unb,.unb,.unb,.unb]
theorem EL:Str.ofString "\\)"=tx [92,41]:=by decide+kernel
theorem EM:Str.ofString "\\("=tx [92,40]:=by decide+kernel
theorem EN:Str.ofString "\\\""=tx [92,34]:=by decide+kernel
theorem EO:Str.ofString "\\\\"=tx [92,92]:=by decide+kernel
section
variable(d:Nat->Int)
noncomputable def w3:List PyData:=[.int (d 0),.int (d 1),.int (d 2),.int (d 3),.int (d 4),.int (d 5),.int (d 6),.int (d 7),.int (d 8)]
noncomputable def uA:PyData:=.list (L6 λk=>.str (tx (jd (gN d k) (dj d k))))
noncomputable def pg:PyData:=.list (L6 λk=>hX k (fN d k) (dj d k))
noncomputable def ky(k:Nat):List Nat:=rB d k++[10]
noncomputable def fq:PyData:=bP λk=>tx (ky d k)
noncomputable def uJ:PyData:=bP λk=>tx (rB d k)
noncomputable def zK(s a b:V):List V:=s::.ref 0::a::b::.d (Al d)::.d (bs (dq d))::.ref 1::.d (eK (dj d))::.d (uA d)::.d (pg d)::.d (uJ d)::.d (fq d)::FK
theorem vJ(s a b:V):exs aH 298 (s::.ref 0::a::b::tD) F1 [aA.list (w3 d)]=exs aH 292 (zK d s a b) GW [aA.froz (bk d),aA.list dW]:=by have c:=λn=>yd d n [aA.froz (bk d),aA.list dW] rfl rfl;have e:=λn=>AZ d n [aA.froz (bk d),aA.list dW] rfl;have f:=λn st=>Es n st (d 7) (dj d) (λk _=>by have:=l4 d k;lia);unfold F1;rw[bZ,EL,l5,EM,EN,EO,l6];exact wp 6 (3::2::1::zs 1 (2::zs 1 ([]))) λg=>g _ _ (Am d _ _) _ _ (wR d _ _) _ _ (c _) _ _ (e _) _ _ (f _ _) _ _ (x4 d _ _) rfl
end
theorem lF{x:PyData}(h:d0 x=true):fL x x=some true:=by unfold fL;refine aB h ?_;have:PyData.eqv x x=true:=SeqAt.eqv_refl x (SeqAt.canLay_of_shaped h);simp[this]
theorem pQ(T:Nat->Str)(h:∀k,k<6->PyData.strOk (T k)=true):d0 (bP T)=true:=by simp[d0,SeqAt.shaped,bP,L6,PyData.canLay0,PyData.canLayAll0,PyData.depth,PyData.depthAll,h 0,h 1,h 2,h 3,h 4,h 5]
section
variable(d:Nat->Int)
theorem yi(k:Nat)(a:k<6):∀c∈dj d k,c<200:=by
 intro c hc;rcases List.mem_cons.mp hc with rfl|hc
 ·lia
 ·have:=((zf (by decide):∀x,x<8->∀c∈ze x,c<97)) _ (wq d k) c hc;lia
theorem EH(k:Nat)(a:k<6):PyData.strOk (tx (dj d k))=true:=by refine Eq.trans (Eq.symm (Array.all_toList)) ?_;rw[gG,List.all_eq_true];intro c hc;have:=yi d k a c hc;simp;lia
theorem um(k:Nat)(a:k<6):62∉dj d k/\60∉dj d k:=by have:=((zf (by decide):∀x,x<8->62∉ze x/\60∉ze x)) _ (wq d k);unfold dj qH;simp[this];lia
theorem uF{c:Nat}{l:List Nat}(h:c∉l):[c].isSuffixOf l=false:=by rw[<-Bool.not_eq_true,List.isSuffixOf_iff_suffix];exact λhs=>h (hs.subset (by simp))
theorem Cs(n:Nat)(st:List aA):iW aH (n+40) (.v 0) none (.call 0 "func_std_string" [(.v 0)]) [.unb] (bh.map λk=>hX k (fN d k) (dj d k)) st []
  =some (bh.map λk=>.str (tx (rB d k)),st):=
 bW aH (n+40) _ _ _ st _ _ bh (by decide) λk b=>⟨[.d (hX k (fN d k) (dj d k))],rfl,by
  have b:=a7.mp b;have c:=(um d k b).1;have e:=(um d k b).2;have f:=λn=>xp n st k b (fN d k) (DJ d k) (dj d k) (by have:=l4 d k;lia) (by
    rw[<-Bool.not_eq_true,List.isPrefixOf_iff_prefix];intro g;have:=g.subset (a:=60) (by decide);exact e this) (uF c) (uF (by simp[c])) (by
    unfold dj qH;have:(60==97+k)=false:=by rw[beq_eq_false_iff_ne];lia
    simp[List.isPrefixOf,this])
  exact ku (f _)⟩
theorem yG{l:List Nat}(h:l.length<=6):∀g,g<8->(jd g l).length<=500:=
 have b:∀x y:List Nat,x.length<=4->y.length<=10->(x++l++y).length<=500:=λ_ _ e a=>Nat.le_trans (bz (bz e h) a) (by decide);have c:=λy a=>b [] y (Nat.zero_le _) a
 zf ⟨Nat.le_trans h (by decide),Nat.le_trans (bz (Nat.le_refl 2) h) (by decide),b _ _ (Nat.le_refl 4) (Nat.le_succ 9),c [10,120,46,121,58,32,122] (Nat.le_of_ble_eq_true rfl),b [120,46] [58,10] (Nat.le_of_ble_eq_true rfl) (Nat.le_of_ble_eq_true rfl),c [58,32,120] (Nat.le_of_ble_eq_true rfl),b [120,46] _ (Nat.le_of_ble_eq_true rfl) (Nat.le_succ 9),b [120,46] _ (Nat.le_of_ble_eq_true rfl) (Nat.le_succ 9)⟩
theorem yO(n:Nat)(st:List aA):iW aH (n+60) (.v 0) none (.call 4 "_strip_exception_details" [(.v 0)]) [.unb] (bh.map λk=>.str (tx (jd (gN d k) (dj d k)))) st []
  =some (bh.map λk=>.str (tx (dj d k)),st):=
 bW aH (n+60) _ _ _ st _ _ bh (by decide) λk a=>⟨[.d (.str (tx (jd (gN d k) (dj d k))))],rfl,by
  exact ku ((λn=>Ds n st _ _ ((yG (l4 d k) _ (Nat.lt_succ_of_lt (GL d k)):(jd (gN d k) (dj d k)).length<=500)) (AY (a7.mp a) (wq d k) (GL d k))) _)⟩
theorem vG:iw (ky d):=H1 (hN d) (fN d) (wq d) (DJ d)
theorem FG(k:Nat)(a:k<6):Ge k (rB d k):=sO (lS a (wq d k) (DJ d k))
theorem B0:kG (ky d 0) (ky d 1):=by
 have b:=FG d 0 (by lia);have c:=FG d 1 (by lia);refine bd (b.own) λf g a=>?_;obtain⟨e,_⟩:=a;refine bd (c.own) λh i a=>?_;obtain⟨e1,_⟩:=a;have j:=b.len;have k:=c.len;refine⟨?_,?_,?_,?_,(vG d).dot 0 (by lia),(vG d).dot 1 (by lia),?_,?_,(vG d).other 1 (by lia) 0 (by lia) (by lia),(vG d).other 0 (by lia) 1 (by lia) (by lia)⟩
 ·unfold ky;refine aB e ?_;simp;lia
 ·unfold ky;refine aB e1 ?_;simp;lia
 ·unfold ky;simp;lia
 ·unfold ky;simp;lia
 ·unfold ky;refine aB e ?_;simp
 ·unfold ky;refine aB e1 ?_;simp
theorem nI(k:Nat)(a:k<6):PyData.strOk (tx (rB d k))=true:=yV (hN d) (fN d) (wq d) (DJ d) k a
theorem ew:eh (λk=>tx (rB d k)):=we (hN d) (fN d) (wq d) (DJ d)
theorem CM(s a b:V)(st:List aA):exs aH 292 (zK d s a b) GW st=exs aH 291 (zK d s a b) GX st:=by exact wp 1 (zs 2 (1::zs 1 (3::[]))) λg=>g _ _ (yO d _ _) _ _ ((λst=>(iH st _ _).trans (congrArg (Option.map λe=>(!e,st)) ((lF (pQ (λk=>tx (dj d k)) (EH d)):fL (.list (bh.map λk=>PyData.str (tx (dj d k)))) (.list (bh.map λk=>PyData.str (tx (dj d k))))=some true)))) _) _ _ (Cs d _ _) _ _ ((λst=>(iH st _ _).trans (congrArg (Option.map λe=>(!e,st)) ((lF (pQ (λk=>tx (rB d k)) (nI d)):fL (.list (bh.map λk=>PyData.str (tx (rB d k)))) (.list (bh.map λk=>PyData.str (tx (rB d k))))=some true)))) _) _ _ ((B0 d).dots_is _ _) rfl
end
section
variable(d:Nat->Int)
noncomputable def zi:Int:=(([0,1,2,3,4,5,6,7,8]:List Nat).map d).sum
theorem yQ(st:List aA):fJ .sum (.d (bk d)) st=some (.d (.int (zi d)),st):=q9 st d [0,1,2,3,4,5,6,7,8]
noncomputable def py(F:Int):Int:=F.fmod 2
theorem kt(F:Int):py F=0\/py F=1:=by have a:=Int.fmod_lt_of_pos F (b:=2) (by lia);unfold py;lia
noncomputable def KD:Ks where
 one:=py ((zi d).fdiv 2)*2 -1
 two:=py ((zi d).fdiv 4)*2 -1
 p:=kp d
 q:=kq d
 h1:=by have:=kt ((zi d).fdiv 2);lia
 h2:=by have:=kt ((zi d).fdiv 4);lia
noncomputable def kT:Bool:=py (zi d)==1
noncomputable def WG:Wd:=⟨λk=>tx (rB d k),dq d,1,2,kT d⟩
noncomputable def WP:Wd:=⟨λk=>tx (rB d k),λk=>11 -2*dq d k,3,5,kT d⟩
noncomputable def WS:Wd:=⟨λk=>tx (rB d k),λk=>11 -dq d k,4,7,kT d⟩
theorem lY(x y:Int)(h:x=0\/x=1\/x=-1\/x=2):eI .Mult (.d (.int x)) (.d (.int y))=some (.d (.int (x*y))):=by show(if x.natAbs<2^62 then some (V.d (.int (x*y)))else none)=_;rw[if_pos (by rcases h with rfl|rfl|rfl|rfl<;>decide)]
theorem Dx(n:Nat)(st:List aA):iW aH (n+20) (.v 0) none (.tup [(.bin .Mult (.v 2) (.idx (.idx (.v 1) (.v 0)) (.k (.int 1)))),(.bin .Mult (.v 3) (.idx (.idx (.v 1) (.v 0)) (.k (.int 0)))),(.v 0)]) [.unb,.d (Al d),.d (.int (KD d).one),.d (.int (KD d).two)] (bh.map λk:Nat=>.int k) st []
  =some (bh.map λk:Nat=>.tuple [.int ((KD d).one*kq d k),.int ((KD d).two*kp d k),.int k],st):=
 bW aH (n+20) _ _ _ st _ _ bh (by decide) λk b=>⟨[.d (.int k),.d (Al d),.d (.int (KD d).one),.d (.int (KD d).two)],rfl,by
  have a:=bt (KD d) st k (a7.mp b);have a:cW st (.d (Al d)) (.d (.int k))=some (.d (.tuple [.int (kp d k),.int (kq d k)])):=a;exact pm (zs 1 (1::zs 1 (1::[]))) λg=>g _ a _ (lY (KD d).one _ (by have:=(KD d).h1;lia)) _ a _ (lY (KD d).two _ (by have:=(KD d).h2;lia)) rfl⟩
noncomputable def b9(K:Ks)(k:Nat):PyData:=.tuple [.int (K.one*K.q k),.int (K.two*K.p k),.int k]
theorem v8(K:Ks)(st:List aA):fJ .sorted (.d (.list (bh.map (b9 K)))) st=some (.d (.list (K.row.map (b9 K))),st):=by
 show q4 [b9 K 0,b9 K 1,b9 K 2,b9 K 3,b9 K 4,b9 K 5] st=_;have e:q4 [b9 K 0,b9 K 1,b9 K 2,b9 K 3,b9 K 4,b9 K 5] st=(gj (λi j=>Bb (([K.tri 0,K.tri 1,K.tri 2,K.tri 3,K.tri 4,K.tri 5]:List (List Int)).getD i []) (([K.tri 0,K.tri 1,K.tri 2,K.tri 3,K.tri 4,K.tri 5]:List (List Int)).getD j [])) 6).map λis=>(.d (.list (is.map λi=>[b9 K 0,b9 K 1,b9 K 2,b9 K 3,b9 K 4,b9 K 5].getD i .none)),st):=rfl;have g:∀i,i<6->([K.tri 0,K.tri 1,K.tri 2,K.tri 3,K.tri 4,K.tri 5]:List (List Int)).getD i []=K.tri i
  |0,_=>rfl|1,_=>rfl|2,_=>rfl|3,_=>rfl|4,_=>rfl|5,_=>rfl
  |n+6,h=>absurd h (by lia)
 have b:∀i,i<6->[b9 K 0,b9 K 1,b9 K 2,b9 K 3,b9 K 4,b9 K 5].getD i .none=b9 K i
  |0,_=>rfl|1,_=>rfl|2,_=>rfl|3,_=>rfl|4,_=>rfl|5,_=>rfl
  |n+6,h=>absurd h (by lia)
 refine aB e (aB (jh (lt':=K.lt) (λi j a c=>by rw[g i a,g j c];rfl)) ?_);refine aB (K.sorted) ?_;show some (V.d (.list (K.row.map λi=>[b9 K 0,b9 K 1,b9 K 2,b9 K 3,b9 K 4,b9 K 5].getD i .none)),st)=_;exact aB (List.map_congr_left (g:=b9 K) (λi a=>b i (K.mem_row.mp a))) rfl
theorem C4(K:Ks)(n:Nat)(st:List aA):iW aH (n+20) (.v 0) none (.idx (.v 0) (.k (.int 2))) [.unb] (K.row.map (b9 K)) st []=some (aJ K.row,st):=by have:=bW aH (n+20) (.v 0) (.idx (.v 0) (.k (.int 2))) [.unb] st (b9 K) (λk:Nat=>PyData.int k) K.row (by rw[K.F.len];lia) λk _=>⟨[.d (b9 K k)],rfl,rfl⟩;exact this
theorem yu(n:Nat)(st:List aA):iW aH (n+20) (.v 0) none (.bin .Sub (.k (.int 11)) (.bin .Mult (.k (.int 2)) (.v 0))) [.unb] (bh.map λk=>.int (dq d k)) st []
  =some (bh.map λk=>.int (11 -2*dq d k),st):=
 bW aH (n+20) _ _ _ st _ _ bh (by decide) λk _=>⟨[.d (.int (dq d k))],rfl,by
  exact pm ([]) λg=>g rfl⟩
noncomputable def Bu(s a b:V):List V:=s::.ref 0::a::b::.d (cB (KD d))::.d (bs (dq d))::.ref 1::.d (eK (dj d))::.d (uA d)::.d (pg d)::.d (uJ d)::.d (fq d)::
 .d (.int (KD d).one)::.d (.int (KD d).two)::.d (.bool (kT d))::.d (.list (aJ (KD d).row))::.cmp (KD d).one (KD d).two::.ref 2::.ref 3::.ref 4::wd (WG d) 4::wd (WP d) 4::[.unb,.unb,.unb,.unb,.unb,.unb,.unb,.unb,.unb,.unb]
theorem Ax(s a b:V):exs aH 291 (zK d s a b) GX [aA.froz (bk d),aA.list dW]=exs aH 287 (Bu d s a b) CO [aA.froz (bk d),aA.list dW,dc [],dc [],aA.list []]:=by exact wp 4 (1::2::2::2::2::3::zs 2 (3::[])) λg=>g _ _ (yQ d _) _ (lY (py ((zi d).fdiv 2)) 2 (by have:=kt ((zi d).fdiv 2);lia)) _ _ (yQ d _) _ (lY (py ((zi d).fdiv 4)) 2 (by have:=kt ((zi d).fdiv 4);lia)) _ _ (yQ d _) _ _ (Dx d _ _) _ _ (v8 (KD d) _) _ _ (C4 (KD d) _ _) _ _ (yu d _ _) rfl
end
section
variable(d:Nat->Int)
noncomputable def jc:List Nat:=fK (ky d) 6
theorem qQ:kn (ky d) 6<=200:=Nat.le_trans ((vG d).off_le (Nat.le_refl 6)) (by decide)
theorem ng:([ky d 0,ky d 1,ky d 2,ky d 3,ky d 4,ky d 5]:List (List Nat)).flatten=jc d:=by simp[jc,fK]
theorem AO(st:List aA):d7 st .join (.d (.str "")) [.d (fq d)]=some (.d (.str (tx (jc d))),st):=by
 have h:=xO st [ky d 0,ky d 1,ky d 2,ky d 3,ky d 4,ky d 5] (by
  rw[ng];have:=qQ d;exact Nat.le_trans this (by lia))
 rw[ng]at h;rw[bZ];exact h
theorem zb(n:Nat)(st:List aA):iW aH (n+120) (.v 0) none (.lc (.v 0) (.v 0) (.rng [(.k (.int 6))]) (some (.call 17 "_law_came_first" [(.v 4),(.v 0),(.v 3),(.v 1),(.v 2)])) Eg) [.unb,.d (fq d),.d (.str (tx (jc d))),.d (.list (aJ (KD d).row))] (bh.map λk:Nat=>.int k) st []
  =some (bh.map λx=>.list (aJ (aQ (KD d).row x)),st):=
 bW aH (n+120) _ _ _ st _ _ bh (by decide) λx e=>⟨[.d (.int x),.d (fq d),.d (.str (tx (jc d))),.d (.list (aJ (KD d).row))],rfl,by
  have e:=a7.mp e;have h:=λn y(f:y<6)=>Ec (y:=y) (vG d) (qQ d) (KD d).rowAt (KD d).F.lt6 e f (λi j=>by rw[(KD d).F.len];exact(KD d).F.pos6 i j) n st;have a:=gC aH (n+118) (.call 17 "_law_came_first" [(.v 4),(.v 0),(.v 3),(.v 1),(.v 2)]) [.d (fq d),.d (.str (tx (jc d))),.d (.list (aJ (KD d).row)),.d (.int x)] .unb st (λy=>pB (KD d).row (pos (KD d).row) x y) bh (by decide) (λy f=>by
   have c:=λn=>h n y (a7.mp f);have c':∀n,callf aH (n+90) 17 [.d (.int x),.d (.int y),.d (.list (aJ (KD d).row)),.d (fq d),.d (.str (tx (jc d)))] st=some (.bool (pB (KD d).row (pos (KD d).row) x y),st):=c;exact congrArg (λo:Option (V×List aA)=>o.bind λr=>(aZ r.1).map λb=>(b,r.2)) (ku (c' (n+28))))
  exact pm (1::[]) λg=>g _ _ a rfl⟩
noncomputable def Bv(s a b:V):List V:=s::.ref 0::a::b::.d (cB (KD d))::.d (bs (dq d))::.ref 1::.d (eK (dj d))::.d (uA d)::.d (pg d)::.d (uJ d)::.d (fq d)::
 .d (.int (KD d).one)::.d (.int (KD d).two)::.d (.bool (kT d))::.d (.list (aJ (KD d).row))::.cmp (KD d).one (KD d).two::.ref 2::.ref 3::.ref 4::wd (WG d) 4::wd (WP d) 4::
 .d (.list (be (ce (KD d).row).lo))::.d (.list (be (ce (KD d).row).hi))::.d (.str (tx (jc d)))::.d (dY (aQ (KD d).row))::[.unb,.unb,.unb,.unb,.unb,.unb]
noncomputable def bB:List (Str×PyData):=dp (WG d) (KD d).lf (KD d).lk (ce (KD d).row).log
noncomputable def fG:List (Str×PyData):=dp (WP d) (KD d).lf (KD d).lk (ke (KD d).row)
theorem Ay(s k l:V):∃hs,mq 400 hs/\exs aH 287 (Bu d s k l) CO [aA.froz (bk d),aA.list dW,dc [],dc [],aA.list []]
  =exs aH 283 (Bv d s k l) AB [aA.froz (bk d),aA.list dW,dc (bB d),dc (fG d),aA.list hs]:=by
 obtain⟨a,m,b⟩:=Bj (KD d) (WG d) (ew d) [aA.froz (bk d),aA.list dW,dc [],dc [],aA.list []] 2 4 (by simp) (by simp) (by lia) [] (by rw[(KD d).tree_eq];exact(KD d).logT) (B:=0) (by lia) ⟨by simp,λ_ h=>nomatch h⟩;rw[(KD d).tree_eq]at b;obtain⟨e,j,c⟩:=A6 (KD d) (WP d) (ew d) 3 4 (by lia) 60 (by lia) 6 bh [aA.froz (bk d),aA.list dW,dc (bB d),dc [],aA.list a] [] a (by simp) (by simp) (by decide) (by decide) (by decide) (by decide) (by rw[(KD d).sort_eq];exact(KD d).logS) (by simpa using m);rw[(KD d).sort_eq]at c j;refine⟨e,⟨by have:=j.1;have:=(KD d).logS.len;lia,j.2⟩,?_⟩;have f:∀n,callf aH (n+130) 13 [.d (cB (KD d)),.cmp (KD d).one (KD d).two,.ref 2,wd (WG d) 4] [aA.froz (bk d),aA.list dW,dc [],dc [],aA.list []]=some (.tuple [.list (be (ce (KD d).row).lo),.list (be (ce (KD d).row).hi)],[aA.froz (bk d),aA.list dW,dc (bB d),dc [],aA.list a]):=b;have i:∀n,callf aH (n+110+20*6) 14 [.d (.list (aJ bh)),.d (cB (KD d)),.cmp (KD d).one (KD d).two,.ref 3,wd (WP d) 4] [aA.froz (bk d),aA.list dW,dc (bB d),dc [],aA.list a]=some (.none,[aA.froz (bk d),aA.list dW,dc (bB d),dc (fG d),aA.list e]):=c;have o:=f 154;have s1:callf aH 283 14 [.d (.list (aJ bh)),.d (cB (KD d)),.cmp (KD d).one (KD d).two,.ref 3,wd (WP d) 4] [aA.froz (bk d),aA.list dW,dc (bB d),dc [],aA.list a]=some (.none,[aA.froz (bk d),aA.list dW,dc (bB d),dc (fG d),aA.list e]):=i 53;exact wp 4 (1::1::1::1::[]) λg=>g _ _ o _ _ s1 _ _ (AO d _) _ _ (zb d _ _) rfl
end
theorem n5(st:List aA)(e:PyData)(h:fL e e=some true):dt st .NotEq (.d e) (.d e)=some (false,st):=by
 have key:(fz (.d e) st).bind (λr=>(fz (.d e) r.2).bind λq=>(fL r.1 q.1).bind λx=>some (!x,q.2))=some (false,st):=by simp only[ox,cv,h];rfl
 induction e using PyData.casesOn with
 |str s=>exact congrArg (λb=>some (!b,st)) (beq_self_eq_true s)
 |int i=>exact key
 |none=>exact key
 |bool b=>exact key
 |list l=>exact key
 |tuple l=>exact key
 |dict l=>exact key
theorem iG(st:List aA)(a b:List (Str×PyData))(h:fL (bg a) (bg b)=some true):dt st .NotEq (.d (bg a)) (.d (bg b))=some (false,st):=by show(fz (.d (bg a)) st).bind (λr=>(fz (.d (bg b)) r.2).bind λq=>(fL r.1 q.1).bind λx=>some (!x,q.2))=_;simp only[ox,cv,h];rfl
theorem pK(st:List aA)(r:Nat)(a b:List (Str×PyData))(c:aI st r=some (dc a))(h:fL (bg a) (bg b)=some true):dt st .NotEq (.ref r) (.d (bg b))=some (false,aT st r (.froz (bg a))):=by show(fz (.ref r) st).bind (λq=>(fz (.d (bg b)) q.2).bind λp=>(fL q.1 p.1).bind λx=>some (!x,p.2))=_;simp only[lM c,cv,ox,cv,n8,h];rfl
theorem Az(T:List FD)(n:Nat)(t:dJ)(a e:X)(env:List V)(st:List aA):∀ys:List PyData,(∀y∈ys,∃env',cd t (.d y) env=some env'/\jw T n (some a) env' st=some (false,st))->iW T n t (some a) e env ys st []=some ([],st):=by
 intro b;induction b with
 |nil=>exact λ_=>rfl
 |cons y ys c=>intro h;refine aK (h y (List.mem_cons_self ..)) λenv' f=>cx f λg i=>aB (qv _ _ _ _ _ _ (by simp)) (aB g ?_);rw[cv];exact aB i (c λz j=>h z (List.mem_cons_of_mem _ j))
theorem vv(n:Nat)(st:List aA)(hs:List PyData)(H:∀y∈hs,BP y):iW aH (n+10) (.tup [0,1]) (some (.cmp .NotEq (.v 0) (.v 1))) (.v 0) [.unb,.unb] hs st []=some ([],st):=
 Az aH (n+10) _ _ _ _ st hs λy c=>by refine aG λa=>?_;obtain⟨e,rfl,f⟩:=H y c;exact a ⟨[.d e,.d e],rfl,congrArg (λo:Option (Bool×List aA)=>(o.map λe:Bool×List aA=>((V.d (.bool e.1),e.2):V×List aA)).bind λr=>(aZ r.1).map λb=>(b,r.2)) (n5 st e f)⟩
section
variable(d:Nat->Int)
theorem yH(n:Nat)(st:List aA):iW aH (n+20) (.v 0) none (.bin .Sub (.k (.int 11)) (.v 0)) [.unb] (bh.map λk=>.int (dq d k)) st []
  =some (bh.map λk=>.int (11 -dq d k),st):=
 bW aH (n+20) _ _ _ st _ _ bh (by decide) λk _=>⟨[.d (.int (dq d k))],rfl,rfl⟩
noncomputable def jj:List (Str×PyData):=eu (WS d) (KD d).lf (KD d).lk (gU (aQ (KD d).row) bh)
noncomputable def y6(x:Nat)(ys:List Nat):PyData:=Ci (WS d) ((KD d).lf x) ((KD d).lk x) ys
noncomputable def lA:List (Str×PyData):=jk (WS d).T (y6 d) (gU (aQ (KD d).row) bh)
noncomputable def eU:List (Str×PyData):=jk (WS d).T (y6 d) (kz (ce (KD d).row).log)
theorem lB(W:Wd)(a:eh W.T)(b:∀i,i<6->PyData.strOk (W.T i)=true)(st:List aA)(hs:List PyData)(c:aI st 4=some (.list hs))(n:Nat):
  callf aH (n+60) 18 [.d (dY (aQ (KD d).row)),.d (.list (aJ (KD d).row)),.d (cB (KD d)),wd W 4] st=some (bg (eu W (KD d).lf (KD d).lk (gU (aQ (KD d).row) bh)),st):=
 Ce (KD d) W a b st 4 hs c (aQ (KD d).row) (Bk _) (KD d).row (pos (KD d).row) (KD d).rowAt (λx y e f=>(KD d).left x y e f) n
theorem y5(n:Nat)(st:List aA)(a b c:Int):iW aH (n+20) (.v 0) none (.bin .Mult (.k (.int 2)) (.v 0)) [.unb] [.int a,.int b,.int c] st []=some ([.int (2*a),.int (2*b),.int (2*c)],st):=
 bW aH (n+20) _ _ _ st PyData.int (λx=>.int (2*x)) [a,b,c] (Nat.le_of_ble_eq_true rfl) λx _=>⟨[.d (.int x)],rfl,congrArg (λo:Option V=>o.map λv=>(v,st)) (lY 2 x (.inr (.inr (.inr rfl))))⟩
theorem zD(n:Nat)(st:List aA):u1 aH (n+60) (.v 0) (.v 0) (.bin .Add (.bi .tuple (.lc (.bin .Mult (.k (.int 2)) (.v 0)) (.v 0) (.x (.slc (.idx (.v 1) (.v 0)) none (some (.k (.int 3))))) none B6)) (.slc (.idx (.v 1) (.v 0)) (some (.k (.int 3))) none)) [.unb,.d (bg (jj d))] ((jj d).map λp=>.str p.1) st [] []
  =some (aO (lA d),bH (lA d),st):=by
 have h:=ew d;have key:=wU aH (n+59) (.bin .Add (.bi .tuple (.lc (.bin .Mult (.k (.int 2)) (.v 0)) (.v 0) (.x (.slc (.idx (.v 1) (.v 0)) none (some (.k (.int 3))))) none B6)) (.slc (.idx (.v 1) (.v 0)) (some (.k (.int 3))) none)) [.d (bg (jj d))] .unb st (lA d) [] (jz h (y6 d) (aQ (KD d).row)) (by
   refine aG λe=>?_;have:(gU (aQ (KD d).row) bh).length<=6:=by unfold gU;rw[List.length_map];exact List.length_filter_le _ bh
   refine e ?_;simp[lA,jk];lia) (λq i=>by
   refine aK (List.mem_map.mp i) λp j=>?_;obtain⟨l,rfl⟩:=j;have m:gK (jj d) ((WS d).T p.1)=some (bR (WS d) ((KD d).lf p.1) ((KD d).lk p.1) p.2):=fP (p:=((WS d).T p.1,bR (WS d) ((KD d).lf p.1) ((KD d).lk p.1) p.2)) (jz h (λx ys=>bR (WS d) ((KD d).lf x) ((KD d).lk x) ys) (aQ (KD d).row)) ((List.mem_map.mpr ⟨p,l,rfl⟩:((WS d).T p.1,bR (WS d) ((KD d).lf p.1) ((KD d).lk p.1) p.2)∈jj d));have f:=λst=>nl st (jj d) ((WS d).T p.1);simp only[m]at f;exact pm (zs 1 (1::1::[])) λg=>g _ (f _) _ _ ((λn st a b c=>y5 n st a b c) _ _ _ _ _) _ (f _) rfl)
 have e1:(lA d).map (λq=>PyData.str q.1)=(jj d).map λp=>.str p.1:=by simp[lA,jj,jk,eu,WS]
 rw[e1]at key;exact key
theorem Gg(a b c e:Int):(a+b)+(c+e)=(a+c)+(b+e):=by omega
theorem xP(x:Nat)(ys:List Nat)(e:(ys.map (WS d).T).Nodup)(hl:ys.length<=50)(n:Nat)(st:List aA):
  callf aH (n+50) 1 [.d (bR (WG d) ((KD d).lf x) ((KD d).lk x) ys),.d (bR (WP d) ((KD d).lf x) ((KD d).lk x) ys)] st=some (y6 d x ys,st):=by
 have b:=λn st=>zm n st (WS d).T (kT d) (λy=>if(KD d).lf x y=true then(1:Int)else 2) (dq d) (λy=>if(KD d).lf x y=true then(3:Int)else 5) (λk=>11 -2*dq d k) ys e hl;have e1:(λy=>(if(KD d).lf x y=true then(1:Int)else 2)+if(KD d).lf x y=true then(3:Int)else 5)=λy=>if(KD d).lf x y=true then(4:Int)else 7:=funext λy=>by cases(KD d).lf x y<;>rfl
 have z:∀a:Int,a+(11 -2*a)=11 -a:=by omega
 simp only[e1,funext λy=>z (dq d y)]at b;have c:=tK (n+10) (rA ((KD d).lf x) ys) ys.length (rA ((KD d).lk x) ys) (jQ (WP d).cost ys) (rA ((KD d).lf x) ys) ys.length (rA ((KD d).lk x) ys) (jQ (WG d).cost ys) _ _ _ b st;have f:∀ys,jQ (WP d).cost ys+jQ (WG d).cost ys=jQ (WS d).cost ys:=λys=>by
  induction ys with
  |nil=>rfl
  |cons y ys g=>refine(?_:((WP d).cost y+jQ (WP d).cost ys)+((WG d).cost y+jQ (WG d).cost ys)=(WS d).cost y+jQ (WS d).cost ys);simp only[<-g,<-(((Int.add_comm ..).trans (z (dq d y)):(WP d).cost y+(WG d).cost y=(WS d).cost y))];exact Gg _ _ _ _
 simp only[f,<-Int.two_mul,<-Int.two_mul,<-Int.two_mul]at c;exact c
theorem Aj(n:Nat)(st:List aA)(r:aI st 2=some (.froz (bg (bB d))))(c:aI st 3=some (dc (fG d))):u1 aH (n+80) (.v 0) (.v 0) (.call 1 "add_func_stats" [(.idx (.v 1) (.v 0)),(.meth .get (.v 2) [(.v 0),(.tup [(.k (.int 0)),(.k (.int 0)),(.k (.int 0)),(.k (.int 0)),(.dct [] [])])])]) [.unb,.ref 2,.ref 3] ((bB d).map λp=>.str p.1) st [] []
  =some (aO (eU d),bH (eU d),st):=by
 have b:=ew d;refine eY (fA (KD d).F.tt) λz s A=>eY (fA (KD d).F.ts) λs1 s2 B=>?_;have qN:=(KD d).logT;have a:(aO (eU d)).Nodup:=by
  unfold eU;rw[pd];exact cN b (qz _) (λy t=>by
   refine aK (List.mem_map.mp t) λq e=>?_;obtain⟨f,rfl⟩:=e;exact qN.keys q f)
 have key:=wU aH (n+79) (.call 1 "add_func_stats" [(.idx (.v 1) (.v 0)),(.meth .get (.v 2) [(.v 0),(.tup [(.k (.int 0)),(.k (.int 0)),(.k (.int 0)),(.k (.int 0)),(.dct [] [])])])]) [.ref 2,.ref 3] .unb st (eU d) [] (by simpa using a) (by
   refine aG λh=>?_;have:=qN.lenA;refine h ?_;simp[eU,jk];lia) (λq f=>by
   refine aK (List.mem_map.mp f) λp e=>?_;obtain⟨i,rfl⟩:=e;obtain⟨e1,_⟩:=s p i;have l:=qN.keys p i;have u:gK (bB d) ((WS d).T p.1)=some (bR (WG d) ((KD d).lf p.1) ((KD d).lk p.1) p.2):=BY b (λx ys=>bR (WG d) ((KD d).lf x) ((KD d).lk x) ys) (qz _) qN.keys i;have j:(gK (fG d) ((WS d).T p.1)).getD (cZ 0 0 0 0 (bg []))=bR (WP d) ((KD d).lf p.1) ((KD d).lk p.1) p.2:=by have:=pv (W:=WP d) b (KD d).lf (KD d).lk p.1 l (kz (ke (KD d).row)) ((KD d).logS).keys;simp only[s1 p.1 l,<-e1]at this;exact this
   have m:=λst=>nl st (bB d) ((WS d).T p.1);rw[u]at m;have o:=qd ((WS d).T p.1) (cZ 0 0 0 0 (bg [])) c;rw[j]at o;have w:=λn st=>xP d p.1 p.2 ((by rw[e1];exact jT b _ _:(p.2.map (WS d).T).Nodup)) (by
    have:=jM (ea (KD d).row p.1) (gH (KD d).row p.1);rw[e1];lia) n st
   exact pm (zs 6 ([])) λg=>g _ _ (yD r) _ (m _) _ _ (bv c) _ (if_pos (uq c)) _ _ o _ _ (w _ _) rfl)
 have e1:(eU d).map (λq=>PyData.str q.1)=(bB d).map λp=>.str p.1:=by simp[eU,bB,dp,jk,eu,WS,WG]
 rw[e1]at key;exact key
end
section
variable(d:Nat->Int)
noncomputable def tW(s a b:V):List V:=s::.ref 0::a::b::.d (cB (KD d))::.d (bs (dq d))::.ref 1::.d (eK (dj d))::.d (uA d)::.d (pg d)::.d (uJ d)::.d (fq d)::
 .d (.int (KD d).one)::.d (.int (KD d).two)::.d (.bool (kT d))::.d (.list (aJ (KD d).row))::.cmp (KD d).one (KD d).two::.ref 2::.ref 3::.ref 4::wd (WG d) 4::wd (WP d) 4::
 .d (.list (be (ce (KD d).row).lo))::.d (.list (be (ce (KD d).row).hi))::.d (.str (tx (jc d)))::.d (dY (aQ (KD d).row))::.d (bg (jj d))::.d (bg (lA d))::.d (bg (eU d))::[.unb,.unb,.unb]
theorem Em(W:Wd)(a:eh W.T)(x:Nat):ie 7 (bR W ((KD d).lf x) ((KD d).lk x) (aQ (KD d).row x)) (bR W ((KD d).lf x) ((KD d).lk x) (aQ (KD d).row x))=true:=pZ 4 W _ _ _ (jT a _ _)
theorem xY(s f h:V)(hs:List PyData)(H:mq 400 hs):exs aH 283 (Bv d s f h) AB [aA.froz (bk d),aA.list dW,dc (bB d),dc (fG d),aA.list hs]
  =exs aH 279 (tW d s f h) CP [aA.froz (bk d),aA.list dW,aA.froz (bg (bB d)),aA.froz (bg (fG d)),aA.froz (.list hs)]:=by
 have a:=ew d;have b:=nI d;have k:∀ps:List (Str×PyData),(ps.map λp=>.str p.1)=(ps.map λp=>(PyData.str p.1,p.2)).map (·.1):=λps=>by rw[List.map_map];rfl
 have i:=λn=>Aj d n [aA.froz (bk d),aA.list dW,aA.froz (bg (bB d)),dc (fG d),aA.list hs] rfl rfl;have j:=zD d;simp only[k]at i j;have l:fL (bg (eU d)) (bg (lA d))=some true:=pe a (y6 d) (KD d).logT (KD d).F.tt (λx _=>xd 4 (WS d) _ _ _ (jT a _ _));have m:fL (bg (bB d)) (bg (eu (WG d) (KD d).lf (KD d).lk (gU (aQ (KD d).row) bh)))=some true:=pe a (λx ys=>bR (WG d) ((KD d).lf x) ((KD d).lk x) ys) (KD d).logT (KD d).F.tt (λx _=>Em d (WG d) a x);have o:fL (bg (fG d)) (bg (eu (WP d) (KD d).lf (KD d).lk (gU (aQ (KD d).row) bh)))=some true:=pe a (λx ys=>bR (WP d) ((KD d).lf x) ((KD d).lk x) ys) (KD d).logS (KD d).F.ts (λx _=>Em d (WP d) a x);have q:∀st,dt st .NotEq (.d (dD (aO (eU d)) (bH (eU d)))) (.d (dD (aO (lA d)) (bH (lA d))))=some (false,st):=λst=>by rw[j0,j0];exact iG st _ _ l
 have r:=pK [aA.froz (bk d),aA.list dW,aA.froz (bg (bB d)),dc (fG d),aA.list hs] 3 _ _ rfl o;have e:fz (.ref 2) [aA.froz (bk d),aA.list dW,dc (bB d),dc (fG d),aA.list hs]=some (bg (bB d),[aA.froz (bk d),aA.list dW,aA.froz (bg (bB d)),dc (fG d),aA.list hs]):=by rw[lM (c:=dc (bB d)) rfl,n8];rfl
 unfold AB tW;rw[<-j0 (eU d),<-j0 (lA d)];exact wp 4 (zs 1 (1::zs 1 (1::zs 2 (2::zs 1 (2::zs 1 (3::zs 1 ([]))))))) λg=>g _ _ (yH d _ _) _ _ (lB d (WS d) a b _ hs rfl _) _ _ _ (j _ _) _ _ e _ _ _ (i _) _ _ (q _) _ _ (lB d (WG d) a b _ hs rfl _) _ _ (iG _ _ _ m) _ _ (lB d (WP d) a b _ hs rfl _) _ _ r _ _ (vv _ _ hs H.2) _ _ (ye _ []) rfl
end
section
variable{nm ns:Nat->List Nat}(ok:zl nm ns)
include ok
theorem xl:∀a:List Tk,(∀t∈a,t.ok)->(a6 nm a).length<=6*a.length:=by
 intro b;induction b with
 |nil=>exact λ_=>by simp
 |cons t a d=>
  intro h;have f:=d λt e=>h t (List.mem_cons_of_mem _ e);have e:=h t (List.mem_cons_self ..);have:(t.str nm).length<=6:=by
   induction t using Tk.casesOn with
   |o=>simp[Tk.str]
   |c=>simp[Tk.str]
   |n k=>exact ok.len k e
  simp;lia
theorem ya{a T:List Tk}(g:∀t∈a,t.ok)(b:dh 0 a=some 0)(k:a=T++[.c]):
  ((EG (a6 nm a)).map kY==[true,true,true,true,false])=true:=by
 have qN:∀t∈T,t.ok:=λt m=>g t (by rw[k];exact List.mem_append_left _ m);have f:=λacc r=>o7 ok a acc r g;have l:=λacc r=>o7 ok T acc r qN;have j:=λr=>kZ ok a 0 r g;have i:=λr=>kZ ok T 0 r qN;have n:dh 0 T=some 1:=by
  rw[k,cD]at b;cases h:dh 0 T with
  |none=>rw[h]at b;cases b
  |some d=>
   rw[h]at b;have b:(if d=0 then none else some (d -1))=some 0:=b;split at b
   ·cases b
   ·simp at b
    congr 1
    lia
 rw[b]at j;rw[n]at i;have o:kY (a6 nm a++[34,92])=true:=by unfold kY;rw[f];show(di false 0 ([]++a6 ns a++[34,92])==some 0)=true;rw[List.nil_append,j];rfl
 have p:kY ((a6 nm a).dropLast++[34,41])=true:=by
  have e:(a6 nm a).dropLast=a6 nm T:=by rw[k];simp[Tk.str]
  rw[e];unfold kY;rw[l];show(di false 0 ([]++a6 ns T++[34,41])==some 0)=true;rw[List.nil_append,i];rfl
 have q:kY ([34,40,34]++a6 nm a++[34,41,34])=true:=by show(di false 0 (sq false false [] [] (a6 nm a++[34,41,34]))==some 0)=true;rw[f];show(di false 0 ([]++a6 ns a)==some 0)=true;have:=j [];rw[List.append_nil]at this;rw[List.nil_append,this];rfl
 have s:kY ([34,92,34,40,34]++a6 nm a)=true:=by show(di false 0 (sq false false [] [] (a6 nm a))==some 0)=true;have e:=f [] [];rw[List.append_nil]at e;rw[e];show(di false 0 ([]++a6 ns a)==some 0)=true;have:=j [];rw[List.append_nil]at this;rw[List.nil_append,this];rfl
 have u:kY ([41]++a6 nm a++[40])=false:=by show(di false 0 (sq false false [41] [] (a6 nm a++[40]))==some 0)=false;rw[f];rfl
 change([kY (a6 nm a++[34,92]),kY ((a6 nm a).dropLast++[34,41]),kY ([34,40,34]++a6 nm a++[34,41,34]),kY ([34,92,34,40,34]++a6 nm a),kY ([41]++a6 nm a++[40])]==_)=true;rw[o,p,q,s,u];rfl
end
theorem wS(U:Nat->List Nat):d0 (dY U)=true:=by
 have h:∀l:List Nat,PyData.canLayAll0 (aJ l)=true:=λl=>by
  induction l with
  |nil=>rfl
  |cons a r b=>simp[PyData.canLayAll0,PyData.canLay0,b]
 have e:∀l:List Nat,PyData.depthAll (aJ l)=0:=λl=>by
  induction l with
  |nil=>rfl
  |cons a r b=>simp[PyData.depthAll,PyData.depth,b]
 simp[d0,SeqAt.shaped,dY,L6,PyData.canLay0,PyData.canLayAll0,PyData.depth,PyData.depthAll,h,e]
section
variable(d:Nat->Int)
theorem G1:zl (dj d) (λk=>(97+k)::Ae (hN d k)):=H5 (hN d) (wq d)
noncomputable def jE(a:List Tk)(k:Nat):Nat:=(a6 (dj d) (a.take (km a k))).length
noncomputable def iB(a:List Tk)(k:Nat):Nat:=(a6 (dj d) (a.take (mv a k))).length
theorem uO(a b:List PyData)(h:a.length+b.length<=100):eI .Add (.d (.list a)) (.d (.list b))=some (.d (.list (a++b))):=by exact(if_pos (bb (by lia)))
theorem lJ(F:List Nat)(a:Nat->Nat)(h:∀k,k<6->jn F ([40]++dj d k) 0 F.length=some (a k))(n:Nat)(st:List aA):iW aH (n+20) (.v 0) none (.meth .index (.v 1) [(.bin .Add (.k (.str "(")) (.v 0))]) [.unb,.d (.str (tx F))] (bh.map λk=>.str (tx (dj d k))) st []=some (bh.map λk=>.int (a k),st):=
 bW aH (n+20) _ _ _ st _ _ bh (by decide) λk b=>⟨[.d (.str (tx (dj d k))),.d (.str (tx F))],rfl,by
  exact pm (1::zs 1 ([])) λg=>g _ (jo cL (l4 d k) rfl) _ _ (vw (h k (a7.mp b)) _) rfl⟩
theorem r8(F:List Nat)(a c:Nat->Nat)(f:F.length<=400)(i:∀k,k<6->a k<=F.length)(h:∀k,k<6->(List.range' (a k+1) (F.length -a k)).find? (mG F (a k))=some (c k))(n:Nat)(st:List aA):iW aH (n+120) (.v 0) none (.call 16 "_law_end" [(.v 2),(.idx (.v 1) (.v 0))]) [.unb,.d (bs λk=>(a k:Int)),.d (.str (tx F))] (([1,2,3,4,5]:List Nat).map λk:Nat=>.int k) st []=some (([1,2,3,4,5]:List Nat).map λk=>.int (c k),st):=
 bW aH (n+120) _ _ _ st _ _ [1,2,3,4,5] (by decide) λk b=>⟨[.d (.int k),.d (bs λk=>(a k:Int)),.d (.str (tx F))],rfl,by
  have b:k<6:=a7.mp (List.mem_cons_of_mem 0 b);have e:=λn=>Ch n st F f (a k) (i k b);rw[h k b]at e;exact pm (zs 2 ([])) λg=>g _ (cM (λk=>(a k:Int)) _ k b) _ _ (e _) rfl⟩
theorem ug(a c:Nat->Nat)(n:Nat)(st:List aA):iW aH (n+60) (.v 0) none (.lc (.v 0) (.v 0) (.rng [(.k (.int 6))]) (some (.bop .And [(.cmp .Lt (.idx (.v 2) (.v 3)) (.idx (.v 2) (.v 0))),(.cmp .LtE (.idx (.v 1) (.v 0)) (.idx (.v 1) (.v 3)))])) Eh) [.unb,.d (bs λk=>(c k:Int)),.d (bs λk=>(a k:Int))] (bh.map λk:Nat=>.int k) st []=some (bh.map λx=>.list (aJ (bh.filter λy=>decide (a x<a y)&&decide (c y<=c x))),st):=
 bW aH (n+60) _ _ _ st _ _ bh (by decide) λx f=>⟨[.d (.int x),.d (bs λk=>(c k:Int)),.d (bs λk=>(a k:Int))],rfl,by
  have f:=a7.mp f;have e:=gC aH (n+58) (.bop .And [(.cmp .Lt (.idx (.v 2) (.v 3)) (.idx (.v 2) (.v 0))),(.cmp .LtE (.idx (.v 1) (.v 0)) (.idx (.v 1) (.v 3)))]) [.d (bs λk=>(c k:Int)),.d (bs λk=>(a k:Int)),.d (.int x)] .unb st (λy=>decide (a x<a y)&&decide (c y<=c x)) bh (by decide) (λy i=>by
   have i:=a7.mp i;have j:=λst=>cM (λk=>(a k:Int)) st x f;have l:=λst=>cM (λk=>(a k:Int)) st y i;have m:=λst=>cM (λk=>(c k:Int)) st x f;have p:=λst=>cM (λk=>(c k:Int)) st y i;have e1:decide ((a x:Int)<a y)=decide (a x<a y):=decide_eq_decide.mpr Int.ofNat_lt;have q:decide ((c y:Int)<=c x)=decide (c y<=c x):=decide_eq_decide.mpr Int.ofNat_le;rw[<-e1,<-q];refine congrArg (λo:Option (V×List aA)=>o.bind λr=>(aZ r.1).map λb=>(b,r.2)) (a₂:=some (.d (.bool (decide ((a x:Int)<a y)&&decide ((c y:Int)<=c x))),st)) ?_;cases h:decide ((a x:Int)<a y)with
   |false=>rw[Bool.false_and,<-h];exact pm (zs 2 (1::[])) λg=>g _ (j _) _ (l _) _ (tb h) rfl
   |true=>
    rw[Bool.true_and];exact pm (zs 2 (1::zs 2 ([]))) λg=>g _ (j _) _ (l _) _ (tb h) _ (p _) _ (m _) rfl)
  exact pm (1::[]) λg=>g _ _ e rfl⟩
theorem Aw(s W X:V)(st:List aA):∃r,exs aH 279 (tW d s W X) CP st=some r/\r.1=.ret (.d (.bool true)):=by
 refine aG λb=>?_;obtain⟨a,N⟩:=yf (KD d).F.nest;refine b ?_;have m:=G1 d;have c:=qC _ _ 7 _ a N.nest;have u:(a6 (dj d) a).length<=108:=by have:=xl m a c;rw[N.len]at this;exact this
 refine aG λb=>?_;obtain⟨A0,M0,R0,aa,H,a2,I,a4,a5,Y,Z⟩:=N.sub 0 (by lia);refine b ?_;have J:A0=[]:=by rw[N.f0]at Y;exact List.length_eq_zero_iff.mp Y.symm
 have eR:R0=[]:=by rw[N.b0,J]at Z;have:=N.len;rw[H,J]at this;simp at this Z;exact List.length_eq_zero_iff.mp (by lia)
 rw[J,eR,List.nil_append,List.append_nil]at H;rw[<-H]at I;obtain⟨T,hT⟩:=I.last;have p:=ya m c I.bal hT;have K:a6 (dj d) a≠[]:=by rw[hT];simp[Tk.str]
 have i:=λn st=>x9 n st (a6 (dj d) a) K (by lia);rw[p]at i;have v:=λn st=>AH (ce (KD d).row).lo (ce (KD d).row).hi (nF (KD d).F.slo) (nF (KD d).F.shi) (dj d) 7 (some 0) a n st N.nest (by lia);have t:∀st,callf aH 276 15 [.d (.int 0),.d (.list (be (ce (KD d).row).lo)),.d (.list (be (ce (KD d).row).hi)),.d (eK (dj d))] st=some (.str (tx (a6 (dj d) a)),st):=λst=>v 186 st;have w:∀k,k<6->jn (a6 (dj d) a) ([40]++dj d k) 0 (a6 (dj d) a).length=some (jE d a k):=by
  intro k h;refine aG λb=>?_;obtain⟨A,M,R,L,j,O,z,P,Q,B,E⟩:=N.sub k h;refine b ?_;have e:a=A++(.o::.n k::(L++R)):=by rw[j,O];simp
  have:=vz m h c e P Q;unfold jE;rw[B,show a.take A.length=A by rw[j];simp];exact this
 have C:∀k,k<6->(List.range' (jE d a k+1) ((a6 (dj d) a).length -jE d a k)).find? (mG (a6 (dj d) a) (jE d a k))=some (iB d a k):=by intro k h;refine aG λb=>?_;obtain⟨A,M,R,L,j,O,z,P,Q,B,E⟩:=N.sub k h;refine b ?_;have:=zI m c j z.last z.bal z.no;unfold jE iB;rw[B,E,show a.take A.length=A by rw[j];simp,show a.take (A.length+M.length)=A++M by rw[j,<-List.append_assoc];exact List.take_left' (by simp)];exact this
 have f:∀k,k<6->km a k<=a.length/\mv a k<=a.length:=by intro k h;refine aG λb=>?_;obtain⟨A,M,R,L,j,O,z,P,Q,B,E⟩:=N.sub k h;refine b ?_;rw[B,E,j];simp
 have fl:∀k,k<6->jE d a k<=(a6 (dj d) a).length:=λk h=>by have:=uH m c (f k h).1 (Nat.le_refl a.length);rw[List.take_length]at this;exact this.mpr (f k h).1
 have b0:iB d a 0=(a6 (dj d) a).length:=by unfold iB;rw[N.b0,List.take_of_length_le (Nat.le_of_eq N.len)]
 have un:∀x,x<6->bh.filter (λy=>decide (jE d a x<jE d a y)&&decide (iB d a y<=iB d a x))=aQ (KD d).row x:=λx D=>by
  rw[N.under x D];exact List.filter_congr λy G=>by have G:=a7.mp G;exact congr (congrArg and (decide_eq_decide.mpr (uI m c (f x D).1 (f y G).1))) (decide_eq_decide.mpr (uH m c (f y G).2 (f x D).2))
 have ug:=λn st=>ug (jE d a) (iB d a) n st;rw[List.map_congr_left λx D=>congrArg (λl=>PyData.list (aJ l)) (un x (a7.mp D))]at ug;have lJ:=lJ d (a6 (dj d) a) (jE d a) w;have r8:=r8 (a6 (dj d) a) (jE d a) (iB d a) (Nat.le_trans u (by decide)) fl C;have ln:=λst=>f6 st (a6 (dj d) a) (by lia);have ad:=uO [.int (a6 (dj d) a).length] (([1,2,3,4,5]:List Nat).map λk=>.int (iB d a k)) (by simp);have bE:PyData.list ([PyData.int (a6 (dj d) a).length]++([1,2,3,4,5]:List Nat).map λk=>PyData.int (iB d a k))=bs λk=>(iB d a k:Int):=by rw[<-b0];rfl
 have S:eI .Add (.d (.list [.int (a6 (dj d) a).length])) (.d (.list (([1,2,3,4,5]:List Nat).map λk=>.int (iB d a k))))=some (.d (bs λk=>(iB d a k:Int))):=by rw[<-bE];exact ad
 have U:∀st,dt st .Eq (.d (dY (aQ (KD d).row))) (.d (dY (aQ (KD d).row)))=some (true,st):=λst=>by have:=fh st (L6 λx=>PyData.list (aJ (aQ (KD d).row x))) (L6 λx=>PyData.list (aJ (aQ (KD d).row x)));have q:fL (dY (aQ (KD d).row)) (dY (aQ (KD d).row))=some true:=lF (wS _);rw[show fL (.list (L6 λx=>PyData.list (aJ (aQ (KD d).row x)))) (.list (L6 λx=>PyData.list (aJ (aQ (KD d).row x))))=some true from q]at this;exact this
 refine⟨(.ret (.d (.bool true)),eA (eA (eA (tW d s W X) 29 (.d (.str (tx (a6 (dj d) a))))) 30 (.d (bs λk=>(jE d a k:Int)))) 31 (.d (bs λk=>(iB d a k:Int))),st),?_,rfl⟩;exact go (zs 2 (2::zs 1 (1::zs 1 (1::zs 1 ([]))))) λg=>g _ _ (t _) _ _ (i _ _) _ _ (lJ _ _) _ _ (ln _) _ _ (r8 _ _) _ (S) _ _ (ug _ _) _ _ (U _) rfl
end
theorem G3(ds:List Int)(h:ds.length=9):∃d:Nat->Int,bu ds=w3 d:=by
 refine⟨λn=>ds.getD n 0,?_⟩;show bu ds=(List.range 9).map λn=>PyData.int (ds.getD n 0);refine List.ext_getElem ?_ λi a b=>?_
 ·simp only[gz,h];rfl
 ·rw[gz]at a;simp only[bu,List.getElem_map,List.getElem_range,List.getD_eq_getElem?_getD,List.getElem?_eq_getElem a,Option.getD_some]
theorem law_true(xs:List Int)(h:xs.length<=63):∃r,exs aH 300 (.d (.list (bu xs))::.unb::.unb::.unb::tD) tL []=some r/\r.1=.ret (.d (.bool true)):=by refine cU (vH xs h) λds b c a=>cx a λf e=>?_;obtain⟨d,g⟩:=G3 ds f;simp only[e,g,vJ,CM,Ax];refine aK (Ay d (.d (.list (bu xs))) b c) λhs a=>?_;have H:=a.1;refine aB (a.2) (aB (xY d _ b c hs H) ?_);exact Aw d _ b c _
end Mine
end
theorem PySem.Challenge.cw_xb0025_01_holds : PySem.Challenge.rw_xb0025_01.Holds := by
  exact Mine.holds_of fun is h => Mine.law_true is h
